import PyProof.Rows.All
import Wide.All
import OpenK.AllK
import Wide.FinOn
import Lean
import PySem.Challenge.RW_oc0327_01
open PySem PySem.W PyProof.Rows PySem.W.X
set_option Elab.async false
set_option linter.all false
set_option autoImplicit false
set_option maxRecDepth 100000
set_option maxHeartbeats 0
namespace Mine
noncomputable def topRunT (den : Code → Sem PySem.Fin) (p : Program) (w : World) (n₀ : Nat) (ann : Option Value) : Nat → SharedT → Thread → Option SharedT
  | 0, _, _ => none
  | n+1, s, t => match through t with
    | true => some s
    | false => match stepOk n₀ ann t with
      | false => none
      | true => match stepT den p w s t with
        | some (s', t') => topRunT den p w n₀ ann n s' t'
        | none => none
theorem topRunT_spec {tb : String → Option Builtin} {p : Program} {w : World} {n₀ : Nat} {ann : Option Value} : ∀ {n : Nat} {s s' : SharedT} {t : Thread}, topRunT (denote tb) p w n₀ ann n s t = some s' → topRun tb p w n₀ ann n s.abs t = some s'.abs
  | 0, _, _, _, h => by cases h
  | n+1, s, s', t, h => by
    unfold topRunT at h
    unfold topRun
    cases he : through t with
    | true => rw [he] at h; cases h; rfl
    | false =>
      rw [he] at h
      cases hk : stepOk n₀ ann t with
      | false => rw [hk] at h; cases h
      | true =>
        rw [hk] at h
        cases hs : stepT (denote tb) p w s t with
        | none => rw [hs] at h; cases h
        | some r => obtain ⟨s₂, t₂⟩ := r; rw [hs] at h; rw [stepT_spec hs]; exact topRunT_spec h
noncomputable def ofL : List Obj → Nat → BT → Option (BT × Nat)
  | [], n, t => some (t, n)
  | o :: l, n, t => match ((t.ins n o).get n).isSome with
    | true => ofL l (n+1) (t.ins n o)
    | false => none
theorem ofL_spec {life : Life} : ∀ {l : List Obj} {n n' : Nat} {t t' : BT}, ofL l n t = some (t', n') → absHeap t' n' life = ⟨(absHeap t n life).objs ++ l.toArray, life⟩
  | [], n, n', t, t', h => by cases h; show absHeap t n life = ⟨(absHeap t n life).objs ++ #[], life⟩; rw [Array.append_empty]; rfl
  | o :: l, n, n', t, t', h => by
    unfold ofL at h
    split at h
    · rename_i g
      rw [ofL_spec h, absHeap_ins g]
      show Heap.mk _ _ = Heap.mk _ _
      refine congrArg (Heap.mk · life) ?_
      show ((absHeap t n life).objs.push o) ++ l.toArray = _
      apply Array.ext'
      simp
    · cases h
noncomputable def topFromT (den : Code → Sem PySem.Fin) (p : Program) (w : World) (N : Nat) (s₀ : Shared) : Option Shared := match s₀.heap.isNs mainGlobals && s₀.gens.size == 0 with
  | true => match ofL s₀.heap.objs.toList 0 .nil with
    | some (t, n) => (topRunT den p w s₀.heap.objs.size (s₀.heap.nsMap mainGlobals (Str.ofString "__annotations__")) N ⟨t, n, s₀.heap.life, s₀.gens, s₀.drawn, s₀.toks, s₀.os⟩ (topStub p)).bind fun s₁ =>
      match staticsOk (importedModules p.main.body) s₀.heap s₁.abs.heap && namesBound p s₁.abs.heap && gensDone s₁.abs && laidKept s₀.heap s₁.abs.heap with
      | true => some s₁.abs
      | false => none
    | none => none
  | false => none
theorem topFromT_spec {tb : String → Option Builtin} {p : Program} {w : World} {N : Nat} {s₀ s : Shared} (h : topFromT (denote tb) p w N s₀ = some s) : topFrom tb p w N s₀ = some s := by
  unfold topFromT at h
  unfold topFrom
  split at h
  · rename_i e
    rw [e]
    split at h
    · rename_i t n e2
      obtain ⟨s₁, h1, h2⟩ := Option.bind_eq_some_iff.mp h
      have e3 : (⟨t, n, s₀.heap.life, s₀.gens, s₀.drawn, s₀.toks, s₀.os⟩ : SharedT).abs = s₀ := by
        show Shared.mk (absHeap t n s₀.heap.life) _ _ _ _ = s₀
        rw [ofL_spec e2]
        obtain ⟨⟨⟨l⟩, life⟩, gs, d, k, os⟩ := s₀
        show Shared.mk ⟨#[] ++ l.toArray, life⟩ _ _ _ _ = _
        simp
      have h3 := topRunT_spec h1
      rw [e3] at h3
      show (topRun tb p w s₀.heap.objs.size _ N s₀ (topStub p)).bind _ = some s
      rw [h3]
      exact h2
    · cases h
  · cases h
noncomputable abbrev topS (p : Program) (w : World) (N : Nat) : Option Shared := (fencedOpening Fast.tw14364793385576792824 p w N).bind (topFromT (PySem.W.Fast.tw11892475500146522536 Fast.tw14364793385576792824) p w N)
theorem left_tree {p p' q : Program} {loose : List PySem.Str} {Xt : Shared → Bool} {α : Type} {Yf : Shared → α} {Ya : World → α} {N : Nat} (ep : p = p')
    (h1 : ∀ w, (topS p' w N).map (fun s => Fast.tw4187177175401517315 q loose (Fast.tw5923862056798008813 p'.main.body) Xt true s) = some (openGood q loose))
    (h2 : ∀ w, (topS p' w N).map Yf = some (Ya w)) : LeftO p q loose Xt Yf Ya N := fun w => by
  subst ep
  have a := h1 w
  have b := h2 w
  unfold topS at a b
  rw [← Fast.te14364793385576792824, ← Fast.te11892475500146522536] at a b
  rw [← Fast.te4187177175401517315, ← Fast.te5923862056798008813] at a
  obtain ⟨s, hs, e⟩ := Option.map_eq_some_iff.mp a
  obtain ⟨s', hs', e'⟩ := Option.map_eq_some_iff.mp b
  rw [hs] at hs'
  cases hs'
  obtain ⟨s₀, h0, h3⟩ := Option.bind_eq_some_iff.mp hs
  have h2 := topFromT_spec h3
  unfold openEnds
  rw [h0]
  show (topFrom treeTable p w N s₀).map _ = _
  rw [h2]
  exact congrArg some (Prod.ext e e')
noncomputable def q : Program := view PySem.Challenge.pw_oc0327_01 [0, 1, 3, 4, 5, 7, 9, 12, 13, 14, 15, 16, 18, 19, 20, 21, 22, 23, 24]
noncomputable def loose : List PySem.Str := ["tspecials", "_name_disallowed_re", "_value_disallowed_re", "_formatparam", "_initial_missing", "reduce", "_NodeInfo"]
noncomputable def d : DefRec := match defOf q "law" with | some x => x.1 | none => ⟨"", ⟨[], [], none, [], [], none, []⟩, [], ⟨.function, [], false, false, []⟩, ⟨0,0,0,0⟩⟩
noncomputable def Mine.Xt0 : Shared → Bool := fun s => xlAt q [] s && recOk (RowW.records (PySem.Challenge.rw_oc0327_01.row.toRowW)) s
theorem Mine.said_ok : PySem.Challenge.rw_oc0327_01.wellSaid = true := by kernel_rfl
theorem Mine.top_looks (w : World) : (Mine.topS PySem.Challenge.pw_oc0327_01 w 4742).map (fun s => Fast.tw4187177175401517315 q loose (Fast.tw5923862056798008813 PySem.Challenge.pw_oc0327_01.main.body) Mine.Xt0 true s) = some (openGood q loose) := by kernel_rfl
local macro_rules | `(tactic| o_head $H) => `(tactic| (
  refine holds_open (q := q) (loose := loose) (Xt := Mine.Xt0) (XP := XL q []) (Yf := Hook.obs $H) (Ya := Hook.val $H) (YP := Hook.says $H) (d := d) (kwd := []) (N := 4742) ?hl (Hook.of $H) (Hook.keeps $H) (fun s e => xl_of s (Bool.and_eq_true_iff.mp e).1) XL.keeps ?h1 ?h2 ?h3 (fun s e => recFacts_of (Bool.and_eq_true_iff.mp e).2) (by rfl) (by first | assumption | decide +kernel) (by decide +kernel) ⟨rfl, rfl, rfl, rfl, rfl, by decide +kernel⟩ ?hw ?hc
  (case h1 => kernel_rfl)
  (case h2 => kernel_rfl)
  (case h3 => kernel_rfl)
  (case hl => (refine left_tree (p' := PySem.Challenge.pw_oc0327_01) ?e0 Mine.top_looks ?la
               (case e0 => kernel_rfl)
               (case la => (intro w; kernel_rfl))))))
local macro_rules | `(tactic| o_law) => `(tactic| refine holds_law Mine.said_ok fun said => ?_)
local macro_rules | `(tactic| k_head) => `(tactic| x_head)
open_top hd for PySem.Challenge.rw_oc0327_01
set_option genInjectivity false
set_option genSizeOf false
set_option genSizeOfSpec false
noncomputable def den (c:Code):Sem PySem.Fin:=PySem.W.Fast.tw11892475500146522536 PySem.W.ZFast.tableZ c
theorem den_eq (c:Code):denote table c = den c:=by
 show denote table c = PySem.W.Fast.tw11892475500146522536 PySem.W.ZFast.tableZ c
 rw [← PySem.W.Fast.te11892475500146522536,← PySem.W.ZFast.tableZ_eq]
noncomputable def okEs:List DictEntry→Bool
 | [] => true
 | e :: r => match e.key with
  | .str x _ => match PySem.W.Fast.sEq x "sys.recursionlimit" with
   | true => false
   | false => okEs r
  | _ => false
noncomputable def okStat (o:Obj):Bool:=match o.data with
 | .dict ⟨es⟩ _ => okEs es
 | _ => false
noncomputable def enter (a:Addr) (fd:FuncData) (b:List Stmt) (args:Args):Sem PySem.Fin:=match fd.code with
 | .ref cc => (PySem.W.Fast.tw6609576154772507232 (.ref cc) 1).bind fun v=>match v with
  | .str q _ => match PySem.W.Fast.sEq q fd.qualname with
   | true => (PySem.W.Fast.tw9782568553167038054 fd args).bind fun binds =>
    (PySem.W.Fast.tw11113344188204177931 fd.scope fd.globals fd.closure binds (fd.qualname++".<locals>.") (some a) (.ref cc) none fd.builtins).bind fun env =>
     Sem.load cStatics none fun oc=>match okStat oc with
      | true => .pure (.again (.func b env))
      | false => .unsupported ""
   | false => .unsupported ""
  | _ => .unsupported ""
 | _ => .unsupported ""
noncomputable abbrev Lim (D U k:Nat):Prop:=D + k < recursionLimit∧U+10 * k < 9900
theorem Lim.up {D U k m u k':Nat} (h:Lim D U k) (a:Nat.ble (m + k') k = true:=by rfl) (b:Nat.ble (u + 10 * k') (10 * k) = true:=by rfl):Lim (D + m) (U + u) k':=by
 have a':=Nat.le_of_ble_eq_true a
 have b':=Nat.le_of_ble_eq_true b
 omega
theorem Lim.lo {D U k k':Nat} (h:Lim D U k) (a:Nat.ble k' k = true:=by rfl):Lim D U k':=by
 have a':=Nat.le_of_ble_eq_true a
 omega
noncomputable def cmpR (op:CmpOp) (a b:Value):Sem Value:=match a.onHeap || b.onHeap with
 | true => match PySem.W.Fast.tw12886488535604756494 op a b with
  | .stack k => k []
  | t => t
 | false => PySem.W.Fast.tw12886488535604756494 op a b
noncomputable def opR (l:Expr) (op:CmpOp) (r:Expr) (pos:Pos) (env:Env):Sem Value :=
 (PySem.W.Fast.tw14044960220447912780 l env).bind fun a=>(PySem.W.Fast.tw17359229931016689406 [a] (PySem.W.Fast.tw10513115210890433525 op r (PySem.W.Fast.tw14044960220447912780 r env))).bind fun b =>
  (standAt pos).bind fun _=>PySem.W.Fast.tw8004119333741010377 [a,b] (cmpR op a b)
noncomputable def isCmp:Expr→Option (Expr × CmpOp × Expr × Pos)
 | .Compare l ops rs pos => match ops,rs with
  | [op],[r] => match op with
   | .Eq => some (l,.Eq,r,pos)
   | .NotEq => some (l,.NotEq,r,pos)
   | _ => none
  | _,_ => none
 | _ => none
noncomputable def execR (st:Stmt) (env:Env):Sem Flow:=match st with
 | .If test b o pos => match isCmp test with
  | some x => (standAt pos).bind fun _=>(opR x.1 x.2.1 x.2.2.1 x.2.2.2 env).bind fun c=>(PySem.W.Fast.tw17359229931016689406 [c] (PySem.W.Fast.tw15245631507167962100 c)).bind fun z=>match z with
   | true => PySem.W.Fast.tw12563942051412417395 b env
   | false => PySem.W.Fast.tw12563942051412417395 o env
  | none => PySem.W.Fast.tw12563942051412417395 [.If test b o pos] env
 | .Return e pos => match e with
  | some e => match isCmp e with
   | some x => (standAt pos).bind fun _=>(opR x.1 x.2.1 x.2.2.1 x.2.2.2 env).bind fun c=>.pure (.ret c)
   | none => PySem.W.Fast.tw12563942051412417395 [.Return (some e) pos] env
  | none => PySem.W.Fast.tw12563942051412417395 [.Return none pos] env
 | st => PySem.W.Fast.tw12563942051412417395 [st] env
noncomputable def execsR:List Stmt→Env→Sem Flow
 | [],_ => .pure .next
 | st :: rest,env => (execR st env).bind fun f=>match f with
  | .next => execsR rest env
  | f => .pure f
noncomputable def hasCmp:List Stmt→Bool
 | [] => false
 | st :: rest => match st with
  | .If test _ _ _ => match isCmp test with
   | some _ => true
   | none => hasCmp rest
  | .Return e _ => match e with
   | some e => match isCmp e with
    | some _ => true
    | none => hasCmp rest
   | none => hasCmp rest
  | _ => hasCmp rest
noncomputable def funcR (body:List Stmt) (env:Env):Sem PySem.Fin :=
 point.bind fun _=>(PySem.W.R.onRaiseR (execsR body env) (PySem.W.Fast.tw9442747609961115081 env)).bind fun f=>match f with
  | .ret v => PySem.W.Fast.tw6905046200447255374 v
  | _ => PySem.W.Fast.tw6905046200447255374 .none
noncomputable def whileR (l:Expr) (op:CmpOp) (r:Expr) (pos:Pos) (test:Expr) (body orelse:List Stmt) (env:Env):Sem PySem.Fin :=
 PySem.W.R.onRaiseR ((opR l op r pos env).bind fun c=>(PySem.W.Fast.tw17359229931016689406 [c] (PySem.W.Fast.tw15245631507167962100 c)).bind fun z=>match z with
  | true => (PySem.W.Fast.tw12563942051412417395 body env).bind fun f=>match f with
   | .next => .pure (.again (.whileLoop test body orelse env))
   | .cont => .pure (.again (.whileLoop test body orelse env))
   | .brk => .pure (.done .next)
   | .ret v => .pure (.done (.ret v))
  | false => (PySem.W.Fast.tw12563942051412417395 orelse env).bind fun f=>.pure (.done f))
  fun x=>(PySem.W.Fast.tw17872113653443481271 x env).bind fun _=>PySem.W.Fast.tw1623429502029203251 x
section
variable {M:Model} {Γ:Ctx}
theorem room_k (vs:List Value) (f:Unit→Sem Value) (what:String):∃ k:List (Code × Pos)→Sem Value,Sem.keep vs (cRoom what >>= f) = .stack k∧∀ st:List (Code × Pos),(st.map (·.1.cUnits)).sum < cLine→k st = Sem.keep vs (f ()) :=
 ⟨fun st=>Sem.keep vs ((if (st.map (·.1.cUnits)).sum ≥ cLine then unsupported s!"recursion.c-limit:near:{what}" else pure ()) >>= f),rfl,fun st h=>by
  show Sem.keep vs ((if (st.map (·.1.cUnits)).sum ≥ cLine then unsupported s!"recursion.c-limit:near:{what}" else pure ()) >>= f) = _
  rw [if_neg (Nat.not_le.mpr h)]; rfl⟩
theorem cmp_room (hr:∀ p:Pos,((((Γ.code,p) :: Γ.below).map (·.1.cUnits)).sum < cLine)) {op:CmpOp} (hop:op = .Eq∨op = .NotEq) {a b:Value} {Q:Value→Pos→Shared→Prop} {E:Value→Pos→Shared→Prop} {p:Pos} {s:Shared}
  (h:Sem.wp M Γ (cmpR op a b) Q E p s):Sem.wp M Γ (compareOp op a b) Q E p s:=by
 unfold cmpR at h
 rw [← PySem.W.Fast.te12886488535604756494] at h
 split at h
 ·rename_i hh
  have key:∃ k:List (Code × Pos)→Sem Value,compareOp op a b = .stack k∧∀ st:List (Code × Pos),(st.map (·.1.cUnits)).sum < cLine→k st = k []:=by
   have he:compareOp op a b = richCompare op a b:=by rcases hop with rfl | rfl <;> rfl
   rw [he]
   have hany:([a,b].any Value.onHeap) = true:=by
    simpa using hh
   unfold richCompare
   rw [holding_eq_keep,show cRoomFor "comparison" [a,b] = cRoom "comparison" from if_pos hany]
   obtain ⟨k,h1,h2⟩:=room_k ([a,b].filter fun | .ref _ => true | _ => false) _ "comparison"
   exact ⟨k,h1,fun st hst=>by rw [h2 st hst,h2 [] (by decide)]⟩
  obtain ⟨k,hk,hs⟩:=key
  rw [hk] at h ⊢
  rw [Sem.wp_stack,hs _ (hr p)]
  exact h
 ·exact h
theorem opR_sound (hr:∀ p:Pos,((((Γ.code,p) :: Γ.below).map (·.1.cUnits)).sum < cLine)) {op:CmpOp} (hop:op = .Eq∨op = .NotEq) {l r:Expr} {pos:Pos} {env:Env} {Q:Value→Pos→Shared→Prop} {E:Value→Pos→Shared→Prop} {p:Pos} {s:Shared}
  (h:Sem.wp M Γ (opR l op r pos env) Q E p s):Sem.wp M Γ (eval (.Compare l [op] [r] pos) env) Q E p s:=by
 unfold opR at h
 rw [← PySem.W.Fast.te14044960220447912780,← PySem.W.Fast.te17359229931016689406,← PySem.W.Fast.te10513115210890433525,← PySem.W.Fast.te8004119333741010377] at h
 rw [eval_Compare1,Sem.wp_bind']
 rw [Sem.wp_bind] at h
 refine Sem.wp_mono M Γ _ (fun a p1 s1 h1=>?_) (fun _ _ _ e=>e) p s h
 rw [Sem.wp_bind']
 rw [Sem.wp_bind] at h1
 refine Sem.wp_mono M Γ _ (fun b p2 s2 h2=>?_) (fun _ _ _ e=>e) p1 s1 h1
 rw [Sem.wp_bind']
 rw [Sem.wp_bind] at h2
 refine Sem.wp_mono M Γ _ (fun _ p3 s3 h3=>?_) (fun _ _ _ e=>e) p2 s2 h2
 unfold operate at h3 ⊢
 rw [Sem.wp_bind',Sem.wp_holding] at h3 ⊢
 exact cmp_room hr hop h3
theorem isCmp_some {e:Expr} {x:Expr × CmpOp × Expr × Pos} (h:isCmp e = some x):e = .Compare x.1 [x.2.1] [x.2.2.1] x.2.2.2∧(x.2.1 = .Eq∨x.2.1 = .NotEq):=by
 unfold isCmp at h
 split at h
 ·split at h
  ·split at h
   ·cases h; exact ⟨rfl,.inl rfl⟩
   ·cases h; exact ⟨rfl,.inr rfl⟩
   ·cases h
  ·cases h
 ·cases h
theorem execs1_wp {st:Stmt} {env:Env} {Q:Flow→Pos→Shared→Prop} {E:Value→Pos→Shared→Prop} {p:Pos} {s:Shared} (h:Sem.wp M Γ (execs [st] env) Q E p s):Sem.wp M Γ (exec st env) Q E p s:=by
 rw [execs_cons,Sem.wp_bind'] at h
 refine Sem.wp_mono M Γ _ (fun f p1 s1 h1=>?_) (fun _ _ _ e=>e) p s h
 cases f <;> exact h1
theorem test_sound (hr:∀ p:Pos,((((Γ.code,p) :: Γ.below).map (·.1.cUnits)).sum < cLine)) {op:CmpOp} (hop:op = .Eq∨op = .NotEq) {l r:Expr} {pos:Pos} {env:Env} {whole:Sem Value} {Q:Bool→Pos→Shared→Prop} {E:Value→Pos→Shared→Prop} {p:Pos} {s:Shared}
  (h:Sem.wp M Γ (opR l op r pos env) (fun c p' s'=>Sem.wp M Γ (holding [c] (truthy c)) Q E p' s') E p s):Sem.wp M Γ (isTrue (.Compare l [op] [r] pos) env whole) Q E p s:=by
 have h1:=opR_sound hr hop h
 rw [eval_Compare1] at h1
 rw [isTrue_Compare1]
 rw [Sem.wp_bind'] at h1 ⊢
 refine Sem.wp_mono M Γ _ (fun a p1 s1 h1=>?_) (fun _ _ _ e=>e) p s h1
 rw [Sem.wp_bind'] at h1 ⊢
 refine Sem.wp_mono M Γ _ (fun b p2 s2 h2=>?_) (fun _ _ _ e=>e) p1 s1 h1
 rw [Sem.wp_bind'] at h2 ⊢
 refine Sem.wp_mono M Γ _ (fun _ p3 s3 h3=>?_) (fun _ _ _ e=>e) p2 s2 h2
 rw [Sem.wp_bind']
 exact h3
theorem execR_sound (hr:∀ p:Pos,((((Γ.code,p) :: Γ.below).map (·.1.cUnits)).sum < cLine)) {st:Stmt} {env:Env} {Q:Flow→Pos→Shared→Prop} {E:Value→Pos→Shared→Prop} {p:Pos} {s:Shared}
  (h:Sem.wp M Γ (execR st env) Q E p s):Sem.wp M Γ (exec st env) Q E p s:=by
 unfold execR at h
 rw [← PySem.W.Fast.te17359229931016689406,← PySem.W.Fast.te15245631507167962100,← PySem.W.Fast.te12563942051412417395] at h
 split at h
 ·rename_i test b o pos
  split at h
  ·rename_i x hx
   obtain ⟨rfl,hop⟩:=isCmp_some hx
   rw [exec_If,Sem.wp_bind']
   rw [Sem.wp_bind] at h
   refine Sem.wp_mono M Γ _ (fun _ p1 s1 h1=>?_) (fun _ _ _ e=>e) p s h
   rw [Sem.wp_bind']
   refine test_sound hr hop ?_
   rw [Sem.wp_bind] at h1
   refine Sem.wp_mono M Γ _ (fun c p2 s2 h2=>?_) (fun _ _ _ e=>e) p1 s1 h1
   rw [Sem.wp_bind] at h2
   refine Sem.wp_mono M Γ _ (fun z p3 s3 h3=>?_) (fun _ _ _ e=>e) p2 s2 h2
   cases z
   ·rw [if_neg Bool.false_ne_true]; exact h3
   ·rw [if_pos rfl]; exact h3
  ·exact execs1_wp h
 ·rename_i e pos
  split at h
  ·rename_i e
   split at h
   ·rename_i x hx
    obtain ⟨rfl,hop⟩:=isCmp_some hx
    rw [exec_Return_some,Sem.wp_bind']
    rw [Sem.wp_bind] at h
    refine Sem.wp_mono M Γ _ (fun _ p1 s1 h1=>?_) (fun _ _ _ e=>e) p s h
    rw [Sem.wp_bind']
    rw [Sem.wp_bind] at h1
    exact opR_sound hr hop h1
   ·exact execs1_wp h
  ·exact execs1_wp h
 ·exact execs1_wp h
theorem execsR_sound (hr:∀ p:Pos,((((Γ.code,p) :: Γ.below).map (·.1.cUnits)).sum < cLine)) {env:Env} {Q:Flow→Pos→Shared→Prop} {E:Value→Pos→Shared→Prop}:∀ {body:List Stmt} {p:Pos} {s:Shared},
  Sem.wp M Γ (execsR body env) Q E p s→Sem.wp M Γ (execs body env) Q E p s
 | [],_,_,h => h
 | st :: rest,p,s,h => by
  unfold execsR at h
  rw [execs_cons,Sem.wp_bind']
  rw [Sem.wp_bind] at h
  refine execR_sound hr ?_
  refine Sem.wp_mono M Γ _ (fun f p1 s1 h1=>?_) (fun _ _ _ e=>e) p s h
  cases f with
  | next => exact execsR_sound hr h1
  | _ => exact h1
theorem funcR_sound (hr:∀ p:Pos,((((Γ.code,p) :: Γ.below).map (·.1.cUnits)).sum < cLine)) {env:Env} {body:List Stmt} {Q:PySem.Fin→Pos→Shared→Prop} {E:Value→Pos→Shared→Prop} {p:Pos} {s:Shared}
  (h:Sem.wp M Γ (funcR body env) Q E p s):Sem.wp M Γ (denote table (.func body env)) Q E p s:=by
 unfold funcR at h
 rw [← PySem.W.Fast.te9442747609961115081,← PySem.W.Fast.te6905046200447255374,← PySem.W.R.onRaiseR_eq] at h
 show Sem.wp M Γ (do point; match ← (execs body env).onRaise (leaving env) with | .ret v => ret v | _ => ret .none) Q E p s
 rw [Sem.wp_bind']
 rw [Sem.wp_bind] at h
 refine Sem.wp_mono M Γ _ (fun _ p1 s1 h1=>?_) (fun _ _ _ e=>e) p s h
 rw [Sem.wp_bind',Sem.wp_onRaise]
 rw [Sem.wp_bind,Sem.wp_onRaise] at h1
 refine execsR_sound hr ?_
 refine Sem.wp_mono M Γ _ (fun f p2 s2 h2=>?_) (fun _ _ _ e=>e) p1 s1 h1
 cases f <;> exact h2
theorem whileR_sound (hr:∀ p:Pos,((((Γ.code,p) :: Γ.below).map (·.1.cUnits)).sum < cLine)) {x:Expr × CmpOp × Expr × Pos} {test:Expr} (hx:isCmp test = some x) {env:Env} {body orelse:List Stmt} {Q:PySem.Fin→Pos→Shared→Prop} {E:Value→Pos→Shared→Prop} {p:Pos} {s:Shared}
  (h:Sem.wp M Γ (whileR x.1 x.2.1 x.2.2.1 x.2.2.2 test body orelse env) Q E p s):Sem.wp M Γ (denote table (.whileLoop test body orelse env)) Q E p s:=by
 unfold whileR at h
 rw [← PySem.W.Fast.te17359229931016689406,← PySem.W.Fast.te15245631507167962100,← PySem.W.Fast.te12563942051412417395,← PySem.W.Fast.te17872113653443481271,← PySem.W.Fast.te1623429502029203251,← PySem.W.R.onRaiseR_eq] at h
 obtain ⟨ht,hop⟩:=isCmp_some hx
 show Sem.wp M Γ ((whileTurn test body orelse env).onRaise (fun x=>do noteFrame x env; theTreesLotGoes x)) Q E p s
 rw [Sem.wp_onRaise] at h ⊢
 unfold whileTurn
 rw [Sem.wp_bind']
 rw [Sem.wp_bind] at h
 conv => arg 3; rw [ht]
 refine test_sound hr hop ?_
 refine Sem.wp_mono M Γ _ (fun c p2 s2 h2=>?_) (fun _ _ _ e=>e) p s h
 rw [Sem.wp_bind] at h2
 refine Sem.wp_mono M Γ _ (fun z p3 s3 h3=>?_) (fun _ _ _ e=>e) p2 s2 h2
 cases z
 ·rw [if_neg Bool.false_ne_true]; exact h3
 ·rw [if_pos rfl]
  rw [Sem.wp_bind']
  dsimp only at h3
  rw [Sem.wp_bind] at h3
  refine Sem.wp_mono M Γ _ (fun f p4 s4 h4=>?_) (fun _ _ _ e=>e) p3 s3 h3
  cases f <;> exact h4
end
noncomputable def den2 (c:Code):Sem PySem.Fin:=match c with
 | .call f args => match f with
  | .ref a => Sem.load a none fun o=>match o.data with
   | .func fd => match fd.body with
    | .stmts b => match fd.scope.isGenerator,fd.scope.isCoroutine with
     | false,false => enter a fd b args
     | _,_ => .unsupported ""
    | _ => .unsupported ""
   | _ => den c
  | _ => den c
 | .func body env => match hasCmp body with
  | true => funcR body env
  | false => den c
 | .whileLoop test body orelse env => match isCmp test with
  | some x => whileR x.1 x.2.1 x.2.2.1 x.2.2.2 test body orelse env
  | none => den c
 | c => den c
theorem okEs_keys:∀ {l:List DictEntry},okEs l = true→∀ e∈l,∃ n t,e.key = .str n t∧n≠"sys.recursionlimit"
 | [],_,_,h => nomatch h
 | e :: r,hk,x,hx => by
  unfold okEs at hk
  split at hk
  ·rename_i n t he
   split at hk
   ·cases hk
   ·rename_i hn
    rcases List.mem_cons.mp hx with rfl | hx
    ·refine ⟨n,t,he,fun q=>?_⟩
     rw [PySem.W.Fast.sEq_iff.mpr q] at hn
     cases hn
    ·exact okEs_keys hk x hx
  ·cases hk
theorem noLimit_of {h:Heap} {o:Obj} (ho:h.get? cStatics = some o) (hk:okStat o = true):h.NoLimit:=by
 unfold okStat at hk
 split at hk
 ·rename_i es ep hd
  refine ⟨nsFind ⟨es⟩,⟨o,⟨es⟩,ep,ho,hd,?_,fun _=>rfl⟩,?_⟩
  ·intro e he
   obtain ⟨n,t,h1,_⟩:=okEs_keys hk e (by simpa using he)
   exact ⟨n,t,h1⟩
  ·unfold nsFind findBy
   rw [Option.map_eq_none_iff,Array.find?_eq_none]
   intro e he
   obtain ⟨n,t,h1,h2⟩:=okEs_keys hk e (by simpa using he)
   rw [h1]
   simpa [Value.isStr] using h2
 ·cases hk
theorem enter_sound {prog:Program} {w:World} {A:Around} {a:Addr} {o:Obj} {fd:FuncData} {b:List Stmt} {args:Args} {Q:PySem.Fin→Shared→Prop} {E:Value→Shared→Prop} {s:Shared}
  (ho:s.heap.get? a = some o) (hd:o.data = .func fd) (hb:fd.body = .stmts b) (hg:fd.scope.isGenerator = false) (hc:fd.scope.isCoroutine = false) (hroom:A.depth < recursionLimit)
  (h:wpOwn (model prog w) A (.call (.ref a) args) (enter a fd b args) Q E s):wpOwn (model prog w) A (.call (.ref a) args) (denote table (.call (.ref a) args)) Q E s:=by
 intro Γ p hΓc hΓ
 have h1:=h Γ p hΓc hΓ
 unfold enter at h1
 rw [← PySem.W.Fast.te6609576154772507232,← PySem.W.Fast.te9782568553167038054,← PySem.W.Fast.te11113344188204177931] at h1
 split at h1
 ·rename_i cc hcd
  have h2:Sem.wp (model prog w) Γ (field (.ref cc) 1 >>= fun v=>_) _ _ p s:=h1
  rw [Sem.wp_bind'] at h2
  show Sem.wp (model prog w) Γ (callAny (.ref a) args) _ _ p s
  simp only [callAny]
  rw [Sem.wp_bind',Sem.wp_load_of _ _ _ _ _ ho]
  simp only [hd,callFunction,hb,hg,hc,hcd]
  rw [Sem.wp_bind']
  refine Sem.wp_mono _ Γ _ (fun v p1 s1 h3=>?_) (fun _ _ _ e=>e) p s h2
  split at h3
  ·rename_i q tq
   split at h3
   ·rename_i hq
    obtain rfl:=PySem.W.Fast.sEq_iff.mp hq
    rw [Sem.wp_bind',Sem.wp_pure']
    have h4:Sem.wp (model prog w) Γ (bindArgs fd args >>= fun binds=>_) _ _ p1 s1:=h3
    rw [Sem.wp_bind'] at h4 ⊢
    refine Sem.wp_mono _ Γ _ (fun binds p2 s2 h5=>?_) (fun _ _ _ e=>e) p1 s1 h4
    have h6:Sem.wp (model prog w) Γ (newFunctionEnv _ _ _ _ _ _ _ _ _ >>= fun env=>_) _ _ p2 s2:=h5
    rw [Sem.wp_bind'] at h6 ⊢
    refine Sem.wp_mono _ Γ _ (fun env p3 s3 h7=>?_) (fun _ _ _ e=>e) p2 s2 h6
    rw [Sem.wp_load] at h7
    obtain ⟨oc,hoc,h8⟩:=h7
    split at h8
    ·rename_i hok
     have hin:Γ.In A.in1:=by
      have:=hΓ.in
      rw [hΓc] at this
      exact this
     rw [Sem.wp_bind']
     exact Sem.wp_mono (model prog w) Γ _ (fun _ _ _ h9=>h9) (fun _ _ _ h9=>h9) p3 s3 (wpAny_enterFrame (M:=model prog w) (A:=A.in1) (E:=E) (Q:=fun _ s4=>Q (.again (.func b env)) s4) (noLimit_of hoc hok) hroom h8 Γ p3 hin)
    ·exact absurd h8 (by rw [Sem.wp]; exact id)
   ·exact absurd h3 (by rw [Sem.wp]; exact id)
  ·exact absurd h3 (by rw [Sem.wp]; exact id)
 ·exact absurd h1 (by rw [Sem.wp]; exact id)
theorem den2_sound {prog:Program} {w:World} {A:Around} {c:Code} {Q:PySem.Fin→Shared→Prop} {E:Value→Shared→Prop} {s:Shared} (hroom:A.depth < recursionLimit) (hun:A.units+10 < 9900)
  (h:wpOwn (model prog w) A c (den2 c) Q E s):wpOwn (model prog w) A c (denote table c) Q E s:=by
 unfold den2 at h
 split at h
 ·split at h
  ·rename_i args _ a
   intro Γ p hΓc hΓ
   have h1:=h Γ p hΓc hΓ
   rw [Sem.wp_load] at h1
   obtain ⟨o,ho,h2⟩:=h1
   have key:wpOwn (model prog w) A (.call (.ref a) args) (match o.data with
     | .func fd => match fd.body with
      | .stmts b => match fd.scope.isGenerator,fd.scope.isCoroutine with
       | false,false => enter a fd b args
       | _,_ => .unsupported ""
      | _ => .unsupported ""
     | _ => den (.call (.ref a) args)) Q E s:=by
    intro Γ' p' hc' hB'
    have h1':=h Γ' p' hc' hB'
    rw [Sem.wp_load] at h1'
    obtain ⟨o',ho',h2'⟩:=h1'
    rw [ho] at ho'
    cases ho'
    exact h2'
   clear h h2
   split at key
   ·rename_i fd hd
    split at key
    ·rename_i b hb
     split at key
     ·rename_i hg hc
      exact enter_sound ho hd hb hg hc hroom key Γ p hΓc hΓ
     ·exact absurd (key Γ p hΓc hΓ) (by rw [Sem.wp]; exact id)
    ·exact absurd (key Γ p hΓc hΓ) (by rw [Sem.wp]; exact id)
   ·rw [den_eq]; exact key Γ p hΓc hΓ
  ·rw [den_eq]; exact h
 ·rename_i body env
  split at h
  ·intro Γ p hΓc hΓ
   refine funcR_sound (fun q=>?_) (h Γ p hΓc hΓ)
   have hin:=(lies_of (p:=q) hΓ.in).units
   rw [hΓc] at hin ⊢
   have e1:(A.under (.func body env)).units = A.units + (Code.func body env).cUnits:=rfl
   have e2:(Code.func body env).cUnits = 3:=rfl
   have e3:cLine = 9900:=rfl
   omega
  ·rw [den_eq]; exact h
 ·rename_i test body orelse env
  split at h
  ·rename_i x hx
   intro Γ p hΓc hΓ
   refine whileR_sound (fun q=>?_) hx (h Γ p hΓc hΓ)
   have hin:=(lies_of (p:=q) hΓ.in).units
   rw [hΓc] at hin ⊢
   have e1:(A.under (.whileLoop test body orelse env)).units = A.units + (Code.whileLoop test body orelse env).cUnits:=rfl
   have e2:(Code.whileLoop test body orelse env).cUnits = 0:=rfl
   have e3:cLine = 9900:=rfl
   omega
  ·rw [den_eq]; exact h
 ·rw [den_eq]; exact h
structure St where
 L:List (Addr × Obj)
 n:Nat
 t:Nat
 z:List (Addr × Obj)
structure HV where
 v:Option Value
 f:Option (List Env)
noncomputable abbrev Hd:=Option HV
noncomputable def hdV:Hd→Option Value
 | none => none
 | some x => x.v
noncomputable def hdC (m:Option Value) (c:Code):Hd→Hd
 | none => match m with
  | none => none
  | some e => some ⟨some e,none⟩
 | some x => some ⟨m.or x.v,pushEnvs c.envs x.f⟩
noncomputable def HdOk (hd:Hd) (A:Around):Prop:=match hd with
 | none => A.handled = none
 | some x => A.handled = x.v∧∀ l,x.f = some l→A.frames = some l
theorem HdOk.handled {hd:Hd} {A:Around} (h:HdOk hd A):A.handled = hdV hd:=by
 cases hd with
 | none => exact h
 | some x => exact h.1
theorem HdOk.under {hd:Hd} {A:Around} {c:Code} {m:Option Value} (h:HdOk hd A):HdOk (hdC m c hd) ((A.under c).mark m):=by
 cases hd with
 | none =>
  have h':A.handled = none:=h
  cases m with
  | none => show Option.or none A.handled = none; rw [h']; rfl
  | some e => exact ⟨rfl,fun l hl=>nomatch hl⟩
 | some x =>
  refine ⟨by show m.or A.handled = m.or x.v; rw [h.1],fun l hl=>?_⟩
  obtain ⟨l₀,h0,rfl⟩:=pushEnvs_some hl
  show pushEnvs c.envs A.frames = _
  rw [h.2 l₀ h0,pushEnvs_eq]; rfl
structure Lv where
 hd:Hd
 m:Nat
 u:Nat
inductive Kont where
 | nil
 | cons (c:Code) (lv:Lv) (mark:Option Value) (k:Result→Sem PySem.Fin) (κ:Kont)
inductive Hs:Type 1 where
 | nil
 | num (h:Nat) (r:Hs)
 | cut (b b2:Nat) (V:Type) (r:V→Result) (N:V→List (Addr × Obj)) (os:V→List Obj) (n t:V→Nat) (Z:V→List (Addr × Obj)) (rest:V→Hs)
noncomputable def Hs.of:List Nat→Hs→Hs
 | [],r => r
 | h :: l,r => .num h (Hs.of l r)
noncomputable def forceList {α:Type}:List α→(List α→Prop)→Prop
 | [],k => k []
 | x :: xs,k => forceList xs fun ys=>k (x :: ys)
noncomputable def forceEs:List DictEntry→(List DictEntry→Prop)→Prop
 | [],k => k []
 | ⟨h,x,v⟩ :: xs,k => forceEs xs fun ys=>k (⟨h,x,v⟩ :: ys)
noncomputable def forceObj (o:Obj) (k:Obj→Prop):Prop:=match o with
 | ⟨c,d,dt,sl⟩ => match dt with
  | .dict ⟨es⟩ n => forceEs es fun es=>k ⟨c,d,.dict ⟨es⟩ n,sl⟩
  | .seq ⟨xs⟩ n => forceList xs fun xs=>k ⟨c,d,.seq ⟨xs⟩ n,sl⟩
  | .fields ⟨xs⟩ => forceList xs fun xs=>k ⟨c,d,.fields ⟨xs⟩,sl⟩
  | .freed => False
  | dt => k ⟨c,d,dt,sl⟩
theorem forceList_iff {α:Type}:∀ (l:List α) (k:List α→Prop),forceList l k↔k l
 | [],_ => Iff.rfl
 | x :: xs,k => forceList_iff xs fun ys=>k (x :: ys)
theorem forceEs_iff:∀ (l:List DictEntry) (k:List DictEntry→Prop),forceEs l k↔k l
 | [],_ => Iff.rfl
 | ⟨h,x,v⟩ :: xs,k => forceEs_iff xs fun ys=>k (⟨h,x,v⟩ :: ys)
theorem forceObj_of {o:Obj} {k:Obj→Prop} (h:forceObj o k):o.isFreed = false∧k o:=by
 obtain ⟨c,d,dt,sl⟩:=o
 cases dt with
 | dict es n => obtain ⟨es⟩:=es; exact ⟨rfl,(forceEs_iff es _).mp h⟩
 | seq xs n => obtain ⟨xs⟩:=xs; exact ⟨rfl,(forceList_iff xs _).mp h⟩
 | fields xs => obtain ⟨xs⟩:=xs; exact ⟨rfl,(forceList_iff xs _).mp h⟩
 | freed => exact h.elim
 | _ => exact ⟨rfl,h⟩
noncomputable def getL:List (Addr × Obj)→Nat→Option (Addr × Obj)
 | [],_ => none
 | p :: _,0 => some p
 | _ :: r,n+1 => getL r n
noncomputable def putL:List (Addr × Obj)→Nat→Obj→List (Addr × Obj)
 | [],_,_ => []
 | p :: r,0,o => (p.1,o) :: r
 | p :: r,n+1,o => p :: putL r n o
theorem getL_eq:∀ (l:List (Addr × Obj)) (i:Nat),getL l i = l[i]?
 | [],_ => by simp [getL]
 | p :: r,0 => by simp [getL]
 | p :: r,n+1 => by simp [getL,getL_eq r n]
theorem putL_eq:∀ (l:List (Addr × Obj)) (i:Nat) (o:Obj) (p:Addr × Obj),l[i]? = some p→putL l i o = l.set i (p.1,o)
 | [],_,_,_,h => by simp at h
 | q :: r,0,o,p,h => by simp at h; subst h; rfl
 | q :: r,n+1,o,p,h => by
  show q :: putL r n o = q :: r.set n (p.1,o)
  rw [putL_eq r n o p (by simpa using h)]
noncomputable def lookK:Frag→Nat→Option Obj
 | [],_ => none
 | p :: r,a => match Nat.beq a p.1 with
  | true => some p.2
  | false => lookK r a
theorem lookK_eq:∀ (K:Frag) (a:Nat),lookK K a = K.lookup a
 | [],_ => rfl
 | (b,o) :: r,a => by
  show (match Nat.beq a b with | true => some o | false => lookK r a) = List.lookup a ((b,o) :: r)
  rw [List.lookup_cons,lookK_eq r a,show (a == b) = Nat.beq a b from by rw [BT.beq_eq]; rfl]
  cases Nat.beq a b <;> rfl
noncomputable def pick:Nat→List (Addr × Obj)→List (Addr × Obj)
 | _,[] => []
 | b,p :: l => match Nat.beq (b % 2) 1 with
  | true => p :: pick (b / 2) l
  | false => pick (b / 2) l
noncomputable def pick2:Nat→Nat→List (Addr × Obj)→List (Addr × Obj)
 | _,_,[] => []
 | b,b2,p :: l => match Nat.beq (b % 2) 1 with
  | true => pick2 (b / 2) (b2 / 2) l
  | false => match Nat.beq (b2 % 2) 1 with
   | true => p :: pick2 (b / 2) (b2 / 2) l
   | false => pick2 (b / 2) (b2 / 2) l
noncomputable def fill:Nat→List (Addr × Obj)→List Obj→List (Addr × Obj)
 | _,[],_ => []
 | b,p :: l,os => match Nat.beq (b % 2) 1 with
  | true => match os with
   | o :: os => (p.1,o) :: fill (b / 2) l os
   | [] => p :: fill (b / 2) l []
  | false => p :: fill (b / 2) l os
noncomputable def setO:List (Addr × Obj)→List Obj→List (Addr × Obj)
 | p :: l,o :: os => (p.1,o) :: setO l os
 | l,[] => l
 | [],_ => []
noncomputable abbrev CutTy:=Nat→Nat→Code→Hd→List (Addr × Obj)→List (Addr × Obj)→Nat→Nat→(V:Type)→(V→Result)→(V→List (Addr × Obj))→(V→List Obj)→(V→Nat)→(V→Nat)→(V→List (Addr × Obj))→Prop
noncomputable def AllEq:List (Nat × Nat)→Prop
 | [] => True
 | p :: r => p.1 = p.2∧AllEq r
noncomputable def dup (l:List Nat):List (Nat × Nat):=l.map fun a=>(a,a)
theorem allEq_dup:∀ l,AllEq (dup l)
 | [] => trivial
 | _ :: l => ⟨rfl,allEq_dup l⟩
noncomputable def run (K:Frag) (im:List (Addr × Obj)) (P:Setting) (D U:Nat) (Cut:CutTy) (Q:Result→St→Prop):Nat→Hs→List (Nat × Nat)→Kont→Lv→Code→Sem PySem.Fin→St→Prop
 | 0,_,_,_,_,_,_,_ => False
 | n+1,hs,q,κ,lv,c,t,s => match t with
  | .pure fin => match fin with
   | .done f => match κ with
    | .nil => AllEq q∧Q (.ok f) s
    | .cons c' lv' _ k κ' => run K im P D U Cut Q n hs q κ' lv' c' (k (.ok f)) s
   | .again c' => match hs with
    | .nil => False
    | .num h hs => match h with
     | 1 => match c'.quiet,Nat.ble lv.m 50,Nat.ble lv.u 300 with
      | true,true,true => run K im P D U Cut Q n hs q κ lv c' (den2 c') s
      | _,_,_ => False
     | _ => False
    | .cut b b2 V r N os n' t' Z rest => match c'.quiet with
     | true => (AllEq q∧Cut (D + lv.m) (U + lv.u) c' lv.hd (pick b s.L) (pick2 b b2 s.L++s.z) s.n s.t V r N os n' t' Z)∧∀ v,match κ with
      | .nil => Q (r v) ⟨N v++fill b s.L (os v),n' v,t' v,Z v++s.z⟩
      | .cons c' lv' _ k κ' => run K im P D U Cut Q n (rest v) [] κ' lv' c' (k (r v)) ⟨N v++fill b s.L (os v),n' v,t' v,Z v++s.z⟩
     | false => False
  | .raise e => match κ with
   | .nil => AllEq q∧Q (.error e) s
   | .cons c' lv' _ k κ' => run K im P D U Cut Q n hs q κ' lv' c' (k (.error e)) s
  | .rule _ k => run K im P D U Cut Q n hs q κ lv c (k ()) s
  | .at _ k => run K im P D U Cut Q n hs q κ lv c (k ()) s
  | .point _ k => run K im P D U Cut Q n hs q κ lv c (k ()) s
  | .ask k => run K im P D U Cut Q n hs q κ lv c (k P) s
  | .load a _ k => match hs with
   | .num h hs => match h with
    | 0 => match lookK K a with
     | some o => run K im P D U Cut Q n hs q κ lv c (k o) s
     | none => False
    | m+1 => match Nat.beq (m % 2) 0 with
     | true => match getL s.L (m / 2) with
      | some p => run K im P D U Cut Q n hs ((a,p.1) :: q) κ lv c (k p.2) s
      | none => False
     | false => match getL im (m / 2) with
      | some p => run K im P D U Cut Q n hs ((a,p.1) :: q) κ lv c (k p.2) s
      | none => False
   | _ => False
  | .loadIfAlive a k => match hs with
   | .num h hs => match h with
    | 0 => match lookK K a with
     | some o => run K im P D U Cut Q n hs q κ lv c (k (some o)) s
     | none => False
    | m+1 => match Nat.beq (m % 2) 0 with
     | true => match getL s.L (m / 2) with
      | some p => run K im P D U Cut Q n hs ((a,p.1) :: q) κ lv c (k (some p.2)) s
      | none => False
     | false => match getL im (m / 2) with
      | some p => run K im P D U Cut Q n hs ((a,p.1) :: q) κ lv c (k (some p.2)) s
      | none => False
   | _ => False
  | .alloc o k => forceObj o fun o=>run K im P D U Cut Q n hs q κ lv c (k s.n) ⟨(s.n,o) :: s.L,s.n+1,s.t,s.z⟩
  | .update a _ f k => match hs with
   | .num h hs => match h with
    | 0 => False
    | m+1 => match getL s.L (m / 2) with
     | some p => forceObj (f p.2) fun o=>run K im P D U Cut Q n hs ((a,p.1) :: q) κ lv c (k ()) ⟨putL s.L (m / 2) o,s.n,s.t,s.z⟩
     | none => False
   | _ => False
  | .fresh k => run K im P D U Cut Q n hs q κ lv c (k s.t) ⟨s.L,s.n,s.t+1,s.z⟩
  | .handled own k => match own with
   | false => run K im P D U Cut Q n hs q κ lv c (k (hdV lv.hd)) s
   | true => False
  | .call c' hd' _ _ k => match okMark hd' with
   | true => match hs with
    | .num h hs => match h with
     | 1 => match Nat.ble (lv.m + c.weight) 50,Nat.ble (lv.u + c.cUnits) 300 with
      | true,true => run K im P D U Cut Q n hs q (.cons c lv hd' k κ) ⟨hdC hd' c lv.hd,lv.m + c.weight,lv.u + c.cUnits⟩ c' (den2 c') s
      | _,_ => False
     | _ => False
    | .cut b b2 V r N os n' t' Z rest => (AllEq q∧Cut (D + (lv.m + c.weight)) (U + (lv.u + c.cUnits)) c' (hdC hd' c lv.hd) (pick b s.L) (pick2 b b2 s.L++s.z) s.n s.t V r N os n' t' Z)∧∀ v,run K im P D U Cut Q n (rest v) [] κ lv c (k (r v)) ⟨N v++fill b s.L (os v),n' v,t' v,Z v++s.z⟩
    | _ => False
   | false => False
  | .stack k => AllEq q∧∀ st,run K im P D U Cut Q n hs [] κ lv c (k st) s
  | _ => False
theorem run_eqs {K:Frag} {im:List (Addr × Obj)} {P:Setting} {D U:Nat} {Cut:CutTy} {Q:Result→St→Prop}:∀ (n:Nat) (hs:Hs) (q:List (Nat × Nat)) (κ:Kont) (lv:Lv) (c:Code) (t:Sem PySem.Fin) (s:St),
  run K im P D U Cut Q n hs q κ lv c t s→AllEq q:=by
 intro n
 induction n with
 | zero => intro hs q κ lv c t s h; exact h.elim
 | succ n ih =>
  intro hs q κ lv c t s h
  cases t with
  | pure fin =>
   cases fin with
   | done f => cases κ with
    | nil => exact h.1
    | cons => exact ih _ _ _ _ _ _ _ h
   | again c' => cases hs with
    | nil => exact h.elim
    | num hn hs =>
     unfold run at h
     dsimp only at h
     split at h
     ·split at h
      ·exact ih _ _ _ _ _ _ _ h
      ·exact h.elim
     ·exact h.elim
    | cut b b2 V r N os n' t' Z rest =>
     unfold run at h
     dsimp only at h
     split at h
     ·exact h.1.1
     ·exact h.elim
  | raise e => cases κ with
   | nil => exact h.1
   | cons => exact ih _ _ _ _ _ _ _ h
  | rule _ k => exact ih _ _ _ _ _ _ _ h
  | «at» _ k => exact ih _ _ _ _ _ _ _ h
  | point _ k => exact ih _ _ _ _ _ _ _ h
  | ask k => exact ih _ _ _ _ _ _ _ h
  | load a x k => cases hs with
   | nil => exact h.elim
   | cut => exact h.elim
   | num hn hs =>
    unfold run at h
    dsimp only at h
    split at h
    ·split at h
     ·exact ih _ _ _ _ _ _ _ h
     ·exact h.elim
    ·split at h
     ·split at h
      ·exact (ih _ _ _ _ _ _ _ h).2
      ·exact h.elim
     ·split at h
      ·exact (ih _ _ _ _ _ _ _ h).2
      ·exact h.elim
  | loadIfAlive a k => cases hs with
   | nil => exact h.elim
   | cut => exact h.elim
   | num hn hs =>
    unfold run at h
    dsimp only at h
    split at h
    ·split at h
     ·exact ih _ _ _ _ _ _ _ h
     ·exact h.elim
    ·split at h
     ·split at h
      ·exact (ih _ _ _ _ _ _ _ h).2
      ·exact h.elim
     ·split at h
      ·exact (ih _ _ _ _ _ _ _ h).2
      ·exact h.elim
  | alloc o k =>
   unfold run at h
   exact ih _ _ _ _ _ _ _ (forceObj_of h).2
  | update a x f k => cases hs with
   | nil => exact h.elim
   | cut => exact h.elim
   | num hn hs =>
    unfold run at h
    dsimp only at h
    split at h
    ·exact h.elim
    ·split at h
     ·exact (ih _ _ _ _ _ _ _ (forceObj_of h).2).2
     ·exact h.elim
  | fresh k => exact ih _ _ _ _ _ _ _ h
  | handled own k => cases own with
   | false => exact ih _ _ _ _ _ _ _ h
   | true => exact h.elim
  | call c' hd' x y k =>
   unfold run at h
   dsimp only at h
   split at h
   ·split at h
    ·split at h
     ·split at h
      ·exact ih _ _ _ _ _ _ _ h
      ·exact h.elim
     ·exact h.elim
    ·exact h.1.1
    ·exact h.elim
   ·exact h.elim
  | stack k => exact h.1
  | _ => exact h.elim
structure Env0 where
 prog:Program
 w:World
 g:Array GenState
 d:Drawn
 os:OsState
structure Rep (h₀ h:Heap) (s:St):Prop where
 mem:Mem h₀ h [] s.L
 size:h.objs.size = s.n
 fz:∀ p∈s.z,h.get? p.1 = some p.2∧h₀.get? p.1 = none∧∀ q∈s.L,q.1≠p.1
noncomputable def Env0.sh (X:Env0) (h:Heap) (t:Nat):Shared:=⟨h,X.g,X.d,t,X.os⟩
noncomputable def CutAt (X:Env0) (h₀:Heap) (D U:Nat) (c:Code) (hd:Hd) (sub:List (Addr × Obj)) (n t:Nat) (V:Type) (r:V→Result) (N:V→List (Addr × Obj)) (os:V→List Obj) (n' t':V→Nat) (Z:V→List (Addr × Obj)):Prop :=
 ∀ A:Around,HdOk hd A→A.depth≤D→A.units≤U→∀ h,Rep h₀ h ⟨sub,n,t,[]⟩→∀ R:Result→Shared→Prop,
  (∀ v h',Rep h₀ h' ⟨N v++setO sub (os v),n' v,t' v,Z v⟩→R (r v) (X.sh h' (t' v)))→codeAny (model X.prog X.w) A c R (X.sh h t)
noncomputable def ImIn (im:List (Addr × Obj)) (h:Heap):Prop:=∀ p∈im,h.get? p.1 = some p.2
noncomputable def Mono (B:Heap→Prop):Prop:=∀ h h':Heap,(∀ b o,h.get? b = some o→h'.get? b = some o)→B h→B h'
noncomputable def CutOk (X:Env0) (B:Heap→Prop):CutTy:=fun D U c hd sub im n t V r N os n' t' Z =>
 (∀ v,∀ p∈N v,n≤p.1)∧(∀ v,(os v).length = sub.length)∧∀ h₀,B h₀→ImIn im h₀→CutAt X h₀ D U c hd sub n t V r N os n' t' Z
theorem CutOk.weaken {X:Env0} {B B':Heap→Prop} {D U D' U':Nat} {c:Code} {hd:Hd} {sub im im':List (Addr × Obj)} {n t:Nat} {V:Type} {r:V→Result} {N:V→List (Addr × Obj)} {os:V→List Obj} {n' t':V→Nat} {Z:V→List (Addr × Obj)}
  (C:CutOk X B' D' U' c hd sub im' n t V r N os n' t' Z) (hD:D≤D') (hU:U≤U') (hB:∀ h,B h→ImIn im h→B' h∧ImIn im' h):CutOk X B D U c hd sub im n t V r N os n' t' Z :=
 ⟨C.1,C.2.1,fun h₀ b i A h1 h2 h3=>C.2.2 h₀ (hB h₀ b i).1 (hB h₀ b i).2 A h1 (Nat.le_trans h2 hD) (Nat.le_trans h3 hU)⟩
theorem CutOk.map {X:Env0} {B:Heap→Prop} {D U:Nat} {c:Code} {hd:Hd} {sub im:List (Addr × Obj)} {n t:Nat} {V V':Type} {r:V→Result} {N:V→List (Addr × Obj)} {os:V→List Obj} {n' t':V→Nat} {Z:V→List (Addr × Obj)}
  {r₁:V'→Result} {N₁:V'→List (Addr × Obj)} {os₁:V'→List Obj} {n₁ t₁:V'→Nat} {Z₁:V'→List (Addr × Obj)} (C:CutOk X B D U c hd sub im n t V r N os n' t' Z) (hN:∀ v,∀ p∈N₁ v,n≤p.1) (hl:∀ v,(os₁ v).length = sub.length)
  (f:∀ v,∃ v',r v = r₁ v'∧N v = N₁ v'∧os v = os₁ v'∧n' v = n₁ v'∧t' v = t₁ v'∧Z v = Z₁ v'):CutOk X B D U c hd sub im n t V' r₁ N₁ os₁ n₁ t₁ Z₁ :=
 ⟨hN,hl,fun h₀ b i A h1 h2 h3 h D' R hR=>C.2.2 h₀ b i A h1 h2 h3 h D' R fun v h' D''=>by
  obtain ⟨v',e1,e2,e3,e4,e5,e6⟩:=f v
  rw [e1,e5]
  rw [e2,e3,e4,e5,e6] at D''
  exact hR v' h' D''⟩
noncomputable def hide (h:Heap) (l:List (Addr × Obj)):Heap:=⟨h.objs.mapIdx fun i o=>if (l.map (·.1)).contains i then { o with data:=.freed } else o,h.life⟩
theorem hide_get {h:Heap} {l:List (Addr × Obj)} {a:Addr}:(hide h l).get? a = if (l.map (·.1)).contains a then none else h.get? a:=by
 unfold hide Heap.get?
 simp only [Array.getElem?_mapIdx]
 cases h.objs[a]? with
 | none => simp
 | some o =>
  simp only [Option.map_some]
  cases (l.map (·.1)).contains a <;> simp
theorem hide_none {h:Heap} {l:List (Addr × Obj)} {p:Addr × Obj} (hp:p∈l):(hide h l).get? p.1 = none:=by
 rw [hide_get,if_pos (by simp only [List.contains_iff_mem]; exact List.mem_map_of_mem hp)]
theorem hide_some {h:Heap} {l:List (Addr × Obj)} {a:Addr} {o:Obj} (e:(hide h l).get? a = some o):h.get? a = some o∧∀ p∈l,p.1≠a:=by
 rw [hide_get] at e
 split at e
 ·cases e
 ·rename_i hn
  refine ⟨e,fun p hp q=>hn ?_⟩
  simp only [List.contains_iff_mem]
  exact q ▸ List.mem_map_of_mem hp
theorem hide_of {h:Heap} {l:List (Addr × Obj)} {a:Addr} {o:Obj} (e:h.get? a = some o) (hn:∀ p∈l,p.1≠a):(hide h l).get? a = some o:=by
 rw [hide_get,if_neg]
 ·exact e
 ·simp only [List.contains_iff_mem]
  intro hm
  obtain ⟨p,hp,q⟩:=List.mem_map.mp hm
  exact hn p hp q
theorem pick_sub:∀ (b:Nat) (l:List (Addr × Obj)),(pick b l).Sublist l
 | _,[] => .slnil
 | b,p :: l => by
  unfold pick
  split
  ·exact (pick_sub (b / 2) l).cons_cons p
  ·exact (pick_sub (b / 2) l).cons p
theorem fill_keys:∀ (b:Nat) (l:List (Addr × Obj)) (os:List Obj),(fill b l os).map (·.1) = l.map (·.1)
 | _,[],_ => rfl
 | b,p :: l,os => by
  unfold fill
  split
  ·split
   ·rw [List.map_cons,List.map_cons,fill_keys]
   ·rw [List.map_cons,List.map_cons,fill_keys]
  ·rw [List.map_cons,List.map_cons,fill_keys]
theorem fill_mem:∀ (b:Nat) (l:List (Addr × Obj)) (os:List Obj),os.length = (pick b l).length→(l.map (·.1)).Nodup→∀ p∈fill b l os,p∈setO (pick b l) os∨(p∈l∧∀ q∈pick b l,q.1≠p.1)
 | _,[],_,_,_,p,hp => nomatch hp
 | b,x :: l,os,hl,nd,p,hp => by
  rw [List.map_cons,List.nodup_cons] at nd
  unfold fill at hp
  unfold pick at hl ⊢
  split at hp
  ·rename_i hb
   rw [hb] at hl
   dsimp only at hl ⊢
   cases os with
   | nil => simp at hl
   | cons o os =>
    dsimp only at hp
    rcases List.mem_cons.mp hp with rfl | hp
    ·exact .inl (.head _)
    ·rcases fill_mem (b / 2) l os (by simpa using hl) nd.2 p hp with h | ⟨h1,h2⟩
     ·exact .inl (.tail _ h)
     ·refine .inr ⟨.tail _ h1,fun q hq=>?_⟩
      rcases List.mem_cons.mp hq with rfl | hq
      ·exact fun e=>nd.1 (e ▸ List.mem_map_of_mem h1)
      ·exact h2 q hq
  ·rename_i hb
   rw [hb] at hl
   dsimp only at hl ⊢
   rcases List.mem_cons.mp hp with rfl | hp
   ·refine .inr ⟨.head _,fun q hq e=>nd.1 (e ▸ List.mem_map_of_mem ((pick_sub _ _).subset hq))⟩
   ·rcases fill_mem (b / 2) l os hl nd.2 p hp with h | ⟨h1,h2⟩
    ·exact .inl h
    ·exact .inr ⟨.tail _ h1,h2⟩
theorem pick2_sub:∀ (b b2:Nat) (l:List (Addr × Obj)),(l.map (·.1)).Nodup→∀ p∈pick2 b b2 l,p∈l∧∀ q∈pick b l,q.1≠p.1
 | _,_,[],_,_,hp => nomatch hp
 | b,b2,x :: l,nd,p,hp => by
  rw [List.map_cons,List.nodup_cons] at nd
  unfold pick2 at hp
  unfold pick
  split at hp
  ·obtain ⟨h1,h2⟩:=pick2_sub (b / 2) (b2 / 2) l nd.2 p hp
   refine ⟨.tail _ h1,fun q hq=>?_⟩
   rcases List.mem_cons.mp hq with rfl | hq
   ·exact fun e=>nd.1 (e ▸ List.mem_map_of_mem h1)
   ·exact h2 q hq
  ·split at hp
   ·rcases List.mem_cons.mp hp with rfl | hp
    ·exact ⟨.head _,fun q hq e=>nd.1 (e ▸ List.mem_map_of_mem ((pick_sub _ _).subset hq))⟩
    ·obtain ⟨h1,h2⟩:=pick2_sub (b / 2) (b2 / 2) l nd.2 p hp
     exact ⟨.tail _ h1,h2⟩
   ·obtain ⟨h1,h2⟩:=pick2_sub (b / 2) (b2 / 2) l nd.2 p hp
    exact ⟨.tail _ h1,h2⟩
theorem mem_sub {h₀ h:Heap} {l l':List (Addr × Obj)} (D:Mem h₀ h [] l) (hs:l'.Sublist l):Mem h₀ h [] l' :=
 ⟨D.keep,D.ch,D.cd,fun p hp=>D.nw p (hs.subset hp),D.ord.sublist (hs.map _)⟩
theorem pairwise_nodup:∀ {l:List Nat},l.Pairwise (· > ·)→l.Nodup:=fun h=>h.imp (fun q=>Nat.ne_of_gt q)
theorem rep_frame {h₀ h h':Heap} {s:St} {b:Nat} {N:List (Addr × Obj)} {os:List Obj} {n' t':Nat} {Z:List (Addr × Obj)} (D:Rep h₀ h s) (hN:∀ p∈N,s.n≤p.1) (hl:os.length = (pick b s.L).length)
  (D':Rep (hide h (pick b s.L)) h' ⟨N++setO (pick b s.L) os,n',t',Z⟩):Rep h₀ h' ⟨N++fill b s.L os,n',t',Z++s.z⟩:=by
 have hlt:∀ p∈s.L,p.1 < s.n:=fun p hp=>D.size ▸ Heap.lt_size (D.mem.nw p hp).1
 have up:∀ a o,h₀.get? a = some o→(hide h (pick b s.L)).get? a = some o:=fun a o e=>by
  have ne:∀ p∈pick b s.L,p.1≠a:=fun p hp q=>by
   have z:=(D.mem.nw p ((pick_sub _ _).subset hp)).2
   rw [q,e] at z; cases z
  exact hide_of (D.mem.keep a o e (by simp [away])) ne
 refine ⟨⟨fun a o e _=>D'.mem.keep a o (up a o e) (by simp [away]),fun _ hp=>(nomatch hp),List.nodup_nil,fun p hp=>?_,?_⟩,D'.size,fun p hp=>?_⟩
 ·rcases List.mem_append.mp hp with hp | hp
  ·refine ⟨(D'.mem.nw p (List.mem_append_left _ hp)).1,?_⟩
   cases e:h₀.get? p.1 with
   | none => rfl
   | some o =>
    have:=Heap.lt_size (D.mem.keep _ o e (by simp [away]))
    rw [D.size] at this
    exact absurd (hN p hp) (Nat.not_le.mpr this)
  ·have hkey:p.1∈s.L.map (·.1):=by rw [← fill_keys b s.L os]; exact List.mem_map_of_mem hp
   obtain ⟨q,hq,hqe⟩:=List.mem_map.mp hkey
   refine ⟨?_,hqe ▸ (D.mem.nw q hq).2⟩
   rcases fill_mem b s.L os hl (pairwise_nodup D.mem.ord) p hp with h1 | ⟨h1,h2⟩
   ·exact (D'.mem.nw p (List.mem_append_right _ h1)).1
   ·exact D'.mem.keep p.1 p.2 (hide_of (D.mem.nw p h1).1 h2) (by simp [away])
 ·have o1:=D'.mem.ord
  rw [List.map_append] at o1 ⊢
  refine List.pairwise_append.mpr ⟨(List.pairwise_append.mp o1).1,?_,fun x hx y hy=>?_⟩
  ·rw [fill_keys]; exact D.mem.ord
  ·rw [fill_keys] at hy
   obtain ⟨p,hp,rfl⟩:=List.mem_map.mp hx
   obtain ⟨q,hq,rfl⟩:=List.mem_map.mp hy
   exact Nat.lt_of_lt_of_le (hlt q hq) (hN p hp)
 ·rcases List.mem_append.mp hp with hp | hp
  ·obtain ⟨g1,g2,g3⟩:=D'.fz p hp
   refine ⟨g1,?_,fun q hq e=>?_⟩
   ·cases e:h₀.get? p.1 with
    | none => rfl
    | some o => rw [up _ _ e] at g2; cases g2
   ·rcases List.mem_append.mp hq with hq | hq
    ·exact g3 q (List.mem_append_left _ hq) e
    ·rcases fill_mem b s.L os hl (pairwise_nodup D.mem.ord) q hq with h1 | ⟨h1,h2⟩
     ·exact g3 q (List.mem_append_right _ h1) e
     ·have:=hide_of (D.mem.nw q h1).1 h2
      rw [e,g2] at this; cases this
  ·obtain ⟨g1,g2,g3⟩:=D.fz p hp
   refine ⟨D'.mem.keep p.1 p.2 (hide_of g1 fun q hq=>g3 q ((pick_sub _ _).subset hq)) (by simp [away]),g2,fun q hq e=>?_⟩
   have hlp:p.1 < s.n:=D.size ▸ Heap.lt_size g1
   rcases List.mem_append.mp hq with hq | hq
   ·exact absurd (hN q hq) (by rw [e]; exact Nat.not_le.mpr hlp)
   ·have hkey:q.1∈s.L.map (·.1):=by rw [← fill_keys b s.L os]; exact List.mem_map_of_mem hq
    obtain ⟨q',hq',hqe⟩:=List.mem_map.mp hkey
    exact g3 q' hq' (hqe.trans e)
theorem fz_push {h₀ h:Heap} {s:St} {o:Obj} (D:Rep h₀ h s):∀ p∈s.z,(h.push o).get? p.1 = some p.2∧h₀.get? p.1 = none∧∀ q∈(s.n,o) :: s.L,q.1≠p.1:=fun p hp=>by
 obtain ⟨g1,g2,g3⟩:=D.fz p hp
 have hl:=Heap.lt_size g1
 refine ⟨Heap.get?_push_of_some _ g1,g2,fun q hq e=>?_⟩
 rcases List.mem_cons.mp hq with rfl | hq
 ·rw [← e,D.size] at hl; exact Nat.lt_irrefl _ hl
 ·exact g3 q hq e
theorem fz_update {h₀ h:Heap} {s:St} {f:Obj→Obj} {i:Nat} {a:Addr} {o:Obj} (D:Rep h₀ h s) (e:s.L[i]? = some (a,o)):∀ p∈s.z,(h.update a f).get? p.1 = some p.2∧h₀.get? p.1 = none∧∀ q∈putL s.L i (f o),q.1≠p.1:=fun p hp=>by
 obtain ⟨g1,g2,g3⟩:=D.fz p hp
 have hm:=List.mem_of_getElem? e
 refine ⟨by rw [Heap.get?_update_ne _ _ _ _ (fun q=>g3 _ hm q.symm)]; exact g1,g2,fun q hq=>?_⟩
 rw [putL_eq _ _ _ _ e] at hq
 rcases List.mem_or_eq_of_mem_set hq with hq | rfl
 ·exact g3 q hq
 ·exact fun q=>g3 _ hm q
theorem fz_pick {h₀ h:Heap} {s:St} {b bz:Nat} (D:Rep h₀ h s):∀ p∈pick2 b bz s.L++s.z,h.get? p.1 = some p.2∧h₀.get? p.1 = none∧∀ q∈pick b s.L,q.1≠p.1:=fun p hp=>by
 rcases List.mem_append.mp hp with hp | hp
 ·obtain ⟨g1,g2⟩:=pick2_sub b bz s.L (pairwise_nodup D.mem.ord) p hp
  exact ⟨(D.mem.nw p g1).1,(D.mem.nw p g1).2,g2⟩
 ·obtain ⟨g1,g2,g3⟩:=D.fz p hp
  exact ⟨g1,g2,fun q hq=>g3 q ((pick_sub _ _).subset hq)⟩
theorem cut_use {X:Env0} {B:Heap→Prop} {h₀ h:Heap} {s:St} {b b2 D U:Nat} {c:Code} {hd:Hd} {V:Type} {r:V→Result} {N:V→List (Addr × Obj)} {os:V→List Obj} {n' t':V→Nat} {Z:V→List (Addr × Obj)} {A:Around}
  (MB:Mono B) (KX:B h₀) (C:CutOk X B D U c hd (pick b s.L) (pick2 b b2 s.L++s.z) s.n s.t V r N os n' t' Z) (h1:HdOk hd A) (h2:A.depth≤D) (h3:A.units≤U) (D':Rep h₀ h s) (R:Result→Shared→Prop)
  (hR:∀ v h',Rep h₀ h' ⟨N v++fill b s.L (os v),n' v,t' v,Z v++s.z⟩→R (r v) (X.sh h' (t' v))):codeAny (model X.prog X.w) A c R (X.sh h s.t):=by
 have Dm:=mem_sub D'.mem (pick_sub b s.L)
 have KX':B (hide h (pick b s.L)):=MB h₀ _ (fun a o e=>hide_of (D'.mem.keep a o e (by simp [away])) fun p hp q=>by
  have z:=(Dm.nw p hp).2
  rw [q,e] at z; cases z) KX
 have IM:ImIn (pick2 b b2 s.L++s.z) (hide h (pick b s.L)):=fun p hp=>by
  rcases List.mem_append.mp hp with hp | hp
  case inr => exact hide_of (D'.fz p hp).1 fun q hq=>(D'.fz p hp).2.2 q ((pick_sub _ _).subset hq)
  obtain ⟨q1,q2⟩:=pick2_sub b b2 s.L (pairwise_nodup D'.mem.ord) p hp
  exact hide_of (D'.mem.nw p q1).1 q2
 have Rp:Rep (hide h (pick b s.L)) h ⟨pick b s.L,s.n,s.t,[]⟩:=by
  refine ⟨⟨fun a o e _=>(hide_some e).1,fun _ hp=>(nomatch hp),List.nodup_nil,fun p hp=>⟨(Dm.nw p hp).1,hide_none hp⟩,Dm.ord⟩,D'.size,fun _ hp=>(nomatch hp)⟩
 exact C.2.2 _ KX' IM A h1 h2 h3 h Rp R fun v h' D''=>hR v h' (rep_frame D' (C.1 v) (C.2.1 v) D'')
noncomputable def aroundOf (A₀:Around):Kont→Around
 | .nil => A₀
 | .cons c _ mark _ κ => ((aroundOf A₀ κ).under c).mark mark
noncomputable def endOf (X:Env0) (A₀:Around) (R₀:Result→Shared→Prop):Kont→Result→Shared→Prop
 | .nil => R₀
 | .cons c _ _ k κ => postR X.prog X.w (aroundOf A₀ κ) c (postC X.prog X.w (aroundOf A₀ κ) (endOf X A₀ R₀ κ)) (postE (endOf X A₀ R₀ κ)) k
noncomputable def Means (X:Env0) (A₀:Around) (R₀:Result→Shared→Prop) (κ:Kont) (c:Code) (t:Sem PySem.Fin) (s:Shared):Prop :=
 wpOwn (model X.prog X.w) (aroundOf A₀ κ) c t (postC X.prog X.w (aroundOf A₀ κ) (endOf X A₀ R₀ κ)) (postE (endOf X A₀ R₀ κ)) s
noncomputable def Bd (D U:Nat) (A:Around) (lv:Lv):Prop:=HdOk lv.hd A∧A.depth≤D + lv.m∧A.units≤U + lv.u
noncomputable def KOk (A₀:Around) (D U:Nat):Kont→Lv→Prop
 | .nil,lv => Bd D U A₀ lv
 | .cons c lv' mark k κ,lv => Bd D U (aroundOf A₀ (.cons c lv' mark k κ)) lv∧KOk A₀ D U κ lv'
theorem KOk.bd {A₀:Around} {D U:Nat}:∀ {κ:Kont} {lv:Lv},KOk A₀ D U κ lv→Bd D U (aroundOf A₀ κ) lv
 | .nil,_,h => h
 | .cons ..,_,h => h.1
section
variable {X:Env0} {B:Heap→Prop} {im:List (Addr × Obj)} {h₀:Heap} {A₀:Around} {R₀:Result→Shared→Prop} {K:Frag} {D U:Nat} {Q:Result→St→Prop}
theorem ret_sound {n:Nat} {hs:Hs} {q:List (Nat × Nat)} {κ:Kont} {lv:Lv} {r:Result} {s:St} {h:Heap} (D':Rep h₀ h s) (hK:KOk A₀ D U κ lv)
  (base:∀ r s h,Q r s→Rep h₀ h s→R₀ r (X.sh h s.t))
  (IH:∀ hs q κ lv c t s h,run K im ⟨X.prog,X.w.params⟩ D U (CutOk X B) Q n hs q κ lv c t s→KOk A₀ D U κ lv→Rep h₀ h s→Means X A₀ R₀ κ c t (X.sh h s.t))
  (H:match κ with | .nil => Q r s | .cons c' lv' _ k κ' => run K im ⟨X.prog,X.w.params⟩ D U (CutOk X B) Q n hs q κ' lv' c' (k r) s):endOf X A₀ R₀ κ r (X.sh h s.t):=by
 cases κ with
 | nil => exact base r s h H D'
 | cons c lv' mark k κ => exact IH _ _ _ _ _ _ _ _ H hK.2 D'
theorem run_sound (MB:Mono B) (BX:B h₀) (KX:K.In h₀) (IX:ImIn im h₀) (hD:Lim D U 50) (base:∀ r s h,Q r s→Rep h₀ h s→R₀ r (X.sh h s.t)):∀ (n:Nat) (hs:Hs) (q:List (Nat × Nat)) (κ:Kont) (lv:Lv) (c:Code) (t:Sem PySem.Fin) (s:St) (h:Heap),
  run K im ⟨X.prog,X.w.params⟩ D U (CutOk X B) Q n hs q κ lv c t s→KOk A₀ D U κ lv→Rep h₀ h s→Means X A₀ R₀ κ c t (X.sh h s.t):=by
 intro n
 induction n with
 | zero => intro hs q κ lv c t s h H _ _; exact H.elim
 | succ n IH =>
  intro hs q κ lv c t s h H hK D'
  cases t with
  | pure fin =>
   cases fin with
   | done f =>
    refine y_pure _ _ _ _ _ _ _ _ _ (y_done _ _ _ _ _ _ (ret_sound (n:=n) (hs:=hs) (q:=q) D' hK base (fun _ _ _ _ _ _ _ _=>IH _ _ _ _ _ _ _ _) ?_))
    cases κ with
    | nil => exact H.2
    | cons => exact H
   | again c' =>
    cases hs with
    | nil => exact H.elim
    | num hn hs =>
     unfold run at H
     dsimp only at H
     split at H
     ·split at H
      ·rename_i hq hm hu
       have hu':=Nat.le_of_ble_eq_true hu
       have z:=IH _ _ _ _ _ _ _ _ H hK D'
       have hb:=hK.bd
       have hm':=Nat.le_of_ble_eq_true hm
       exact y_pure _ _ _ _ _ _ _ _ _ (y_again _ _ _ _ _ _ hq (y_code _ _ _ _ _ _ (den2_sound (by have:=hb.2.1; omega) (by have:=hb.2.2; omega) z)))
      ·exact H.elim
     ·exact H.elim
    | cut b b2 V r N os n' t' Z rest =>
     unfold run at H
     dsimp only at H
     split at H
     ·rename_i hq
      have hb:=hK.bd
      refine y_pure _ _ _ _ _ _ _ _ _ (y_again _ _ _ _ _ _ hq (cut_use MB BX H.1.2 hb.1 hb.2.1 hb.2.2 D' _ fun v h' D''=>?_))
      refine ret_sound (n:=n) (hs:=rest v) (q:=[]) (s:=⟨N v++fill b s.L (os v),n' v,t' v,Z v++s.z⟩) D'' hK base (fun _ _ _ _ _ _ _ _=>IH _ _ _ _ _ _ _ _) ?_
      have:=H.2 v
      cases κ with
      | nil => exact this
      | cons => exact this
     ·exact H.elim
  | raise e =>
   refine y_raise _ _ _ _ _ _ _ _ _ (y_err _ _ _ (ret_sound (n:=n) (hs:=hs) (q:=q) D' hK base (fun _ _ _ _ _ _ _ _=>IH _ _ _ _ _ _ _ _) ?_))
   cases κ with
   | nil => exact H.2
   | cons => exact H
  | rule _ k => exact y_skim _ _ _ _ _ _ _ _ _ 1 (IH _ _ _ _ _ _ _ _ H hK D')
  | «at» _ k => exact y_skim _ _ _ _ _ _ _ _ _ 1 (IH _ _ _ _ _ _ _ _ H hK D')
  | point _ k => exact y_skim _ _ _ _ _ _ _ _ _ 1 (IH _ _ _ _ _ _ _ _ H hK D')
  | ask k => exact y_skim _ _ _ _ _ _ _ _ _ 1 (IH _ _ _ _ _ _ _ _ H hK D')
  | load a x k =>
   cases hs with
   | nil => exact H.elim
   | cut => exact H.elim
   | num hn hs =>
    unfold run at H
    dsimp only at H
    split at H
    ·split at H
     ·rename_i o e
      rw [lookK_eq] at e
      exact y_load _ _ _ _ _ _ _ _ _ _ _ _ _ _ _ _ (D'.mem.old a o (KX a o e) (by simp [away])) (IH _ _ _ _ _ _ _ _ H hK D')
     ·exact H.elim
    ·split at H
     ·split at H
      ·rename_i p e
       rw [getL_eq] at e
       have hq:=(run_eqs _ _ _ _ _ _ _ _ H).1
       dsimp only at hq
       subst hq
       exact y_load _ _ _ _ _ _ _ _ _ _ _ _ _ _ _ _ (D'.mem.at _ _ _ e) (IH _ _ _ _ _ _ _ _ H hK D')
      ·exact H.elim
     ·split at H
      ·rename_i p e
       rw [getL_eq] at e
       have hq:=(run_eqs _ _ _ _ _ _ _ _ H).1
       dsimp only at hq
       subst hq
       exact y_load _ _ _ _ _ _ _ _ _ _ _ _ _ _ _ _ (D'.mem.old _ _ (IX _ (List.mem_of_getElem? e)) (by simp [away])) (IH _ _ _ _ _ _ _ _ H hK D')
      ·exact H.elim
  | loadIfAlive a k =>
   cases hs with
   | nil => exact H.elim
   | cut => exact H.elim
   | num hn hs =>
    unfold run at H
    dsimp only at H
    split at H
    ·split at H
     ·rename_i o e
      rw [lookK_eq] at e
      exact y_alive _ _ _ _ _ _ _ _ _ _ _ _ _ _ _ (D'.mem.old a o (KX a o e) (by simp [away])) (IH _ _ _ _ _ _ _ _ H hK D')
     ·exact H.elim
    ·split at H
     ·split at H
      ·rename_i p e
       rw [getL_eq] at e
       have hq:=(run_eqs _ _ _ _ _ _ _ _ H).1
       dsimp only at hq
       subst hq
       exact y_alive _ _ _ _ _ _ _ _ _ _ _ _ _ _ _ (D'.mem.at _ _ _ e) (IH _ _ _ _ _ _ _ _ H hK D')
      ·exact H.elim
     ·split at H
      ·rename_i p e
       rw [getL_eq] at e
       have hq:=(run_eqs _ _ _ _ _ _ _ _ H).1
       dsimp only at hq
       subst hq
       exact y_alive _ _ _ _ _ _ _ _ _ _ _ _ _ _ _ (D'.mem.old _ _ (IX _ (List.mem_of_getElem? e)) (by simp [away])) (IH _ _ _ _ _ _ _ _ H hK D')
      ·exact H.elim
  | alloc o k =>
   unfold run at H
   obtain ⟨hf,H⟩:=forceObj_of H
   have ea:h.objs.size = s.n:=D'.size
   have D'':Rep h₀ (h.push o) ⟨(s.n,o) :: s.L,s.n+1,s.t,s.z⟩:=⟨by rw [← ea]; exact D'.mem.alloc hf,by rw [Heap.size_push,ea],fz_push D'⟩
   exact wpOwn_bind (m:=alloc o) (f:=k) (wpOwn_of_wpAny (wpAny_alloc (by
    show Means X A₀ R₀ κ c (k h.objs.size) (X.sh (h.push o) s.t)
    rw [ea]; exact IH _ _ _ _ _ _ ⟨(s.n,o) :: s.L,s.n+1,s.t,s.z⟩ _ H hK D'')))
  | update a x f k =>
   cases hs with
   | nil => exact H.elim
   | cut => exact H.elim
   | num hn hs =>
    unfold run at H
    dsimp only at H
    split at H
    ·exact H.elim
    ·split at H
     ·rename_i m _ p e
      rw [getL_eq] at e
      obtain ⟨hf,H⟩:=forceObj_of H
      have hq:=(run_eqs _ _ _ _ _ _ _ _ H).1
      dsimp only at hq
      subst hq
      have e':s.L[m / 2]? = some (p.1,p.2):=e
      have D'':Rep h₀ (h.update p.1 f) ⟨putL s.L (m / 2) (f p.2),s.n,s.t,s.z⟩:=⟨by rw [putL_eq _ _ _ _ e]; exact D'.mem.update e' hf,by rw [(Heap.SameBut.update ..).1,D'.size],fz_update D' e'⟩
      exact wpOwn_bind (m:=updatePart p.1 x f) (f:=k) (wpOwn_of_wpAny (wpAny_updatePart (D'.mem.at _ _ _ e') (IH _ _ _ _ _ _ ⟨putL s.L (m / 2) (f p.2),s.n,s.t,s.z⟩ _ H hK D'')))
     ·exact H.elim
  | fresh k =>
   exact y_fresh _ _ _ _ _ _ _ _ _ _ _ _ _ (IH _ _ _ _ _ _ ⟨s.L,s.n,s.t+1,s.z⟩ _ H hK ⟨D'.mem,D'.size,D'.fz⟩)
  | handled own k =>
   cases own with
   | true => exact H.elim
   | false =>
    refine y_handled _ _ _ _ _ _ _ _ _ ?_
    rw [hK.bd.1.handled]
    exact IH _ _ _ _ _ _ _ _ H hK D'
  | call c' hd' x y k =>
   unfold run at H
   dsimp only at H
   split at H
   ·rename_i hok
    have hnb:hd'≠some byPass:=by
     intro e
     subst e
     simp [okMark] at hok
    have hb:=hK.bd
    split at H
    ·split at H
     ·split at H
      ·rename_i hm hu
       have hm':=Nat.le_of_ble_eq_true hm
       have hu':=Nat.le_of_ble_eq_true hu
       have hK':KOk A₀ D U (.cons c lv hd' k κ) ⟨hdC hd' c lv.hd,lv.m + c.weight,lv.u + c.cUnits⟩:=by
        refine ⟨⟨?_,?_,?_⟩,hK⟩
        ·exact hb.1.under
        ·show (aroundOf A₀ κ).depth + c.weight≤_
         have:=hb.2.1
         dsimp only
         omega
        ·show (aroundOf A₀ κ).units + c.cUnits≤_
         have:=hb.2.2
         dsimp only
         omega
       have z:=IH _ _ _ _ _ _ _ _ H hK' D'
       have hb':=hK'.bd
       exact y_call _ _ _ _ _ _ _ _ _ _ _ _ _ hnb (y_code _ _ _ _ _ _ (den2_sound (by have q1:(aroundOf A₀ (.cons c lv hd' k κ)).depth≤D + (lv.m + c.weight):=hb'.2.1; show (aroundOf A₀ (.cons c lv hd' k κ)).depth < _; omega) (by have q1:(aroundOf A₀ (.cons c lv hd' k κ)).units≤U + (lv.u + c.cUnits):=hb'.2.2; show (aroundOf A₀ (.cons c lv hd' k κ)).units+10 < _; omega) z))
      ·exact H.elim
     ·exact H.elim
    ·refine y_call _ _ _ _ _ _ _ _ _ _ _ _ _ hnb (cut_use MB BX H.1.2 ?_ ?_ ?_ D' _ fun v h' D''=>?_)
     ·exact hb.1.under
     ·show (aroundOf A₀ κ).depth + c.weight≤_
      have:=hb.2.1
      omega
     ·show (aroundOf A₀ κ).units + c.cUnits≤_
      have:=hb.2.2
      omega
     ·exact IH _ _ _ _ _ _ ⟨_,_,_,_⟩ _ (H.2 v) hK D''
    ·exact H.elim
   ·exact H.elim
  | stack k =>
   intro Γ p hc hB
   rw [Sem.wp_stack]
   exact IH _ _ _ _ _ _ _ _ (H.2 _) hK D' Γ p hc hB
  | _ => exact H.elim
end
noncomputable def Qp (b bz:Nat) (F:Result→List (Addr × Obj)→Nat→Nat→List (Addr × Obj)→Prop):Result→St→Prop:=fun r s=>F r (pick b s.L) s.n s.t (pick2 b bz s.L++s.z)
noncomputable def BI (B:Heap→Prop) (im:List (Addr × Obj)):Heap→Prop:=fun h=>B h∧ImIn im h
theorem Mono.bi {B:Heap→Prop} (MB:Mono B) (im:List (Addr × Obj)):Mono (BI B im):=fun h h' k b=>⟨MB h h' k b.1,fun p hp=>k _ _ (b.2 p hp)⟩
theorem CutOk.of_run {X:Env0} {B:Heap→Prop} {K:Frag} {D U:Nat} {c:Code} {hd:Hd} {sub im:List (Addr × Obj)} {n t:Nat} {V:Type} {r:V→Result} {N:V→List (Addr × Obj)} {os:V→List Obj} {n' t':V→Nat} {Z:V→List (Addr × Obj)}
  (MB:Mono B) (hB:∀ h,B h→K.In h) (hD:Lim D U 50) (hN:∀ v,∀ p∈N v,n≤p.1) (hl:∀ v,(os v).length = sub.length) (b bz fuel:Nat) (hs:Hs)
  (H:run K im ⟨X.prog,X.w.params⟩ D U (CutOk X (BI B im)) (Qp b bz fun r' l' m' k' z'=>∃ v,r' = r v∧l' = N v++setO sub (os v)∧m' = n' v∧k' = t' v∧z' = Z v) fuel hs [] .nil ⟨hd,0,0⟩ c (den2 c) ⟨sub,n,t,[]⟩) :
  CutOk X B D U c hd sub im n t V r N os n' t' Z:=by
 refine ⟨hN,hl,fun h₀ BX IX A h1 h2 h3 h D' R hR=>?_⟩
 have z:=run_sound (X:=X) (A₀:=A) (R₀:=R) (h₀:=h₀) (MB.bi im) ⟨BX,IX⟩ (hB h₀ BX) IX hD (fun r' s' h' q Dh=>by
  obtain ⟨v,e1,e2,e3,e4,e5⟩:=q
  subst e1
  rw [e4]
  exact hR v h' ⟨by rw [← e2]; exact mem_sub Dh.mem (pick_sub _ _),by rw [← e3]; exact Dh.size,by rw [← e5,← e2]; exact fz_pick Dh⟩) fuel hs [] .nil ⟨hd,0,0⟩ c (den2 c) ⟨sub,n,t,[]⟩ h H ⟨h1,h2,h3⟩ D'
 exact y_code _ _ _ _ _ _ (den2_sound (by omega) (by omega) z)
theorem CutOk.of_runT {X:Env0} {B:Heap→Prop} {K:Frag} {D U:Nat} {c:Code} {hd:Hd} {sub im:List (Addr × Obj)} {n t:Nat} {V:Type} {r:V→Result} {N:V→List (Addr × Obj)} {os:V→List Obj} {n' t':V→Nat} {Z:V→List (Addr × Obj)} {T:Sem PySem.Fin}
  (hT:∀ A:Around,HdOk hd A→A.depth≤D→A.units≤U→∀ (Q:PySem.Fin→Shared→Prop) (E:Value→Shared→Prop) (s:Shared),wpOwn (model X.prog X.w) A c T Q E s→wpOwn (model X.prog X.w) A c (denote table c) Q E s)
  (MB:Mono B) (hB:∀ h,B h→K.In h) (hD:Lim D U 50) (hN:∀ v,∀ p∈N v,n≤p.1) (hl:∀ v,(os v).length = sub.length) (b bz fuel:Nat) (hs:Hs)
  (H:run K im ⟨X.prog,X.w.params⟩ D U (CutOk X (BI B im)) (Qp b bz fun r' l' m' k' z'=>∃ v,r' = r v∧l' = N v++setO sub (os v)∧m' = n' v∧k' = t' v∧z' = Z v) fuel hs [] .nil ⟨hd,0,0⟩ c T ⟨sub,n,t,[]⟩) :
  CutOk X B D U c hd sub im n t V r N os n' t' Z:=by
 refine ⟨hN,hl,fun h₀ BX IX A h1 h2 h3 h D' R hR=>?_⟩
 have z:=run_sound (X:=X) (A₀:=A) (R₀:=R) (h₀:=h₀) (MB.bi im) ⟨BX,IX⟩ (hB h₀ BX) IX hD (fun r' s' h' q Dh=>by
  obtain ⟨v,e1,e2,e3,e4,e5⟩:=q
  subst e1
  rw [e4]
  exact hR v h' ⟨by rw [← e2]; exact mem_sub Dh.mem (pick_sub _ _),by rw [← e3]; exact Dh.size,by rw [← e5,← e2]; exact fz_pick Dh⟩) fuel hs [] .nil ⟨hd,0,0⟩ c T ⟨sub,n,t,[]⟩ h H ⟨h1,h2,h3⟩ D'
 exact y_code _ _ _ _ _ _ (hT A h1 h2 h3 _ _ _ z)
theorem CutOk.of_runE {X:Env0} {B:Heap→Prop} {K:Frag} {D U:Nat} {c:Code} {hd:Hd} {sub im:List (Addr × Obj)} {n t:Nat} {V:Type} {r:V→Result} {N:V→List (Addr × Obj)} {os:V→List Obj} {n' t':V→Nat} {Z:V→List (Addr × Obj)}
  (MB:Mono B) (hB:∀ h,B h→K.In h) (hD:Lim D U 50) (hN:∀ v,∀ p∈N v,n≤p.1) (hl:∀ v,(os v).length = sub.length) (b bz fuel:Nat) (hs:Hs) {P:Prop}
  (E:run K im ⟨X.prog,X.w.params⟩ D U (CutOk X (BI B im)) (Qp b bz fun r' l' m' k' z'=>∃ v,r' = r v∧l' = N v++setO sub (os v)∧m' = n' v∧k' = t' v∧z' = Z v) fuel hs [] .nil ⟨hd,0,0⟩ c (den2 c) ⟨sub,n,t,[]⟩ = P) (H:P) :
  CutOk X B D U c hd sub im n t V r N os n' t' Z:=CutOk.of_run MB hB hD hN hl b bz fuel hs (E ▸ H)
theorem CutOk.of_runTE {X:Env0} {B:Heap→Prop} {K:Frag} {D U:Nat} {c:Code} {hd:Hd} {sub im:List (Addr × Obj)} {n t:Nat} {V:Type} {r:V→Result} {N:V→List (Addr × Obj)} {os:V→List Obj} {n' t':V→Nat} {Z:V→List (Addr × Obj)} {T:Sem PySem.Fin}
  (hT:∀ A:Around,HdOk hd A→A.depth≤D→A.units≤U→∀ (Q:PySem.Fin→Shared→Prop) (E:Value→Shared→Prop) (s:Shared),wpOwn (model X.prog X.w) A c T Q E s→wpOwn (model X.prog X.w) A c (denote table c) Q E s)
  (MB:Mono B) (hB:∀ h,B h→K.In h) (hD:Lim D U 50) (hN:∀ v,∀ p∈N v,n≤p.1) (hl:∀ v,(os v).length = sub.length) (b bz fuel:Nat) (hs:Hs) {P:Prop}
  (E:run K im ⟨X.prog,X.w.params⟩ D U (CutOk X (BI B im)) (Qp b bz fun r' l' m' k' z'=>∃ v,r' = r v∧l' = N v++setO sub (os v)∧m' = n' v∧k' = t' v∧z' = Z v) fuel hs [] .nil ⟨hd,0,0⟩ c T ⟨sub,n,t,[]⟩ = P) (H:P) :
  CutOk X B D U c hd sub im n t V r N os n' t' Z:=CutOk.of_runT hT MB hB hD hN hl b bz fuel hs (E ▸ H)
structure Rows where
 a:Bool
 b:Bool
 c:Bool
 d:Bool
noncomputable def ft (r:Rows) (f:String→Bool) (x:String):Bool :=
 @ite Bool (x = "comprehension-iter-twice") (PySem.W.Fast.strDec _ _) r.a (@ite Bool (x = "special-get-raises") (PySem.W.Fast.strDec _ _) r.b
  (@ite Bool (x = "set-order") (PySem.W.Fast.strDec _ _) r.c (@ite Bool (x = "for-iterable-display-folded") (PySem.W.Fast.strDec _ _) r.d (f x))))
noncomputable def pr (w:World) (r:Rows):Params:={ w.params with followText:=ft r w.params.followText }
noncomputable def rowsOf (w:World):Rows:=⟨w.params.followText "comprehension-iter-twice",w.params.followText "special-get-raises",w.params.followText "set-order",w.params.followText "for-iterable-display-folded"⟩
theorem pr_rows (w:World):pr w (rowsOf w) = w.params:=by
 unfold pr
 have:ft (rowsOf w) w.params.followText = w.params.followText:=by
  funext x
  unfold ft rowsOf
  split
  ·rename_i h; rw [h]
  ·split
   ·rename_i h; rw [h]
   ·split
    ·rename_i h; rw [h]
    ·split
     ·rename_i h; rw [h]
     ·rfl
 rw [this]
noncomputable def fnBody (K:Frag) (f:Addr):List Stmt:=match lookK K f with
 | some o => match o.data with
  | .func fd => match fd.body with
   | .stmts b => b
   | _ => []
  | _ => []
 | none => []
noncomputable def fnScope (K:Frag) (f:Addr):Scope:=match lookK K f with
 | some o => match o.data with
  | .func fd => fd.scope
  | _ => ⟨.function,[],false,false,[]⟩
 | none => ⟨.function,[],false,false,[]⟩
noncomputable def nthS:List Stmt→Nat→Stmt
 | [],_ => .Pass ⟨0,0,0,0⟩
 | s :: _,0 => s
 | _ :: l,n+1 => nthS l n
noncomputable def noE:Expr:=.Constant .none 0 ⟨0,0,0,0⟩
noncomputable def retE:Stmt→Expr
 | .Return (some e) _ => e
 | _ => noE
noncomputable def asgE:Stmt→Expr
 | .Assign _ e _ => e
 | _ => noE
noncomputable def forT:Stmt→Expr
 | .For t .. => t
 | _ => noE
noncomputable def forB:Stmt→List Stmt
 | .For _ _ b .. => b
 | _ => []
noncomputable def forO:Stmt→List Stmt
 | .For _ _ _ o .. => o
 | _ => []
noncomputable def ifB:Stmt→List Stmt
 | .If _ b _ _ => b
 | _ => []
noncomputable def whT:Stmt→Expr
 | .While t _ _ _ => t
 | _ => noE
noncomputable def whB:Stmt→List Stmt
 | .While _ b _ _ => b
 | _ => []
noncomputable def whO:Stmt→List Stmt
 | .While _ _ o _ => o
 | _ => []
noncomputable def freeCell:List (Str × NameKind)→List (Str × NameKind)
 | [] => []
 | (n,k) :: l => (n,match k with | .free => .cell | k => k) :: freeCell l
noncomputable def compSc0:Expr→Scope
 | .ListComp _ _ s _ => s
 | .SetComp _ _ s _ => s
 | .DictComp _ _ _ s _ => s
 | .GeneratorExp _ _ s _ => s
 | _ => ⟨.function,[],false,false,[]⟩
noncomputable def compSc (e:Expr):Scope:=match compSc0 e with
 | ⟨a,l,b,c,d⟩ => ⟨a,freeCell l,b,c,d⟩
theorem builtin_ok {X:Env0} {B:Heap→Prop} {D U:Nat} {id:String} {args:Args} {hd:Hd} {sub im:List (Addr × Obj)} {n t:Nat} {V:Type} {r:V→Result} {N:V→List (Addr × Obj)} {os:V→List Obj} {n' t':V→Nat} {Z:V→List (Addr × Obj)} {b:Builtin}
  (he:entryFor table id = some b) (hN:∀ v,∀ p∈N v,n≤p.1) (hl:∀ v,(os v).length = sub.length)
  (H:∀ (h₀ h:Heap) (A:Around),ImIn im h→HdOk hd A→Rep h₀ h ⟨sub,n,t,[]⟩→∀ (Q:PySem.Fin→Shared→Prop) (E:Value→Shared→Prop),
   (∀ v h',Rep h₀ h' ⟨N v++setO sub (os v),n' v,t' v,Z v⟩→match r v with | .ok f => Q (.done f) (X.sh h' (t' v)) | .error e => E e (X.sh h' (t' v))) →
   wpAny (model X.prog X.w) A (b args) Q E (X.sh h t)):CutOk X B D U (.builtin id args) hd sub im n t V r N os n' t' Z:=by
 refine ⟨hN,hl,fun h₀ BX IX A h1 h2 h3 h D' R hR=>?_⟩
 refine x_code ?_
 show wpAny (model X.prog X.w) (A.under (.builtin id args)) (match entryFor table id with | some b => b args | none => _) _ _ _
 rw [he]
 refine H h₀ h (A.under (.builtin id args)) (fun p hp=>D'.mem.keep _ _ (IX p hp) (by simp [away])) h1 D' _ _ fun v h' Dv=>?_
 have z:=hR v h' Dv
 cases hr:r v with
 | ok f => rw [hr] at z; exact z
 | error e => rw [hr] at z; exact z
noncomputable abbrev iterO (H:Addr) (i:Nat):Obj:=⟨.type "list_iterator",none,.fields #[.ref H,.int i 0],#[]⟩
noncomputable abbrev listO (vs:List Value) (e:Nat):Obj:=⟨.type "list",none,.seq ⟨vs⟩ e,#[]⟩
theorem next_some {X:Env0} {B:Heap→Prop} {D U:Nat} {hd:Hd} {I H:Addr} {i e n t:Nat} {vs:List Value} {v:Value} (hv:vs[i]? = some v) :
  CutOk X B D U (.builtin "list_iterator.__next__" ⟨[.ref I],[]⟩) hd [(I,iterO H i)] [(H,listO vs e)] n t Unit (fun _=>.ok (.ret v)) (fun _=>[]) (fun _=>[iterO H (i+1)]) (fun _=>n) (fun _=>t) (fun _=>[]):=by
 refine builtin_ok entry_listiter_next (fun _ _ hp=>nomatch hp) (fun _=>rfl) fun h₀ h A IM hA Dh Q E hQ=>?_
 have ho:=Dh.mem.at 0 I (iterO H i) rfl
 have hol:=IM (H,listO vs e) (.head _)
 show wpAny _ _ (field (.ref I) 0 >>= _) _ _ _
 refine wpAny_bind (wpAny_field ho rfl (x:=.ref H) rfl ?_)
 show wpAny _ _ (if (Value.ref H == Value.none) = true then _ else _) _ _ _
 rw [if_neg (show ¬ ((Value.ref H == Value.none) = true) from Bool.false_ne_true)]
 show wpAny _ _ (field (.ref I) 1 >>= _) _ _ _
 refine wpAny_bind (wpAny_field ho rfl (x:=.int i 0) rfl ?_)
 show wpAny _ _ (seqItems? (.ref H) >>= _) _ _ _
 refine wpAny_bind (wpAny_seqItems hol rfl ?_)
 simp only [Int.toNat_natCast,List.getElem?_toArray,hv]
 refine wpAny_bind (wpAny_setField ho rfl (by simp) (wpAny_pure (hQ () _ ?_)))
 refine ⟨?_,by rw [(Heap.SameBut.update ..).1]; exact Dh.size,fun _ hp=>(nomatch hp)⟩
 have:=Dh.mem.update (i:=0) (a:=I) (o:=iterO H i) (f:=fun o=>o.mapFields fun ys=>ys.setIfInBounds 1 (.int (i+1:Nat) 0)) rfl rfl
 exact this
noncomputable abbrev iterE (i:Nat):Obj:=⟨.type "list_iterator",none,.fields #[.none,.int i 0],#[]⟩
noncomputable abbrev tupO (vs:List Value):Obj:=⟨.type "tuple",none,.seq ⟨vs⟩ 0,#[]⟩
noncomputable abbrev stopO (a:Addr):Obj:=⟨.type "StopIteration",none,.fields #[.ref a,.none,.none,.none,.bool false,.none],#[]⟩
theorem next_none {X:Env0} {B:Heap→Prop} {D U:Nat} {I H:Addr} {i e n t:Nat} {vs:List Value} (hv:vs[i]? = none) :
  CutOk X B D U (.builtin "list_iterator.__next__" ⟨[.ref I],[]⟩) none [(I,iterO H i)] [(H,listO vs e)] n t Unit (fun _=>.error (.ref (n+1))) (fun _=>[(n+1,stopO n),(n,tupO [])]) (fun _=>[iterE i]) (fun _=>n+2) (fun _=>t) (fun _=>[]):=by
 refine builtin_ok entry_listiter_next (fun _ p hp=>?_) (fun _=>rfl) fun h₀ h A IM hA Dh Q E hQ=>?_
 ·simp only [List.mem_cons,List.not_mem_nil,or_false] at hp
  rcases hp with rfl | rfl
  ·exact Nat.le_succ n
  ·exact Nat.le_refl n
 have ho:=Dh.mem.at 0 I (iterO H i) rfl
 have hol:=IM (H,listO vs e) (.head _)
 show wpAny _ _ (field (.ref I) 0 >>= _) _ _ _
 refine wpAny_bind (wpAny_field ho rfl (x:=.ref H) rfl ?_)
 show wpAny _ _ (if (Value.ref H == Value.none) = true then _ else _) _ _ _
 rw [if_neg (show ¬ ((Value.ref H == Value.none) = true) from Bool.false_ne_true)]
 show wpAny _ _ (field (.ref I) 1 >>= _) _ _ _
 refine wpAny_bind (wpAny_field ho rfl (x:=.int i 0) rfl ?_)
 show wpAny _ _ (seqItems? (.ref H) >>= _) _ _ _
 refine wpAny_bind (wpAny_seqItems hol rfl ?_)
 simp only [Int.toNat_natCast,List.getElem?_toArray,hv]
 refine wpAny_bind (wpAny_rule (wpAny_bind (wpAny_setField ho rfl (by simp) ?_)))
 show wpAny _ _ (newExc (.type "StopIteration") [] >>= _) _ _ _
 refine wpAny_bind ?_
 simp only [newExc,newTuple]
 refine wpAny_bind (wpAny_newObj_type ?_ (by size_fits))
 refine wpAny_bind (m:=firstArgMember _ _) (wpAny_of_eq (a:=Value.none) (by first | rfl | (simp only [firstArgMember]; rfl)) ?_)
 refine wpAny_newObj_type ?_ (by size_fits)
 simp only [raiseNew]
 refine wpAny_bind (wpAny_handled ?_)
 rw [hA]
 refine wpAny_bind (wpAny_pure (wpAny_throw ?_))
 have m1:=Dh.mem.update (i:=0) (a:=I) (o:=iterO H i) (f:=fun o=>o.mapFields fun ys=>ys.setIfInBounds 0 .none) rfl rfl
 have z1:(h.update I fun o=>o.mapFields fun ys=>ys.setIfInBounds 0 .none).objs.size = n:=by rw [(Heap.SameBut.update ..).1]; exact Dh.size
 have m2:=m1.alloc (o:=tupO []) rfl
 rw [z1] at m2
 have z2:((h.update I fun o=>o.mapFields fun ys=>ys.setIfInBounds 0 .none).push (tupO [])).objs.size = n+1:=by rw [Heap.size_push,z1]
 have m3:=m2.alloc (o:=stopO n) rfl
 rw [z2] at m3
 have z3:(((h.update I fun o=>o.mapFields fun ys=>ys.setIfInBounds 0 .none).push (tupO [])).push (stopO n)).objs.size = n+2:=by rw [Heap.size_push,z2]
 have key:=hQ () _ ⟨m3,z3,fun _ hp=>(nomatch hp)⟩
 have e1:(X.sh h t).heap.update I (fun o=>o.mapFields fun ys=>ys.setIfInBounds 0 .none) = h.update I (fun o=>o.mapFields fun ys=>ys.setIfInBounds 0 .none):=rfl
 show E (.ref (((h.update I fun o=>o.mapFields fun ys=>ys.setIfInBounds 0 .none).push (tupO [])).objs.size)) ⟨((h.update I fun o=>o.mapFields fun ys=>ys.setIfInBounds 0 .none).push (tupO [])).push (stopO ((h.update I fun o=>o.mapFields fun ys=>ys.setIfInBounds 0 .none).objs.size)),X.g,X.d,t,X.os⟩
 rw [z2,z1]
 exact key
theorem append_ok {X:Env0} {B:Heap→Prop} {D U:Nat} {hd:Hd} {H:Addr} {e n t:Nat} {vs:List Value} {x:Value} (hs:vs.length≤1000) :
  CutOk X B D U (.builtin "list.append" ⟨[.ref H,x],[]⟩) hd [(H,listO vs e)] [] n t Unit (fun _=>.ok (.ret .none)) (fun _=>[]) (fun _=>[listO (vs++[x]) (e+1)]) (fun _=>n) (fun _=>t) (fun _=>[]):=by
 refine builtin_ok entry_list_append (fun _ _ hp=>nomatch hp) (fun _=>rfl) fun h₀ h A IM hA Dh Q E hQ=>?_
 have ho:=Dh.mem.at 0 H (listO vs e) rfl
 have hsz:(⟨vs⟩:Array Value).size≤sizeLine:=by
  show vs.length≤sizeLine
  rw [sizeLine_eq]; omega
 show wpAny _ _ (updateSeq H (·.push x) >>= fun _=>ret .none) _ _ _
 refine wpAny_bind ?_
 refine wpAny_updateSeq ho rfl (wpAny_pure (hQ () _ ?_))
 refine ⟨?_,by rw [(Heap.SameBut.update ..).1]; exact Dh.size,fun _ hp=>(nomatch hp)⟩
 have hm:Obj.mapSeq (·.push x) (listO vs e) = listO (vs++[x]) (e+1):=by
  show Obj.mapSeq (·.push x) ({ cls:=.type "list",data:=.seq ⟨vs⟩ e }:Obj) = _
  rw [mapSeq_push]; simp
 have:=Dh.mem.update (i:=0) (a:=H) (o:=listO vs e) (f:=Obj.mapSeq (·.push x)) rfl (by rw [hm]; rfl)
 rw [hm] at this
 exact this
noncomputable abbrev sliceO (a b c:Value):Obj:=⟨.type "slice",none,.fields #[a,b,c],#[]⟩
noncomputable abbrev lstO (d:Option Addr) (vs:List Value) (e:Nat) (sl:Array (Option Value)):Obj:=⟨.type "list",d,.seq ⟨vs⟩ e,sl⟩
theorem getsliceG_ok {X:Env0} {B:Heap→Prop} {D U:Nat} {hd:Hd} {H S:Addr} {e n t:Nat} {vs:List Value} {a b c:Value} {dd:Option Addr} {sl:Array (Option Value)} {lo hi st:Option Int}
  (pl:IsPart a lo) (pu:IsPart b hi) (ps:IsPart c st) (h0:st≠some 0) (hs:vs.length≤1000) :
  CutOk X B D U (.builtin "list.__getitem__" ⟨[.ref H,.ref S],[]⟩) hd [] [(H,lstO dd vs e sl),(S,sliceO a b c)] n t Unit (fun _=>.ok (.ret (.ref n))) (fun _=>[(n,listO (slicePick ⟨vs⟩ lo hi st).toList 0)]) (fun _=>[]) (fun _=>n+1) (fun _=>t) (fun _=>[]):=by
 refine builtin_ok entry_list_getitem (fun _ p hp=>?_) (fun _=>rfl) fun h₀ h A IM hA Dh Q E hQ=>?_
 ·rcases List.mem_singleton.mp hp with rfl
  exact Nat.le_refl _
 have ho:=IM (H,lstO dd vs e sl) (.head _)
 have hos:=IM (S,sliceO a b c) (.tail _ (.head _))
 have hTs:(X.sh h t).TypeIs (.ref S) "slice":=⟨_,hos,rfl⟩
 have hsz:(⟨vs⟩:Array Value).size≤sizeLine:=by
  show vs.length≤sizeLine
  rw [sizeLine_eq]; omega
 show wpAny _ _ (Builtin.List.listSubscript? (.ref S) >>= _) _ _ _
 refine wpAny_bind ?_
 unfold Builtin.List.listSubscript?
 refine wpAny_bind (wpAny_specialOf hTs slice_no_index ?_)
 simp only [Option.isNone_none,if_true]
 refine wpAny_pure ?_
 show wpAny _ _ (typeOf (.ref S) >>= _) _ _ _
 refine wpAny_bind (wpAny_typeOf hTs ?_)
 rw [if_neg (by decide)]
 rw [listSliceParts_eq]
 have hstep:¬ ((rawPart st == rawInt 0) = true):=by
  cases st with
  | none => exact Bool.false_ne_true
  | some c =>
   intro hh
   have:c = 0:=by simpa [rawPart,rawInt] using hh
   exact h0 (by rw [this])
 refine wpAny_bind (wpAny_bind (wpAny_field hos rfl (x:=c) rfl (wpAny_bind (wpAny_listPart ps ?_))))
 rw [if_neg hstep]
 refine wpAny_bind (wpAny_field hos rfl (x:=a) rfl (wpAny_bind (wpAny_listPart pl ?_)))
 refine wpAny_bind (wpAny_field hos rfl (x:=b) rfl (wpAny_bind (wpAny_listPart pu (wpAny_pure ?_))))
 refine wpAny_bind (m:=Builtin.List.listItems (.ref H)) ?_
 unfold Builtin.List.listItems
 refine wpAny_bind (wpAny_seqItems ho rfl (wpAny_pure ?_))
 refine wpAny_bind (wpAny_of_eq (sliceIndices_raw lo hi st _ h0) ?_)
 refine wpAny_bind (wpAny_newObj_type (wpAny_pure ?_) (Nat.le_trans (slicePick_size_le _ lo hi st) hsz))
 have m1:=Dh.mem.alloc (o:=listO (slicePick ⟨vs⟩ lo hi st).toList 0) rfl
 have e1:h.objs.size = n:=Dh.size
 rw [e1] at m1
 have key:=hQ () _ ⟨m1,by rw [Heap.size_push,e1],fun _ hp=>(nomatch hp)⟩
 show Q (.done (.ret (.ref h.objs.size))) _
 rw [e1]
 exact key
theorem getslice_ok {X:Env0} {B:Heap→Prop} {D U:Nat} {hd:Hd} {H S:Addr} {e n t:Nat} {vs:List Value} {a b c:Value} {lo hi st:Option Int}
  (pl:IsPart a lo) (pu:IsPart b hi) (ps:IsPart c st) (h0:st≠some 0) (hs:vs.length≤1000) :
  CutOk X B D U (.builtin "list.__getitem__" ⟨[.ref H,.ref S],[]⟩) hd [] [(H,listO vs e),(S,sliceO a b c)] n t Unit (fun _=>.ok (.ret (.ref n))) (fun _=>[(n,listO (slicePick ⟨vs⟩ lo hi st).toList 0)]) (fun _=>[]) (fun _=>n+1) (fun _=>t) (fun _=>[]) :=
 getsliceG_ok pl pu ps h0 hs
theorem setall_ok {X:Env0} {B:Heap→Prop} {D U:Nat} {hd:Hd} {H S A':Addr} {e e' n t:Nat} {vs ws:List Value} (hne:H≠A')
  (hs:vs.length≤1000) (hw:ws.length≤1000) :
  CutOk X B D U (.builtin "list.__setitem__" ⟨[.ref H,.ref S,.ref A'],[]⟩) hd [(H,listO vs e)] [(S,sliceO .none .none .none),(A',listO ws e')] n t Unit (fun _=>.ok (.ret .none)) (fun _=>[]) (fun _=>[listO ws (if ws.length == vs.length then e else e+1)]) (fun _=>n) (fun _=>t) (fun _=>[]):=by
 refine builtin_ok entry_list_setitem (fun _ p hp=>nomatch hp) (fun _=>rfl) fun h₀ h A IM hA Dh Q E hQ=>?_
 have ho:=Dh.mem.at 0 H (listO vs e) rfl
 have hoa:=IM (A',listO ws e') (.tail _ (.head _))
 have hos:=IM (S,sliceO .none .none .none) (.head _)
 have hTs:(X.sh h t).TypeIs (.ref S) "slice":=⟨_,hos,rfl⟩
 have hTa:(X.sh h t).TypeIs (.ref A') "list":=⟨_,hoa,rfl⟩
 show wpAny _ _ (Builtin.List.listSubscript? (.ref S) >>= _) _ _ _
 refine wpAny_bind ?_
 unfold Builtin.List.listSubscript?
 refine wpAny_bind (wpAny_specialOf hTs slice_no_index ?_)
 simp only [Option.isNone_none,if_true]
 refine wpAny_pure ?_
 show wpAny _ _ (typeOf (.ref S) >>= _) _ _ _
 refine wpAny_bind (wpAny_typeOf hTs ?_)
 rw [if_neg (by decide)]
 rw [listSliceParts_eq]
 have hstep:¬ ((rawPart none == rawInt 0) = true):=Bool.false_ne_true
 refine wpAny_bind (wpAny_bind (wpAny_field hos rfl (x:=.none) rfl (wpAny_bind (wpAny_listPart .none ?_))))
 rw [if_neg hstep]
 refine wpAny_bind (wpAny_field hos rfl (x:=.none) rfl (wpAny_bind (wpAny_listPart .none ?_)))
 refine wpAny_bind (wpAny_field hos rfl (x:=.none) rfl (wpAny_bind (wpAny_listPart .none (wpAny_pure ?_))))
 have hsr:¬ (Builtin.List.listSameRef (.ref H) (.ref A') = true):=by
  show ¬ ((H == A') = true)
  simpa using hne
 rw [if_neg hsr]
 refine wpAny_bind (m:=Builtin.List.listAllItems _ _) ?_
 unfold Builtin.List.listAllItems
 refine wpAny_bind (wpAny_typeOf hTa ?_)
 rw [if_pos (by decide)]
 unfold Builtin.List.listItems
 refine wpAny_bind (wpAny_seqItems hoa rfl (wpAny_pure ?_))
 refine wpAny_bind (wpAny_bind (wpAny_seqItems ho rfl (wpAny_pure ?_)))
 refine wpAny_bind (wpAny_of_eq (sliceIndices_raw none none none _ (by simp)) ?_)
 have hb:sliceBounds none none none (⟨vs⟩:Array Value).size = ((0:Int),((⟨vs⟩:Array Value).size:Int),(1:Int)):=by
  simp [sliceBounds]
 rw [hb]
 rw [if_pos (show (((0:Int),((⟨vs⟩:Array Value).size:Int),(1:Int)).2.2 == 1) = true from rfl)]
 refine wpAny_bind (wpAny_rule ?_)
 have hlong:¬ (Builtin.List.listTooLong ((⟨vs⟩:Array Value).size + (⟨ws⟩:Array Value).size) = true):=by
  unfold Builtin.List.listTooLong
  have:(⟨vs⟩:Array Value).size + (⟨ws⟩:Array Value).size = vs.length + ws.length:=rfl
  rw [this,sizeLine_eq]
  simp
  omega
 rw [if_neg hlong]
 refine wpAny_bind (m:=Builtin.List.listUpdate _ _) ?_
 show wpAny _ _ (updateSeq H _) _ _ _
 refine wpAny_updateSeq ho rfl (wpAny_bind (wpAny_letGo (wpAny_pure (hQ () _ ?_)))) (by rw [sizeLine_eq]; show Array.size _≤_; simp; omega)
 refine ⟨?_,by rw [(Heap.SameBut.update ..).1]; exact Dh.size,fun _ hp=>(nomatch hp)⟩
 have hm:Obj.mapSeq (fun xs=>xs.extract 0 (0:Int).toNat++(⟨ws⟩:Array Value)++xs.extract (max (0:Int) ((⟨vs⟩:Array Value).size:Int)).toNat) (listO vs e) = listO ws (if ws.length == vs.length then e else e+1):=by
  have hx:(⟨vs⟩:Array Value).extract 0 (0:Int).toNat++(⟨ws⟩:Array Value)++(⟨vs⟩:Array Value).extract (max (0:Int) ((⟨vs⟩:Array Value).size:Int)).toNat = ⟨ws⟩:=by
   have e1:(max (0:Int) ((⟨vs⟩:Array Value).size:Int)).toNat = vs.length:=by
    show (max (0:Int) (vs.length:Int)).toNat = vs.length
    omega
   rw [e1]
   simp
  show (let ys:=(⟨vs⟩:Array Value).extract 0 (0:Int).toNat++(⟨ws⟩:Array Value)++(⟨vs⟩:Array Value).extract (max (0:Int) ((⟨vs⟩:Array Value).size:Int)).toNat; ({ cls:=.type "list",dict:=none,data:=.seq ys (if ys.size == (⟨vs⟩:Array Value).size then e else e+1),slots:=#[] }:Obj)) = _
  rw [hx]
  rfl
 have:=Dh.mem.update (i:=0) (a:=H) (o:=listO vs e) (f:=Obj.mapSeq (fun xs=>xs.extract 0 (0:Int).toNat++(⟨ws⟩:Array Value)++xs.extract (max (0:Int) ((⟨vs⟩:Array Value).size:Int)).toNat)) rfl (by rw [hm]; rfl)
 rw [hm] at this
 exact this
noncomputable def dropA:Frag→Frag
 | [] => []
 | p :: r => match Nat.beq p.1 324 with
  | true => r
  | false => p :: dropA r
noncomputable abbrev KF:Params→Frag:=fun p=>dropA (hd.heap_1 p)
noncomputable def kh (w:World) (r:Rows) (x:Str):Int:=PyData.keyHash (pr w r) x
noncomputable abbrev gcA (w:World) (r:Rows) (L5 A I C F0:Nat):Code:=(.compLoop (retE (nthS (fnBody (KF (pr w r)) 121) 1)) 0 (.ref (I+355)) (.ref (A+355)) { scope:=compSc (retE (nthS (fnBody (KF (pr w r)) 121) 1)),locals:=L5+355,globals:=3,cells:=[((⟨#[110,97,109,101]⟩:Str),C+355)],qual:=(⟨#[72,101,97,100,101,114,115,46,103,101,116,95,97,108,108,46,60,108,111,99,97,108,115,62,46]⟩:Str),func:=none,code:=.ref 120,frame:=some (F0+355),builtins:=0 })
noncomputable abbrev FT:=Result→List (Addr × Obj)→Nat→Nat→List (Addr × Obj)→Prop
noncomputable abbrev A_28 (I H i:Nat):List (Addr × Obj):=[((I+355),⟨(.type "list_iterator"),none,.fields ⟨[(.ref (H+355)),(.int (↑i) 0)]⟩,⟨[]⟩⟩)]
noncomputable abbrev A_30 (P L5:Nat):List Nat:=[P+355,P+355,P+355,P+355,P+355,L5+355,L5+355,L5+355]
theorem ga_true0 (w:World) (r:Rows) (Cut:CutTy) (F:FT) (D U N t:Nat) (Vx:Type) (xo:Vx→Obj) (xa:Vx→List Value) (xe xi xn xt:Vx→Nat) (L5 A I C P H F0 i e ae dl:Nat) (vs acc:List Value) (v v0: Value) (tk tn tz: Tok) (nm k kl:Str) (hz:Int) :
  run (KF (pr w r)) [(C+355,⟨.type "cell",none,.cell (some (.str nm tn)),#[]⟩),(P+355,tupO [(.str k tk),v]),(H+355,listO vs e)] ⟨PySem.Challenge.pw_oc0327_01,pr w r⟩ D U Cut (Qp 7 0 F) 100000 (Hs.of [5,1,5] (.cut 4 0 Unit (fun v0=>.ok (.ret (.ref (P+355)))) (fun v0=>[]) (fun v0=>[iterO (H+355) (i+1)]) (fun v0=>N+355) (fun v0=>t) (fun v0=>[]) fun v0=>(Hs.of [1,1,1,4,4,4,1,4,1,4,1] (.cut 0 0 Unit (fun v1=>.ok (.ret (.str kl (t+2)))) (fun v1=>[]) (fun v1=>[]) (fun v1=>N+355) (fun v1=>t+3) (fun v1=>[]) fun v1=>(Hs.of [2,1] (.cut 0 0 Unit (fun v2=>.ok (.ret (.bool true))) (fun v2=>[]) (fun v2=>[]) (fun v2=>N+355) (fun v2=>t+3) (fun v2=>[]) fun v2=>(Hs.of [1,4,4,4,1,4,1,4,1,3] (.cut 2 0 Unit (fun v3=>.ok (.ret .none)) (fun v3=>[]) (fun v3=>[listO (acc++[v]) (ae+1)]) (fun v3=>N+355) (fun v3=>t+4) (fun v3=>[]) fun v3=>(Hs.of [] (.cut 7 0 Vx (fun v9=>.ok .next) (fun v9=>[]) (fun v9=>[xo v9,listO (xa v9) (xe v9),iterE (xi v9)]) (fun v9=>xn v9+355) (fun v9=>xt v9) (fun v9=>[]) fun v9=>.nil)))))))))) [] .nil ⟨none,0,0⟩ (gcA w r L5 A I C F0) (den2 (gcA w r L5 A I C F0)) ⟨[(L5+355,⟨.type "dict",none,.dict ⟨[]⟩ 0,#[]⟩),(A+355,listO acc ae),(I+355,iterO (H+355) i)],N+355,t,[]⟩ =
  ((AllEq (dup [I+355,I+355])∧Cut (D+0) (U+0) (.builtin "list_iterator.__next__" ⟨[(.ref (I+355))],[]⟩) none (A_28 I H i) [] (N+355) t Unit (fun v0=>.ok (.ret (.ref (P+355)))) (fun v0=>[]) (fun v0=>[iterO (H+355) (i+1)]) (fun v0=>N+355) (fun v0=>t) (fun v0=>[]))∧∀ v0:Unit,((AllEq (dup (A_30 P L5))∧Cut (D+0) (U+0) (.builtin "str.lower" ⟨[(.str k tk)],[]⟩) none [] [] (N+355) (t+2) Unit (fun v1=>.ok (.ret (.str kl (t+2)))) (fun v1=>[]) (fun v1=>[]) (fun v1=>N+355) (fun v1=>t+3) (fun v1=>[]))∧∀ v1:Unit,((AllEq (dup [C+355])∧Cut (D+0) (U+0) (.builtin "str.__eq__" ⟨[(.str kl (t+2)),(.str nm tn)],[]⟩) none [] [] (N+355) (t+3) Unit (fun v2=>.ok (.ret (.bool true))) (fun v2=>[]) (fun v2=>[]) (fun v2=>N+355) (fun v2=>t+3) (fun v2=>[]))∧∀ v2:Unit,((AllEq (dup [A+355,P+355,P+355,P+355,P+355,P+355,L5+355])∧Cut (D+0) (U+0) (.builtin "list.append" ⟨[(.ref (A+355)),v],[]⟩) none [((A+355),⟨(.type "list"),none,.seq ⟨acc⟩ ae,⟨[]⟩⟩)] [] (N+355) (t+4) Unit (fun v3=>.ok (.ret .none)) (fun v3=>[]) (fun v3=>[listO (acc++[v]) (ae+1)]) (fun v3=>N+355) (fun v3=>t+4) (fun v3=>[]))∧∀ v3:Unit,((AllEq (dup [])∧Cut (D+0) (U+0) (gcA w r L5 A I C F0) none [((L5+355),⟨(.type "dict"),none,.dict ⟨[⟨(kh w r ⟨#[107,118]⟩),(.str ⟨#[107,118]⟩ t),(.ref (P+355))⟩]⟩ 1,⟨[]⟩⟩),((A+355),⟨(.type "list"),none,.seq ⟨acc++[v]⟩ (ae+1),⟨[]⟩⟩),((I+355),⟨(.type "list_iterator"),none,.fields ⟨[(.ref (H+355)),(.int (↑(i+1)) 0)]⟩,⟨[]⟩⟩)] [] (N+355) (t+4) Vx (fun v9=>.ok .next) (fun v9=>[]) (fun v9=>[xo v9,listO (xa v9) (xe v9),iterE (xi v9)]) (fun v9=>xn v9+355) (fun v9=>xt v9) (fun v9=>[]))∧∀ v9:Vx,F (.ok .next) [((L5+355),(xo v9)),((A+355),⟨(.type "list"),none,.seq ⟨xa v9⟩ (xe v9),⟨[]⟩⟩),((I+355),⟨(.type "list_iterator"),none,.fields ⟨[.none,(.int (↑(xi v9)) 0)]⟩,⟨[]⟩⟩)] (xn v9+355) (xt v9) []))))):=by obtain ⟨r1,r2,r3,r4⟩:=r; cases r2 <;> kernel_rfl
theorem ga_true1 (w:World) (r:Rows) (Cut:CutTy) (F:FT) (D U N t:Nat) (Vx:Type) (xo:Vx→Obj) (xa:Vx→List Value) (xe xi xn xt:Vx→Nat) (L5 A I C P H F0 i e ae dl:Nat) (vs acc:List Value) (v v0: Value) (tk tn tz: Tok) (nm k kl:Str) (hz:Int) :
  run (KF (pr w r)) [(C+355,⟨.type "cell",none,.cell (some (.str nm tn)),#[]⟩),(P+355,tupO [(.str k tk),v]),(H+355,listO vs e)] ⟨PySem.Challenge.pw_oc0327_01,pr w r⟩ D U Cut (Qp 7 0 F) 100000 (Hs.of [5,1,5] (.cut 4 0 Unit (fun v0=>.ok (.ret (.ref (P+355)))) (fun v0=>[]) (fun v0=>[iterO (H+355) (i+1)]) (fun v0=>N+355) (fun v0=>t) (fun v0=>[]) fun v0=>(Hs.of [1,1,1,4,4,4,1,4,1,4,1] (.cut 0 0 Unit (fun v1=>.ok (.ret (.str kl (t+2)))) (fun v1=>[]) (fun v1=>[]) (fun v1=>N+355) (fun v1=>t+3) (fun v1=>[]) fun v1=>(Hs.of [2,1] (.cut 0 0 Unit (fun v2=>.ok (.ret (.bool true))) (fun v2=>[]) (fun v2=>[]) (fun v2=>N+355) (fun v2=>t+3) (fun v2=>[]) fun v2=>(Hs.of [1,4,4,4,1,4,1,4,1,3] (.cut 2 0 Unit (fun v3=>.ok (.ret .none)) (fun v3=>[]) (fun v3=>[listO (acc++[v]) (ae+1)]) (fun v3=>N+355) (fun v3=>t+4) (fun v3=>[]) fun v3=>(Hs.of [] (.cut 7 0 Vx (fun v9=>.ok .next) (fun v9=>[]) (fun v9=>[xo v9,listO (xa v9) (xe v9),iterE (xi v9)]) (fun v9=>xn v9+355) (fun v9=>xt v9) (fun v9=>[]) fun v9=>.nil)))))))))) [] .nil ⟨none,0,0⟩ (gcA w r L5 A I C F0) (den2 (gcA w r L5 A I C F0)) ⟨[(L5+355,⟨.type "dict",none,.dict ⟨[⟨hz,(.str (⟨#[107,118]⟩:Str) tz),v0⟩]⟩ 1,#[]⟩),(A+355,listO acc ae),(I+355,iterO (H+355) i)],N+355,t,[]⟩ =
  ((AllEq (dup [I+355,I+355])∧Cut (D+0) (U+0) (.builtin "list_iterator.__next__" ⟨[(.ref (I+355))],[]⟩) none (A_28 I H i) [] (N+355) t Unit (fun v0=>.ok (.ret (.ref (P+355)))) (fun v0=>[]) (fun v0=>[iterO (H+355) (i+1)]) (fun v0=>N+355) (fun v0=>t) (fun v0=>[]))∧∀ v0:Unit,((AllEq (dup (A_30 P L5))∧Cut (D+0) (U+0) (.builtin "str.lower" ⟨[(.str k tk)],[]⟩) none [] [] (N+355) (t+2) Unit (fun v1=>.ok (.ret (.str kl (t+2)))) (fun v1=>[]) (fun v1=>[]) (fun v1=>N+355) (fun v1=>t+3) (fun v1=>[]))∧∀ v1:Unit,((AllEq (dup [C+355])∧Cut (D+0) (U+0) (.builtin "str.__eq__" ⟨[(.str kl (t+2)),(.str nm tn)],[]⟩) none [] [] (N+355) (t+3) Unit (fun v2=>.ok (.ret (.bool true))) (fun v2=>[]) (fun v2=>[]) (fun v2=>N+355) (fun v2=>t+3) (fun v2=>[]))∧∀ v2:Unit,((AllEq (dup [A+355,P+355,P+355,P+355,P+355,P+355,L5+355])∧Cut (D+0) (U+0) (.builtin "list.append" ⟨[(.ref (A+355)),v],[]⟩) none [((A+355),⟨(.type "list"),none,.seq ⟨acc⟩ ae,⟨[]⟩⟩)] [] (N+355) (t+4) Unit (fun v3=>.ok (.ret .none)) (fun v3=>[]) (fun v3=>[listO (acc++[v]) (ae+1)]) (fun v3=>N+355) (fun v3=>t+4) (fun v3=>[]))∧∀ v3:Unit,((AllEq (dup [])∧Cut (D+0) (U+0) (gcA w r L5 A I C F0) none [((L5+355),⟨(.type "dict"),none,.dict ⟨[⟨hz,(.str ⟨#[107,118]⟩ tz),(.ref (P+355))⟩]⟩ 1,⟨[]⟩⟩),((A+355),⟨(.type "list"),none,.seq ⟨acc++[v]⟩ (ae+1),⟨[]⟩⟩),((I+355),⟨(.type "list_iterator"),none,.fields ⟨[(.ref (H+355)),(.int (↑(i+1)) 0)]⟩,⟨[]⟩⟩)] [] (N+355) (t+4) Vx (fun v9=>.ok .next) (fun v9=>[]) (fun v9=>[xo v9,listO (xa v9) (xe v9),iterE (xi v9)]) (fun v9=>xn v9+355) (fun v9=>xt v9) (fun v9=>[]))∧∀ v9:Vx,F (.ok .next) [((L5+355),(xo v9)),((A+355),⟨(.type "list"),none,.seq ⟨xa v9⟩ (xe v9),⟨[]⟩⟩),((I+355),⟨(.type "list_iterator"),none,.fields ⟨[.none,(.int (↑(xi v9)) 0)]⟩,⟨[]⟩⟩)] (xn v9+355) (xt v9) []))))):=by obtain ⟨r1,r2,r3,r4⟩:=r; cases r2 <;> kernel_rfl
theorem ga_false0 (w:World) (r:Rows) (Cut:CutTy) (F:FT) (D U N t:Nat) (Vx:Type) (xo:Vx→Obj) (xa:Vx→List Value) (xe xi xn xt:Vx→Nat) (L5 A I C P H F0 i e ae dl:Nat) (vs acc:List Value) (v v0: Value) (tk tn tz: Tok) (nm k kl:Str) (hz:Int) :
  run (KF (pr w r)) [(C+355,⟨.type "cell",none,.cell (some (.str nm tn)),#[]⟩),(P+355,tupO [(.str k tk),v]),(H+355,listO vs e)] ⟨PySem.Challenge.pw_oc0327_01,pr w r⟩ D U Cut (Qp 7 0 F) 100000 (Hs.of [5,1,5] (.cut 4 0 Unit (fun v0=>.ok (.ret (.ref (P+355)))) (fun v0=>[]) (fun v0=>[iterO (H+355) (i+1)]) (fun v0=>N+355) (fun v0=>t) (fun v0=>[]) fun v0=>(Hs.of [1,1,1,4,4,4,1,4,1,4,1] (.cut 0 0 Unit (fun v1=>.ok (.ret (.str kl (t+2)))) (fun v1=>[]) (fun v1=>[]) (fun v1=>N+355) (fun v1=>t+3) (fun v1=>[]) fun v1=>(Hs.of [2,1] (.cut 0 0 Unit (fun v2=>.ok (.ret (.bool false))) (fun v2=>[]) (fun v2=>[]) (fun v2=>N+355) (fun v2=>t+3) (fun v2=>[]) fun v2=>(Hs.of [] (.cut 7 0 Vx (fun v9=>.ok .next) (fun v9=>[]) (fun v9=>[xo v9,listO (xa v9) (xe v9),iterE (xi v9)]) (fun v9=>xn v9+355) (fun v9=>xt v9) (fun v9=>[]) fun v9=>.nil)))))))) [] .nil ⟨none,0,0⟩ (gcA w r L5 A I C F0) (den2 (gcA w r L5 A I C F0)) ⟨[(L5+355,⟨.type "dict",none,.dict ⟨[]⟩ 0,#[]⟩),(A+355,listO acc ae),(I+355,iterO (H+355) i)],N+355,t,[]⟩ =
  ((AllEq (dup [I+355,I+355])∧Cut (D+0) (U+0) (.builtin "list_iterator.__next__" ⟨[(.ref (I+355))],[]⟩) none (A_28 I H i) [] (N+355) t Unit (fun v0=>.ok (.ret (.ref (P+355)))) (fun v0=>[]) (fun v0=>[iterO (H+355) (i+1)]) (fun v0=>N+355) (fun v0=>t) (fun v0=>[]))∧∀ v0:Unit,((AllEq (dup (A_30 P L5))∧Cut (D+0) (U+0) (.builtin "str.lower" ⟨[(.str k tk)],[]⟩) none [] [] (N+355) (t+2) Unit (fun v1=>.ok (.ret (.str kl (t+2)))) (fun v1=>[]) (fun v1=>[]) (fun v1=>N+355) (fun v1=>t+3) (fun v1=>[]))∧∀ v1:Unit,((AllEq (dup [C+355])∧Cut (D+0) (U+0) (.builtin "str.__eq__" ⟨[(.str kl (t+2)),(.str nm tn)],[]⟩) none [] [] (N+355) (t+3) Unit (fun v2=>.ok (.ret (.bool false))) (fun v2=>[]) (fun v2=>[]) (fun v2=>N+355) (fun v2=>t+3) (fun v2=>[]))∧∀ v2:Unit,((AllEq (dup [])∧Cut (D+0) (U+0) (gcA w r L5 A I C F0) none [((L5+355),⟨(.type "dict"),none,.dict ⟨[⟨(kh w r ⟨#[107,118]⟩),(.str ⟨#[107,118]⟩ t),(.ref (P+355))⟩]⟩ 1,⟨[]⟩⟩),((A+355),⟨(.type "list"),none,.seq ⟨acc⟩ ae,⟨[]⟩⟩),((I+355),⟨(.type "list_iterator"),none,.fields ⟨[(.ref (H+355)),(.int (↑(i+1)) 0)]⟩,⟨[]⟩⟩)] [] (N+355) (t+3) Vx (fun v9=>.ok .next) (fun v9=>[]) (fun v9=>[xo v9,listO (xa v9) (xe v9),iterE (xi v9)]) (fun v9=>xn v9+355) (fun v9=>xt v9) (fun v9=>[]))∧∀ v9:Vx,F (.ok .next) [((L5+355),(xo v9)),((A+355),⟨(.type "list"),none,.seq ⟨xa v9⟩ (xe v9),⟨[]⟩⟩),((I+355),⟨(.type "list_iterator"),none,.fields ⟨[.none,(.int (↑(xi v9)) 0)]⟩,⟨[]⟩⟩)] (xn v9+355) (xt v9) [])))):=by obtain ⟨r1,r2,r3,r4⟩:=r; cases r2 <;> kernel_rfl
theorem ga_false1 (w:World) (r:Rows) (Cut:CutTy) (F:FT) (D U N t:Nat) (Vx:Type) (xo:Vx→Obj) (xa:Vx→List Value) (xe xi xn xt:Vx→Nat) (L5 A I C P H F0 i e ae dl:Nat) (vs acc:List Value) (v v0: Value) (tk tn tz: Tok) (nm k kl:Str) (hz:Int) :
  run (KF (pr w r)) [(C+355,⟨.type "cell",none,.cell (some (.str nm tn)),#[]⟩),(P+355,tupO [(.str k tk),v]),(H+355,listO vs e)] ⟨PySem.Challenge.pw_oc0327_01,pr w r⟩ D U Cut (Qp 7 0 F) 100000 (Hs.of [5,1,5] (.cut 4 0 Unit (fun v0=>.ok (.ret (.ref (P+355)))) (fun v0=>[]) (fun v0=>[iterO (H+355) (i+1)]) (fun v0=>N+355) (fun v0=>t) (fun v0=>[]) fun v0=>(Hs.of [1,1,1,4,4,4,1,4,1,4,1] (.cut 0 0 Unit (fun v1=>.ok (.ret (.str kl (t+2)))) (fun v1=>[]) (fun v1=>[]) (fun v1=>N+355) (fun v1=>t+3) (fun v1=>[]) fun v1=>(Hs.of [2,1] (.cut 0 0 Unit (fun v2=>.ok (.ret (.bool false))) (fun v2=>[]) (fun v2=>[]) (fun v2=>N+355) (fun v2=>t+3) (fun v2=>[]) fun v2=>(Hs.of [] (.cut 7 0 Vx (fun v9=>.ok .next) (fun v9=>[]) (fun v9=>[xo v9,listO (xa v9) (xe v9),iterE (xi v9)]) (fun v9=>xn v9+355) (fun v9=>xt v9) (fun v9=>[]) fun v9=>.nil)))))))) [] .nil ⟨none,0,0⟩ (gcA w r L5 A I C F0) (den2 (gcA w r L5 A I C F0)) ⟨[(L5+355,⟨.type "dict",none,.dict ⟨[⟨hz,(.str (⟨#[107,118]⟩:Str) tz),v0⟩]⟩ 1,#[]⟩),(A+355,listO acc ae),(I+355,iterO (H+355) i)],N+355,t,[]⟩ =
  ((AllEq (dup [I+355,I+355])∧Cut (D+0) (U+0) (.builtin "list_iterator.__next__" ⟨[(.ref (I+355))],[]⟩) none (A_28 I H i) [] (N+355) t Unit (fun v0=>.ok (.ret (.ref (P+355)))) (fun v0=>[]) (fun v0=>[iterO (H+355) (i+1)]) (fun v0=>N+355) (fun v0=>t) (fun v0=>[]))∧∀ v0:Unit,((AllEq (dup (A_30 P L5))∧Cut (D+0) (U+0) (.builtin "str.lower" ⟨[(.str k tk)],[]⟩) none [] [] (N+355) (t+2) Unit (fun v1=>.ok (.ret (.str kl (t+2)))) (fun v1=>[]) (fun v1=>[]) (fun v1=>N+355) (fun v1=>t+3) (fun v1=>[]))∧∀ v1:Unit,((AllEq (dup [C+355])∧Cut (D+0) (U+0) (.builtin "str.__eq__" ⟨[(.str kl (t+2)),(.str nm tn)],[]⟩) none [] [] (N+355) (t+3) Unit (fun v2=>.ok (.ret (.bool false))) (fun v2=>[]) (fun v2=>[]) (fun v2=>N+355) (fun v2=>t+3) (fun v2=>[]))∧∀ v2:Unit,((AllEq (dup [])∧Cut (D+0) (U+0) (gcA w r L5 A I C F0) none [((L5+355),⟨(.type "dict"),none,.dict ⟨[⟨hz,(.str ⟨#[107,118]⟩ tz),(.ref (P+355))⟩]⟩ 1,⟨[]⟩⟩),((A+355),⟨(.type "list"),none,.seq ⟨acc⟩ ae,⟨[]⟩⟩),((I+355),⟨(.type "list_iterator"),none,.fields ⟨[(.ref (H+355)),(.int (↑(i+1)) 0)]⟩,⟨[]⟩⟩)] [] (N+355) (t+3) Vx (fun v9=>.ok .next) (fun v9=>[]) (fun v9=>[xo v9,listO (xa v9) (xe v9),iterE (xi v9)]) (fun v9=>xn v9+355) (fun v9=>xt v9) (fun v9=>[]))∧∀ v9:Vx,F (.ok .next) [((L5+355),(xo v9)),((A+355),⟨(.type "list"),none,.seq ⟨xa v9⟩ (xe v9),⟨[]⟩⟩),((I+355),⟨(.type "list_iterator"),none,.fields ⟨[.none,(.int (↑(xi v9)) 0)]⟩,⟨[]⟩⟩)] (xn v9+355) (xt v9) [])))):=by obtain ⟨r1,r2,r3,r4⟩:=r; cases r2 <;> kernel_rfl
theorem ga_end (w:World) (r:Rows) (Cut:CutTy) (F:FT) (D U N t:Nat) (L5 A I C H F0 i e ae dl:Nat) (vs acc:List Value) (v v0: Value) (tk tn tz: Tok) (nm k kl:Str) (hz:Int) (od:Obj) :
  run (KF (pr w r)) [(C+355,⟨.type "cell",none,.cell (some (.str nm tn)),#[]⟩),(H+355,listO vs e)] ⟨PySem.Challenge.pw_oc0327_01,pr w r⟩ D U Cut (Qp 28 0 F) 100000 (Hs.of [5,1,5] (.cut 4 0 Unit (fun v0=>.error (.ref (N+356))) (fun v0=>[(N+356,stopO (N+355)),(N+355,tupO [])]) (fun v0=>[iterE i]) (fun v0=>N+357) (fun v0=>t) (fun v0=>[]) fun v0=>(Hs.of [1] .nil))) [] .nil ⟨none,0,0⟩ (gcA w r L5 A I C F0) (den2 (gcA w r L5 A I C F0)) ⟨[(L5+355,od),(A+355,listO acc ae),(I+355,iterO (H+355) i)],N+355,t,[]⟩ =
  ((AllEq (dup [I+355,I+355])∧Cut (D+0) (U+0) (.builtin "list_iterator.__next__" ⟨[(.ref (I+355))],[]⟩) none (A_28 I H i) [] (N+355) t Unit (fun v0=>.error (.ref (N+356))) (fun v0=>[(N+356,stopO (N+355)),(N+355,tupO [])]) (fun v0=>[iterE i]) (fun v0=>N+357) (fun v0=>t) (fun v0=>[]))∧∀ v0:Unit,(AllEq (dup [N+356])∧F (.ok .next) [((L5+355),od),((A+355),⟨(.type "list"),none,.seq ⟨acc⟩ ae,⟨[]⟩⟩),((I+355),⟨(.type "list_iterator"),none,.fields ⟨[.none,(.int (↑i) 0)]⟩,⟨[]⟩⟩)] (N+357) t [])):=by kernel_rfl
theorem gaf (w:World) (r:Rows) (Cut:CutTy) (F:FT) (D U N t:Nat) (Vx:Type) (xh:Vx→Int) (xz:Vx→Tok) (xv:Vx→Value) (xa:Vx→List Value) (xe xi xn xt:Vx→Nat) (T dT H e:Nat) (h1:Int) (t1 tx:Tok) (vs:List Value) (k nm:Str) :
  run (KF (pr w r)) [(T+355,⟨.ref 182,some (dT+355),.plain,#[]⟩),(dT+355,⟨.type "dict",none,.dict #[⟨h1,(.str (⟨#[95,104,101,97,100,101,114,115]⟩:Str) t1),.ref (H+355)⟩] 1,#[]⟩),(H+355,listO vs e)] ⟨PySem.Challenge.pw_oc0327_01,pr w r⟩ D U Cut (Qp 2 0 F) 100000 (Hs.of [0,0,3,3,1,1,0,1,3,2,0,0,0,2,0,0,0,2,0,0,0,0,2,4,1,1] (.cut 0 0 Unit (fun v0=>.ok (.ret (.str nm (t+1)))) (fun v0=>[]) (fun v0=>[]) (fun v0=>N+357) (fun v0=>t+2) (fun v0=>[]) fun v0=>(Hs.of [0] (.cut 0 0 Unit (fun v1=>.ok (.ret (.str nm (t+1)))) (fun v1=>[]) (fun v1=>[]) (fun v1=>N+358) (fun v1=>t+6) (fun v1=>[]) fun v1=>(Hs.of (cond r.a [1,1,3,2,0,0,0,1,2,0,0,0,2,2,0,4,6,6,1,6,1,1,1] [1,1,3,2,0,0,0,1,2,0,0,0,2,2,0,4,6,6,1,6,1,1,1,5,5,1,5,1,5]) (.cut 7 8 Vx (fun v9=>.ok .next) (fun v9=>[]) (fun v9=>[⟨.type "dict",none,.dict ⟨[⟨xh v9,(.str (⟨#[107,118]⟩:Str) (xz v9)),xv v9⟩]⟩ 1,#[]⟩,listO (xa v9) (xe v9),iterE (xi v9)]) (fun v9=>xn v9+355) (fun v9=>xt v9) (fun v9=>[]) fun v9=>(Hs.of [1,1,1] .nil))))))) [] .nil ⟨none,0,0⟩ (.call (.ref 121) ⟨[.ref (T+355),.str k tx],[]⟩) (den2 (.call (.ref 121) ⟨[.ref (T+355),.str k tx],[]⟩)) ⟨[],N+355,t,[]⟩ =
  ((AllEq (dup [N+356,dT+355,T+355,T+355,T+355,T+355,N+355,N+356,N+356,N+355,N+355])∧Cut (D+1) (U+3) (.builtin "str.lower" ⟨[(.str k tx)],[]⟩) none [] [] (N+357) (t+1) Unit (fun v0=>.ok (.ret (.str nm (t+1)))) (fun v0=>[]) (fun v0=>[]) (fun v0=>N+357) (fun v0=>t+2) (fun v0=>[]))∧∀ v0:Unit,((AllEq (dup [])∧Cut (D+1) (U+3) (.call (.ref 83) ⟨[(.ref (T+355)),(.str nm (t+1))],[(⟨#[110,97,109,101]⟩,(.bool true))]⟩) none [] [] (N+357) (t+2) Unit (fun v1=>.ok (.ret (.str nm (t+1)))) (fun v1=>[]) (fun v1=>[]) (fun v1=>N+358) (fun v1=>t+6) (fun v1=>[]))∧∀ v1:Unit,((AllEq (dup (cond r.a [N+358,H+355,H+355,H+355,dT+355,T+355,T+355,T+355,T+355,N+355,N+356,N+356] [N+358,N+358,N+358,N+358,N+358,H+355,H+355,H+355,dT+355,T+355,T+355,T+355,T+355,N+355,N+356,N+356]))∧Cut (D+1) (U+3) (.compLoop (retE (nthS (fnBody (KF (pr w r)) 121) 1)) 0 (.ref (N+358)) (.ref (N+359)) { scope:=compSc (retE (nthS (fnBody (KF (pr w r)) 121) 1)),locals:=N+360,globals:=3,cells:=[((⟨#[110,97,109,101]⟩:Str),N+356)],qual:=(⟨#[72,101,97,100,101,114,115,46,103,101,116,95,97,108,108,46,60,108,111,99,97,108,115,62,46]⟩:Str),func:=none,code:=.ref 120,frame:=some (N+355),builtins:=0 }) none [((N+360),⟨(.type "dict"),none,.dict ⟨[]⟩ 0,⟨[]⟩⟩),((N+359),⟨(.type "list"),none,.seq ⟨[]⟩ 0,⟨[]⟩⟩),((N+358),⟨(.type "list_iterator"),none,.fields ⟨[(.ref (H+355)),(.int 0 0)]⟩,⟨[]⟩⟩)] [((N+356),⟨(.type "cell"),none,.cell (some (.str nm (t+1))),⟨[]⟩⟩)] (N+361) (t+7) Vx (fun v9=>.ok .next) (fun v9=>[]) (fun v9=>[⟨.type "dict",none,.dict ⟨[⟨xh v9,(.str (⟨#[107,118]⟩:Str) (xz v9)),xv v9⟩]⟩ 1,#[]⟩,listO (xa v9) (xe v9),iterE (xi v9)]) (fun v9=>xn v9+355) (fun v9=>xt v9) (fun v9=>[]))∧∀ v9:Vx,(AllEq (dup [N+360,N+360,N+360])∧F (.ok (.ret (.ref (N+359)))) [((N+359),⟨(.type "list"),none,.seq ⟨xa v9⟩ (xe v9),⟨[]⟩⟩)] ((xn v9)+355) (xt v9) [])))):=by obtain ⟨r1,r2,r3,r4⟩:=r; cases r1 <;> cases r2 <;> kernel_rfl
noncomputable def wr (w:World) (r:Rows):World:={ w with params:=pr w r }
noncomputable abbrev XX (w:World) (r:Rows) (g:Array GenState) (d:Drawn) (os:OsState):Env0:=⟨PySem.Challenge.pw_oc0327_01,wr w r,g,d,os⟩
variable {w:World} {r:Rows} {g:Array GenState} {d:Drawn} {os:OsState} {B:Heap→Prop} {D U:Nat} (MB:Mono B) (hB:∀ h,B h→(KF (pr w r)).In h)
noncomputable def sb:Str:=⟨#[98]⟩
noncomputable def sc:Str:=⟨#[99]⟩
noncomputable def sd:Str:=⟨#[100]⟩
noncomputable def sa:Str:=⟨#[97]⟩
noncomputable def uA:Str:=⟨#[65]⟩
noncomputable def uB:Str:=⟨#[66]⟩
noncomputable def uC:Str:=⟨#[67]⟩
noncomputable def uD:Str:=⟨#[68]⟩
noncomputable def low (k:Str):Str:=if k = uA then sa else if k = uB then sb else if k = uC then sc else if k = uD then sd else k
noncomputable def Key (k:Str):Prop:=k = sb∨k = sc∨k = sd∨k = uB∨k = uC∨k = uD
noncomputable def Arg (k:Str):Prop:=k = sa∨k = uA∨Key k
noncomputable def Let (k:Str):Prop:=k = sa∨k = sb∨k = sc∨k = sd
section
variable {w:World} {r:Rows} {g:Array GenState} {d:Drawn} {os:OsState} {B:Heap→Prop} {D U:Nat}
theorem bi0 (MB:Mono B) (hB:∀ h,B h→(KF (pr w r)).In h) (hD:Lim D U 50) {c:Code} {rr:Result} {n t t':Nat}
  (e:∀ (Cut:CutTy) (F:FT),run (KF (pr w r)) [] ⟨PySem.Challenge.pw_oc0327_01,pr w r⟩ D U Cut (Qp 0 0 F) 100000 (Hs.of [] .nil) [] .nil ⟨none,0,0⟩ c (den2 c) ⟨[],n,t,[]⟩ = (AllEq (dup [])∧F rr [] n t' [])) :
  CutOk (XX w r g d os) B D U c none [] [] n t Unit (fun _=>rr) (fun _=>[]) (fun _=>[]) (fun _=>n) (fun _=>t') (fun _=>[]) :=
 CutOk.of_runE MB hB hD (fun _ _ hp=>nomatch hp) (fun _=>rfl) 0 0 100000 _ (e _ _) ⟨allEq_dup _,(),rfl,rfl,rfl,rfl,rfl⟩
theorem lower_ok (MB:Mono B) (hB:∀ h,B h→(KF (pr w r)).In h) (hD:Lim D U 50) {k:Str} (hk:Arg k) {tk:Tok} {n t:Nat} :
  CutOk (XX w r g d os) B D U (.builtin "str.lower" ⟨[.str k tk],[]⟩) none [] [] n t Unit (fun _=>.ok (.ret (.str (low k) t))) (fun _=>[]) (fun _=>[]) (fun _=>n) (fun _=>t+1) (fun _=>[]):=by
 rcases hk with rfl | rfl | rfl | rfl | rfl | rfl | rfl | rfl <;> exact bi0 MB hB hD fun _ _=>by kernel_rfl
theorem eq_ok (MB:Mono B) (hB:∀ h,B h→(KF (pr w r)).In h) (hD:Lim D U 50) {x y:Str} (hx:x = sb∨x = sc∨x = sd) (hy:Let y) {tx ty:Tok} {n t:Nat} :
  CutOk (XX w r g d os) B D U (.builtin "str.__eq__" ⟨[.str x tx,.str y ty],[]⟩) none [] [] n t Unit (fun _=>.ok (.ret (.bool (decide (x = y))))) (fun _=>[]) (fun _=>[]) (fun _=>n) (fun _=>t) (fun _=>[]):=by
 rcases hx with rfl | rfl | rfl <;> rcases hy with rfl | rfl | rfl | rfl <;> exact bi0 MB hB hD fun _ _=>by kernel_rfl
end
structure Ent where
 P:Nat
 k:Str
 tk:Tok
 x:Value
noncomputable def Ent.v (e:Ent):Value:=.ref (e.P+355)
noncomputable def PairsIn (es:List Ent) (h:Heap):Prop:=∀ e∈es,h.get? (e.P+355) = some (tupO [.str e.k e.tk,e.x])
noncomputable def hits (nm:Str) (es:List Ent):List Value:=(es.filter fun e=>decide (low e.k = nm)).map Ent.x
theorem ne_A:sb≠sc∧sb≠sd∧sc≠sb∧sc≠sd∧sd≠sb∧sd≠sc:=by decide
theorem ne_B:sb≠sc∧sb≠sa∧sc≠sb∧sc≠sa∧sa≠sb∧sa≠sc:=by decide
theorem key_low {k:Str} (h:Key k):low k = sb∨low k = sc∨low k = sd:=by
 rcases h with rfl | rfl | rfl | rfl | rfl | rfl <;> decide
noncomputable abbrev gaE (w:World) (r:Rows):Expr:=retE (nthS (fnBody (KF (pr w r)) 121) 1)
noncomputable abbrev gaCode (w:World) (r:Rows) (L5 A I C F0:Nat):Code :=
 .compLoop (gaE w r) 0 (.ref (I+355)) (.ref (A+355)) { scope:=compSc (gaE w r),locals:=L5+355,globals:=3,cells:=[((⟨#[110,97,109,101]⟩:Str),C+355)],qual:=(⟨#[72,101,97,100,101,114,115,46,103,101,116,95,97,108,108,46,60,108,111,99,97,108,115,62,46]⟩:Str),func:=none,code:=.ref 120,frame:=some (F0+355),builtins:=0 }
structure GaV where
 od:Obj
 e:Nat
 i:Nat
 n:Nat
 t:Nat
noncomputable abbrev kvO (es:List DictEntry) (n:Nat):Obj:=⟨.type "dict",none,.dict ⟨es⟩ n,#[]⟩
noncomputable abbrev cellO (v:Value):Obj:=⟨.type "cell",none,.cell (some v),#[]⟩
noncomputable def Sh1 (o:Obj):Prop:=∃ hz tz v0,o = kvO [⟨hz,.str (⟨#[107,118]⟩:Str) tz,v0⟩] 1
noncomputable def KvShape (o:Obj):Prop:=o = kvO [] 0∨Sh1 o
section
variable {w:World} {r:Rows} {g:Array GenState} {d:Drawn} {os:OsState} {B:Heap→Prop} {D U:Nat}
theorem ga_loop (MB:Mono B) (hB:∀ h,B h→(KF (pr w r)).In h) (hD:Lim D U 50) {es:List Ent} (hks:∀ x∈es,Key x.k) (hp:∀ h,B h→PairsIn es h) {nm:Str} (hn:Let nm) {tn:Tok} {L5 A I C H F0 e:Nat} :
  ∀ (m i:Nat),es.length = i + m→∀ (acc:List Value) (ae N t:Nat) (od:Obj) (b:Bool),KvShape od→(b = true→Sh1 od∨0 < m)→acc.length + m≤1000 →
  CutOk (XX w r g d os) B D U (gaCode w r L5 A I C F0) none [(L5+355,od),(A+355,listO acc ae),(I+355,iterO (H+355) i)] [(C+355,cellO (.str nm tn)),(H+355,listO (es.map Ent.v) e)] (N+355) t
   {v:GaV // N≤v.n∧(b = true→Sh1 v.od)} (fun _=>.ok .next) (fun _=>[]) (fun v=>[v.1.od,listO (acc++hits nm (es.drop i)) v.1.e,iterE v.1.i]) (fun v=>v.1.n+355) (fun v=>v.1.t) (fun _=>[]):=by
 intro m
 induction m with
 | zero =>
  intro i hi acc ae N t od b hod hb ha
  refine CutOk.of_runE MB hB hD (fun _ _ hq=>nomatch hq) (fun _=>rfl) 28 0 100000 _ (ga_end w r _ _ D U N t L5 A I C H F0 i e ae 0 (es.map Ent.v) acc .none .none 0 tn 0 nm nm nm 0 od) ?_
  refine ⟨⟨allEq_dup _,(next_none (n:=N+355) (vs:=es.map Ent.v) (e:=e) (by simp; omega)).weaken (Nat.le_refl _) (Nat.le_refl _) fun h b _=>⟨b.1,fun p hp'=>?_⟩⟩,fun _=>⟨allEq_dup _,⟨⟨od,ae,i,N+2,t⟩,by simp,fun q=>(hb q).elim id (fun z=>absurd z (Nat.lt_irrefl 0))⟩,rfl,?_,by show N+357 = N+2 + 355; omega,rfl,rfl⟩⟩
  ·rcases List.mem_singleton.mp hp' with rfl
   exact b.2 _ (.tail _ (.head _))
  ·rw [List.drop_of_length_le (by omega)]
   simp [hits,setO]
 | succ m ih =>
  intro i hi acc ae N t od b hod hb ha
  have hlt:i < es.length:=by omega
  obtain ⟨x,hx⟩:∃ x,es[i]? = some x:=⟨_,List.getElem?_eq_getElem hlt⟩
  have hxm:x∈es:=List.mem_of_getElem? hx
  have hvs:(es.map Ent.v)[i]? = some (.ref (x.P+355)):=by rw [List.getElem?_map,hx]; rfl
  have hdr:es.drop i = x :: es.drop (i+1):=by
   rw [List.drop_eq_getElem_cons hlt]
   have:=List.getElem?_eq_getElem hlt
   rw [hx] at this
   rw [← Option.some.inj this]
  have hkey:Key x.k:=hks x hxm
  have wk:∀ h,B h→ImIn [(C+355,cellO (.str nm tn)),(H+355,listO (es.map Ent.v) e)] h→B h∧ImIn [(C+355,cellO (.str nm tn)),(x.P+355,tupO [.str x.k x.tk,x.x]),(H+355,listO (es.map Ent.v) e)] h:=by
   intro h b im
   refine ⟨b,fun p hp'=>?_⟩
   simp only [List.mem_cons,List.not_mem_nil,or_false] at hp'
   rcases hp' with rfl | rfl | rfl
   ·exact im _ (.head _)
   ·exact hp h b x hxm
   ·exact im _ (.tail _ (.head _))
  refine CutOk.weaken (im':=[(C+355,cellO (.str nm tn)),(x.P+355,tupO [.str x.k x.tk,x.x]),(H+355,listO (es.map Ent.v) e)]) (B':=B) ?_ (Nat.le_refl _) (Nat.le_refl _) wk
  have MB':=MB.bi [(C+355,cellO (.str nm tn)),(x.P+355,tupO [.str x.k x.tk,x.x]),(H+355,listO (es.map Ent.v) e)]
  have hB':∀ h,BI B [(C+355,cellO (.str nm tn)),(x.P+355,tupO [.str x.k x.tk,x.x]),(H+355,listO (es.map Ent.v) e)] h→(KF (pr w r)).In h:=fun h b=>hB h b.1
  have wk2:∀ h,BI B [(C+355,cellO (.str nm tn)),(x.P+355,tupO [.str x.k x.tk,x.x]),(H+355,listO (es.map Ent.v) e)] h→ImIn [] h→B h∧ImIn [(C+355,cellO (.str nm tn)),(H+355,listO (es.map Ent.v) e)] h:=by
   intro h b _
   refine ⟨b.1,fun p hp'=>?_⟩
   simp only [List.mem_cons,List.not_mem_nil,or_false] at hp'
   rcases hp' with rfl | rfl
   ·exact b.2 _ (.head _)
   ·exact b.2 _ (.tail _ (.tail _ (.head _)))
  have wk3:∀ h,BI B [(C+355,cellO (.str nm tn)),(x.P+355,tupO [.str x.k x.tk,x.x]),(H+355,listO (es.map Ent.v) e)] h→ImIn [] h→True∧ImIn [(H+355,listO (es.map Ent.v) e)] h:=by
   intro h b _
   refine ⟨trivial,fun p hp'=>?_⟩
   rcases List.mem_singleton.mp hp' with rfl
   exact b.2 _ (.tail _ (.tail _ (.head _)))
  by_cases hit:low x.k = nm
  ·have hh:hits nm (es.drop i) = x.x :: hits nm (es.drop (i+1)):=by rw [hdr]; simp [hits,hit]
   rcases hod with rfl | ⟨hz,tz,v0,rfl⟩
   ·have IH:=fun (o:Obj) (ho:KvShape o∧Sh1 o) => ih (i+1) (by omega) (acc++[x.x]) (ae+1) N (t+4) o true ho.1 (fun _=>.inl ho.2) (by simp; omega)
    refine CutOk.of_runE MB hB hD (fun _ _ hq=>nomatch hq) (fun _=>rfl) 7 0 100000 _ (ga_true0 w r _ _ D U N t {v:GaV // N≤v.n∧(true = true→Sh1 v.od)} (fun v=>v.1.od) (fun v=>(acc++[x.x])++hits nm (es.drop (i+1))) (fun v=>v.1.e) (fun v=>v.1.i) (fun v=>v.1.n) (fun v=>v.1.t) L5 A I C x.P H F0 i e ae 0 (es.map Ent.v) acc x.x .none x.tk tn 0 nm x.k (low x.k) 0) ?_
    refine ⟨⟨allEq_dup _,((next_some (B:=fun _=>True) (e:=e) hvs).weaken (Nat.le_refl _) (Nat.le_refl _) wk3)⟩,fun _=>⟨⟨allEq_dup _,lower_ok MB' hB' (by omega) (.inr (.inr hkey))⟩,fun _=>⟨⟨allEq_dup _,?_⟩,fun _=>⟨⟨allEq_dup _,append_ok (by omega)⟩,fun _=>⟨⟨allEq_dup _,(IH _ ⟨.inr ⟨_,_,_,rfl⟩,⟨_,_,_,rfl⟩⟩).weaken (Nat.le_refl _) (Nat.le_refl _) wk2⟩,fun v9=>⟨⟨v9.1,v9.2.1,fun _=>v9.2.2 rfl⟩,rfl,?_,rfl,rfl,rfl⟩⟩⟩⟩⟩⟩
    ·have:=eq_ok (w:=w) (r:=r) (g:=g) (d:=d) (os:=os) (D:=D) (U:=U) MB' hB' hD (key_low hkey) hn (tx:=t+2) (ty:=tn) (n:=N+355) (t:=t+3)
     rw [decide_eq_true hit] at this
     exact this
    ·rw [hh]; simp [setO]
   ·have IH:=fun (o:Obj) (ho:KvShape o∧Sh1 o) => ih (i+1) (by omega) (acc++[x.x]) (ae+1) N (t+4) o true ho.1 (fun _=>.inl ho.2) (by simp; omega)
    refine CutOk.of_runE MB hB hD (fun _ _ hq=>nomatch hq) (fun _=>rfl) 7 0 100000 _ (ga_true1 w r _ _ D U N t {v:GaV // N≤v.n∧(true = true→Sh1 v.od)} (fun v=>v.1.od) (fun v=>(acc++[x.x])++hits nm (es.drop (i+1))) (fun v=>v.1.e) (fun v=>v.1.i) (fun v=>v.1.n) (fun v=>v.1.t) L5 A I C x.P H F0 i e ae 0 (es.map Ent.v) acc x.x v0 x.tk tn tz nm x.k (low x.k) hz) ?_
    refine ⟨⟨allEq_dup _,((next_some (B:=fun _=>True) (e:=e) hvs).weaken (Nat.le_refl _) (Nat.le_refl _) wk3)⟩,fun _=>⟨⟨allEq_dup _,lower_ok MB' hB' (by omega) (.inr (.inr hkey))⟩,fun _=>⟨⟨allEq_dup _,?_⟩,fun _=>⟨⟨allEq_dup _,append_ok (by omega)⟩,fun _=>⟨⟨allEq_dup _,(IH _ ⟨.inr ⟨_,_,_,rfl⟩,⟨_,_,_,rfl⟩⟩).weaken (Nat.le_refl _) (Nat.le_refl _) wk2⟩,fun v9=>⟨⟨v9.1,v9.2.1,fun _=>v9.2.2 rfl⟩,rfl,?_,rfl,rfl,rfl⟩⟩⟩⟩⟩⟩
    ·have:=eq_ok (w:=w) (r:=r) (g:=g) (d:=d) (os:=os) (D:=D) (U:=U) MB' hB' hD (key_low hkey) hn (tx:=t+2) (ty:=tn) (n:=N+355) (t:=t+3)
     rw [decide_eq_true hit] at this
     exact this
    ·rw [hh]; simp [setO]
  ·have hh:hits nm (es.drop i) = hits nm (es.drop (i+1)):=by rw [hdr]; simp [hits,hit]
   rcases hod with rfl | ⟨hz,tz,v0,rfl⟩
   ·have IH:=fun (o:Obj) (ho:KvShape o∧Sh1 o) => ih (i+1) (by omega) acc ae N (t+3) o true ho.1 (fun _=>.inl ho.2) (by omega)
    refine CutOk.of_runE MB hB hD (fun _ _ hq=>nomatch hq) (fun _=>rfl) 7 0 100000 _ (ga_false0 w r _ _ D U N t {v:GaV // N≤v.n∧(true = true→Sh1 v.od)} (fun v=>v.1.od) (fun v=>acc++hits nm (es.drop (i+1))) (fun v=>v.1.e) (fun v=>v.1.i) (fun v=>v.1.n) (fun v=>v.1.t) L5 A I C x.P H F0 i e ae 0 (es.map Ent.v) acc x.x .none x.tk tn 0 nm x.k (low x.k) 0) ?_
    refine ⟨⟨allEq_dup _,((next_some (B:=fun _=>True) (e:=e) hvs).weaken (Nat.le_refl _) (Nat.le_refl _) wk3)⟩,fun _=>⟨⟨allEq_dup _,lower_ok MB' hB' (by omega) (.inr (.inr hkey))⟩,fun _=>⟨⟨allEq_dup _,?_⟩,fun _=>⟨⟨allEq_dup _,(IH _ ⟨.inr ⟨_,_,_,rfl⟩,⟨_,_,_,rfl⟩⟩).weaken (Nat.le_refl _) (Nat.le_refl _) wk2⟩,fun v9=>⟨⟨v9.1,v9.2.1,fun _=>v9.2.2 rfl⟩,rfl,?_,rfl,rfl,rfl⟩⟩⟩⟩⟩
    ·have:=eq_ok (w:=w) (r:=r) (g:=g) (d:=d) (os:=os) (D:=D) (U:=U) MB' hB' hD (key_low hkey) hn (tx:=t+2) (ty:=tn) (n:=N+355) (t:=t+3)
     rw [decide_eq_false hit] at this
     exact this
    ·rw [hh]; simp [setO]
   ·have IH:=fun (o:Obj) (ho:KvShape o∧Sh1 o) => ih (i+1) (by omega) acc ae N (t+3) o true ho.1 (fun _=>.inl ho.2) (by omega)
    refine CutOk.of_runE MB hB hD (fun _ _ hq=>nomatch hq) (fun _=>rfl) 7 0 100000 _ (ga_false1 w r _ _ D U N t {v:GaV // N≤v.n∧(true = true→Sh1 v.od)} (fun v=>v.1.od) (fun v=>acc++hits nm (es.drop (i+1))) (fun v=>v.1.e) (fun v=>v.1.i) (fun v=>v.1.n) (fun v=>v.1.t) L5 A I C x.P H F0 i e ae 0 (es.map Ent.v) acc x.x v0 x.tk tn tz nm x.k (low x.k) hz) ?_
    refine ⟨⟨allEq_dup _,((next_some (B:=fun _=>True) (e:=e) hvs).weaken (Nat.le_refl _) (Nat.le_refl _) wk3)⟩,fun _=>⟨⟨allEq_dup _,lower_ok MB' hB' (by omega) (.inr (.inr hkey))⟩,fun _=>⟨⟨allEq_dup _,?_⟩,fun _=>⟨⟨allEq_dup _,(IH _ ⟨.inr ⟨_,_,_,rfl⟩,⟨_,_,_,rfl⟩⟩).weaken (Nat.le_refl _) (Nat.le_refl _) wk2⟩,fun v9=>⟨⟨v9.1,v9.2.1,fun _=>v9.2.2 rfl⟩,rfl,?_,rfl,rfl,rfl⟩⟩⟩⟩⟩
    ·have:=eq_ok (w:=w) (r:=r) (g:=g) (d:=d) (os:=os) (D:=D) (U:=U) MB' hB' hD (key_low hkey) hn (tx:=t+2) (ty:=tn) (n:=N+355) (t:=t+3)
     rw [decide_eq_false hit] at this
     exact this
    ·rw [hh]; simp [setO]
end
noncomputable abbrev nameT:List (Str × Value):=[((⟨#[110,97,109,101]⟩:Str),.bool true)]
noncomputable abbrev nameF:List (Str × Value):=[((⟨#[110,97,109,101]⟩:Str),.bool false)]
theorem arg_low {k:Str} (h:Arg k):Let (low k):=by
 rcases h with rfl | rfl | rfl | rfl | rfl | rfl | rfl | rfl <;> simp [low,Let] <;> decide
noncomputable abbrev hdrO (dT:Nat):Obj:=⟨.ref 182,some (dT+355),.plain,#[]⟩
noncomputable abbrev hdrD (h1:Int) (t1:Tok) (H:Nat):Obj:=⟨.type "dict",none,.dict #[⟨h1,(.str (⟨#[95,104,101,97,100,101,114,115]⟩:Str) t1),.ref (H+355)⟩] 1,#[]⟩
section
variable {w:World} {r:Rows} {g:Array GenState} {d:Drawn} {os:OsState} {B:Heap→Prop} {D U:Nat}
theorem bi1 (MB:Mono B) (hB:∀ h,B h→(KF (pr w r)).In h) (hD:Lim D U 50) {c:Code} {rr:Result} {N t:Nat}
  (e:∀ (Cut:CutTy) (F:FT),run (KF (pr w r)) [] ⟨PySem.Challenge.pw_oc0327_01,pr w r⟩ D U Cut (Qp 0 0 F) 100000 (Hs.of [0,0,1,1,1,1,1,1,0,1,0,0,1,1,1,0,0,1,0,1,1,1,0,0,0,0,1,1,0,1,0,0,1] .nil) [] .nil ⟨none,0,0⟩ c (den2 c) ⟨[],N+355,t,[]⟩ = (AllEq (dup [N+355,N+355,N+355,N+355,N+355,N+355,N+355,N+355,N+355,N+355,N+355,N+355,N+355])∧F rr [] (N+356) (t+4) [])) :
  CutOk (XX w r g d os) B D U c none [] [] (N+355) t Unit (fun _=>rr) (fun _=>[]) (fun _=>[]) (fun _=>N+356) (fun _=>t+4) (fun _=>[]) :=
 CutOk.of_runE MB hB hD (fun _ _ hp=>nomatch hp) (fun _=>rfl) 0 0 100000 _ (e _ _) ⟨allEq_dup _,(),rfl,rfl,rfl,rfl,rfl⟩
theorem convT_ok (MB:Mono B) (hB:∀ h,B h→(KF (pr w r)).In h) (hD:Lim D U 50) {k:Str} (hk:k = sa∨Key k) {tk:Tok} {T N t:Nat} :
  CutOk (XX w r g d os) B D U (.call (.ref 83) ⟨[.ref (T+355),.str k tk],nameT⟩) none [] [] (N+355) t Unit (fun _=>.ok (.ret (.str k tk))) (fun _=>[]) (fun _=>[]) (fun _=>N+356) (fun _=>t+4) (fun _=>[]):=by
 rcases hk with rfl | rfl | rfl | rfl | rfl | rfl | rfl <;> exact bi1 MB hB hD fun _ _=>by kernel_rfl
theorem convF_ok (MB:Mono B) (hB:∀ h,B h→(KF (pr w r)).In h) (hD:Lim D U 50) {k:Str} (hk:k = sa∨k = sb∨k = sc) {tk:Tok} {T N t:Nat} :
  CutOk (XX w r g d os) B D U (.call (.ref 83) ⟨[.ref (T+355),.str k tk],nameF⟩) none [] [] (N+355) t Unit (fun _=>.ok (.ret (.str k tk))) (fun _=>[]) (fun _=>[]) (fun _=>N+356) (fun _=>t+4) (fun _=>[]):=by
 rcases hk with rfl | rfl | rfl <;> exact bi1 MB hB hD fun _ _=>by kernel_rfl
structure GaW where
 h:Int
 z:Tok
 v:Value
 e:Nat
 i:Nat
 n:Nat
 t:Nat
structure Pl where
 e:Nat
 n:Nat
 t:Nat
theorem get_all_ok (MB:Mono B) (hB:∀ h,B h→(KF (pr w r)).In h) (hD:Lim D U 60) {es:List Ent} (hes:0 < es.length∧es.length≤1000) (hks:∀ x∈es,Key x.k) (hp:∀ h,B h→PairsIn es h) {k:Str} (hk:Arg k) {tk:Tok} {T dT H e N t:Nat} {h1:Int} {t1:Tok} :
  CutOk (XX w r g d os) B D U (.call (.ref 121) ⟨[.ref (T+355),.str k tk],[]⟩) none [] [(T+355,hdrO dT),(dT+355,hdrD h1 t1 H),(H+355,listO (es.map Ent.v) e)] (N+355) t
   {v:Pl // N≤v.n} (fun _=>.ok (.ret (.ref (N+359)))) (fun v=>[(N+359,listO (hits (low k) es) v.1.e)]) (fun _=>[]) (fun v=>v.1.n+355) (fun v=>v.1.t) (fun _=>[]):=by
 refine CutOk.of_runE MB hB hD.lo (fun _ p hq=>?_) (fun _=>rfl) 2 0 100000 _ (gaf w r _ _ D U N t (Vx:={v:GaW // N+6≤v.n}) (xh:=fun v=>v.1.h) (xz:=fun v=>v.1.z) (xv:=fun v=>v.1.v) (xa:=fun _=>hits (low k) es) (xe:=fun v=>v.1.e) (xi:=fun v=>v.1.i) (xn:=fun v=>v.1.n) (xt:=fun v=>v.1.t) T dT H e h1 t1 tk (es.map Ent.v) k (low k)) ?_
 ·rcases List.mem_singleton.mp hq with rfl
  show N+355≤N+359
  omega
 have MB':=MB.bi [(T+355,hdrO dT),(dT+355,hdrD h1 t1 H),(H+355,listO (es.map Ent.v) e)]
 have hB':∀ h,BI B [(T+355,hdrO dT),(dT+355,hdrD h1 t1 H),(H+355,listO (es.map Ent.v) e)] h→(KF (pr w r)).In h:=fun h b=>hB h b.1
 refine ⟨⟨allEq_dup _,lower_ok MB' hB' (by omega) hk⟩,fun _=>⟨⟨allEq_dup _,convT_ok (N:=N+2) MB' hB' (by omega) ?_⟩,fun _=>⟨⟨allEq_dup _,?_⟩,fun v9=>⟨allEq_dup _,⟨⟨v9.1.e,v9.1.n,v9.1.t⟩,?_⟩,rfl,rfl,rfl,rfl,rfl⟩⟩⟩⟩
 ·rcases hk with rfl | rfl | rfl | rfl | rfl | rfl | rfl | rfl <;> simp [low,Key] <;> decide
 ·have L:=ga_loop (g:=g) (d:=d) (os:=os) (B:=BI B [(T+355,hdrO dT),(dT+355,hdrD h1 t1 H),(H+355,listO (es.map Ent.v) e)]) (D:=D+1) (U:=U+3) MB' hB' (by omega) hks (fun h b=>hp h b.1) (arg_low hk) (tn:=t+1) (L5:=N+5) (A:=N+4) (I:=N+3) (C:=N+1) (H:=H) (F0:=N) (e:=e) es.length 0 (by simp) [] 0 (N+6) (t+7) (kvO [] 0) true (.inl rfl) (fun _=>.inr hes.1) (by simp; omega)
  refine CutOk.weaken (CutOk.map L (fun _ _ hq=>nomatch hq) (fun _=>rfl) (fun v=>?_)) (Nat.le_refl _) (Nat.le_refl _) (fun h b i=>⟨b,fun p hq=>?_⟩)
  ·obtain ⟨⟨od,e',i',n',t'⟩,h1,h2⟩:=v
   obtain ⟨hz,tz,v0,rfl⟩:=h2 rfl
   exact ⟨⟨⟨hz,tz,v0,e',i',n',t'⟩,h1⟩,rfl,rfl,rfl,rfl,rfl,rfl⟩
  ·simp only [List.mem_cons,List.not_mem_nil,or_false] at hq
   rcases hq with rfl | rfl
   ·exact i _ (.head _)
   ·exact b.2 _ (.tail _ (.tail _ (.head _)))
 ·have:=v9.2
  show N≤v9.1.n
  omega
end
noncomputable abbrev dcA (w:World) (r:Rows) (L5 A I C F0:Nat):Code:=(.compLoop (asgE (nthS (fnBody (KF (pr w r)) 102) 1)) 0 (.ref (I+355)) (.ref (A+355)) { scope:=compSc (asgE (nthS (fnBody (KF (pr w r)) 102) 1)),locals:=L5+355,globals:=3,cells:=[((⟨#[110,97,109,101]⟩:Str),C+355)],qual:=(⟨#[72,101,97,100,101,114,115,46,95,95,100,101,108,105,116,101,109,95,95,46,60,108,111,99,97,108,115,62,46]⟩:Str),func:=none,code:=.ref 101,frame:=some (F0+355),builtins:=0 })
theorem di_true0 (w:World) (r:Rows) (Cut:CutTy) (F:FT) (D U N t:Nat) (Vx:Type) (xo:Vx→Obj) (xa:Vx→List Value) (xe xi xn xt:Vx→Nat) (L5 A I C P H F0 i e ae:Nat) (vs acc:List Value) (v v0: Value) (tk tn tz: Tok) (nm k kl:Str) (hz:Int) :
  run (KF (pr w r)) [(C+355,⟨.type "cell",none,.cell (some (.str nm tn)),#[]⟩),(P+355,tupO [(.str k tk),v]),(H+355,listO vs e)] ⟨PySem.Challenge.pw_oc0327_01,pr w r⟩ D U Cut (Qp 7 0 F) 100000 (Hs.of [5,1,5] (.cut 4 0 Unit (fun v0=>.ok (.ret (.ref (P+355)))) (fun v0=>[]) (fun v0=>[iterO (H+355) (i+1)]) (fun v0=>N+355) (fun v0=>t) (fun v0=>[]) fun v0=>(Hs.of [1,1,1,4,4,4,1,4,1,4,1] (.cut 0 0 Unit (fun v1=>.ok (.ret (.str kl (t+2)))) (fun v1=>[]) (fun v1=>[]) (fun v1=>N+355) (fun v1=>t+3) (fun v1=>[]) fun v1=>(Hs.of [2,1] (.cut 0 0 Unit (fun v2=>.ok (.ret (.bool true))) (fun v2=>[]) (fun v2=>[]) (fun v2=>N+355) (fun v2=>t+3) (fun v2=>[]) fun v2=>(Hs.of [1,1,3] (.cut 2 0 Unit (fun v3=>.ok (.ret .none)) (fun v3=>[]) (fun v3=>[listO (acc++[.ref (P+355)]) (ae+1)]) (fun v3=>N+355) (fun v3=>t+3) (fun v3=>[]) fun v3=>(Hs.of [] (.cut 7 0 Vx (fun v9=>.ok .next) (fun v9=>[]) (fun v9=>[xo v9,listO (xa v9) (xe v9),iterE (xi v9)]) (fun v9=>xn v9+355) (fun v9=>xt v9) (fun v9=>[]) fun v9=>.nil)))))))))) [] .nil ⟨none,0,0⟩ (dcA w r L5 A I C F0) (den2 (dcA w r L5 A I C F0)) ⟨[(L5+355,⟨.type "dict",none,.dict ⟨[]⟩ 0,#[]⟩),(A+355,listO acc ae),(I+355,iterO (H+355) i)],N+355,t,[]⟩ =
  ((AllEq (dup [I+355,I+355])∧Cut (D+0) (U+0) (.builtin "list_iterator.__next__" ⟨[(.ref (I+355))],[]⟩) none (A_28 I H i) [] (N+355) t Unit (fun v0=>.ok (.ret (.ref (P+355)))) (fun v0=>[]) (fun v0=>[iterO (H+355) (i+1)]) (fun v0=>N+355) (fun v0=>t) (fun v0=>[]))∧∀ v0:Unit,((AllEq (dup (A_30 P L5))∧Cut (D+0) (U+0) (.builtin "str.lower" ⟨[(.str k tk)],[]⟩) none [] [] (N+355) (t+2) Unit (fun v1=>.ok (.ret (.str kl (t+2)))) (fun v1=>[]) (fun v1=>[]) (fun v1=>N+355) (fun v1=>t+3) (fun v1=>[]))∧∀ v1:Unit,((AllEq (dup [C+355])∧Cut (D+0) (U+0) (.builtin "str.__ne__" ⟨[(.str kl (t+2)),(.str nm tn)],[]⟩) none [] [] (N+355) (t+3) Unit (fun v2=>.ok (.ret (.bool true))) (fun v2=>[]) (fun v2=>[]) (fun v2=>N+355) (fun v2=>t+3) (fun v2=>[]))∧∀ v2:Unit,((AllEq (dup [A+355,L5+355])∧Cut (D+0) (U+0) (.builtin "list.append" ⟨[(.ref (A+355)),(.ref (P+355))],[]⟩) none [((A+355),⟨(.type "list"),none,.seq ⟨acc⟩ ae,⟨[]⟩⟩)] [] (N+355) (t+3) Unit (fun v3=>.ok (.ret .none)) (fun v3=>[]) (fun v3=>[listO (acc++[.ref (P+355)]) (ae+1)]) (fun v3=>N+355) (fun v3=>t+3) (fun v3=>[]))∧∀ v3:Unit,((AllEq (dup [])∧Cut (D+0) (U+0) (dcA w r L5 A I C F0) none [((L5+355),⟨(.type "dict"),none,.dict ⟨[⟨(kh w r ⟨#[107,118]⟩),(.str ⟨#[107,118]⟩ t),(.ref (P+355))⟩]⟩ 1,⟨[]⟩⟩),((A+355),⟨(.type "list"),none,.seq ⟨acc++[(.ref (P+355))]⟩ (ae+1),⟨[]⟩⟩),((I+355),⟨(.type "list_iterator"),none,.fields ⟨[(.ref (H+355)),(.int (↑(i+1)) 0)]⟩,⟨[]⟩⟩)] [] (N+355) (t+3) Vx (fun v9=>.ok .next) (fun v9=>[]) (fun v9=>[xo v9,listO (xa v9) (xe v9),iterE (xi v9)]) (fun v9=>xn v9+355) (fun v9=>xt v9) (fun v9=>[]))∧∀ v9:Vx,F (.ok .next) [((L5+355),(xo v9)),((A+355),⟨(.type "list"),none,.seq ⟨xa v9⟩ (xe v9),⟨[]⟩⟩),((I+355),⟨(.type "list_iterator"),none,.fields ⟨[.none,(.int (↑(xi v9)) 0)]⟩,⟨[]⟩⟩)] (xn v9+355) (xt v9) []))))):=by obtain ⟨r1,r2,r3,r4⟩:=r; cases r2 <;> kernel_rfl
theorem di_true1 (w:World) (r:Rows) (Cut:CutTy) (F:FT) (D U N t:Nat) (Vx:Type) (xo:Vx→Obj) (xa:Vx→List Value) (xe xi xn xt:Vx→Nat) (L5 A I C P H F0 i e ae:Nat) (vs acc:List Value) (v v0: Value) (tk tn tz: Tok) (nm k kl:Str) (hz:Int) :
  run (KF (pr w r)) [(C+355,⟨.type "cell",none,.cell (some (.str nm tn)),#[]⟩),(P+355,tupO [(.str k tk),v]),(H+355,listO vs e)] ⟨PySem.Challenge.pw_oc0327_01,pr w r⟩ D U Cut (Qp 7 0 F) 100000 (Hs.of [5,1,5] (.cut 4 0 Unit (fun v0=>.ok (.ret (.ref (P+355)))) (fun v0=>[]) (fun v0=>[iterO (H+355) (i+1)]) (fun v0=>N+355) (fun v0=>t) (fun v0=>[]) fun v0=>(Hs.of [1,1,1,4,4,4,1,4,1,4,1] (.cut 0 0 Unit (fun v1=>.ok (.ret (.str kl (t+2)))) (fun v1=>[]) (fun v1=>[]) (fun v1=>N+355) (fun v1=>t+3) (fun v1=>[]) fun v1=>(Hs.of [2,1] (.cut 0 0 Unit (fun v2=>.ok (.ret (.bool true))) (fun v2=>[]) (fun v2=>[]) (fun v2=>N+355) (fun v2=>t+3) (fun v2=>[]) fun v2=>(Hs.of [1,1,3] (.cut 2 0 Unit (fun v3=>.ok (.ret .none)) (fun v3=>[]) (fun v3=>[listO (acc++[.ref (P+355)]) (ae+1)]) (fun v3=>N+355) (fun v3=>t+3) (fun v3=>[]) fun v3=>(Hs.of [] (.cut 7 0 Vx (fun v9=>.ok .next) (fun v9=>[]) (fun v9=>[xo v9,listO (xa v9) (xe v9),iterE (xi v9)]) (fun v9=>xn v9+355) (fun v9=>xt v9) (fun v9=>[]) fun v9=>.nil)))))))))) [] .nil ⟨none,0,0⟩ (dcA w r L5 A I C F0) (den2 (dcA w r L5 A I C F0)) ⟨[(L5+355,⟨.type "dict",none,.dict ⟨[⟨hz,(.str (⟨#[107,118]⟩:Str) tz),v0⟩]⟩ 1,#[]⟩),(A+355,listO acc ae),(I+355,iterO (H+355) i)],N+355,t,[]⟩ =
  ((AllEq (dup [I+355,I+355])∧Cut (D+0) (U+0) (.builtin "list_iterator.__next__" ⟨[(.ref (I+355))],[]⟩) none (A_28 I H i) [] (N+355) t Unit (fun v0=>.ok (.ret (.ref (P+355)))) (fun v0=>[]) (fun v0=>[iterO (H+355) (i+1)]) (fun v0=>N+355) (fun v0=>t) (fun v0=>[]))∧∀ v0:Unit,((AllEq (dup (A_30 P L5))∧Cut (D+0) (U+0) (.builtin "str.lower" ⟨[(.str k tk)],[]⟩) none [] [] (N+355) (t+2) Unit (fun v1=>.ok (.ret (.str kl (t+2)))) (fun v1=>[]) (fun v1=>[]) (fun v1=>N+355) (fun v1=>t+3) (fun v1=>[]))∧∀ v1:Unit,((AllEq (dup [C+355])∧Cut (D+0) (U+0) (.builtin "str.__ne__" ⟨[(.str kl (t+2)),(.str nm tn)],[]⟩) none [] [] (N+355) (t+3) Unit (fun v2=>.ok (.ret (.bool true))) (fun v2=>[]) (fun v2=>[]) (fun v2=>N+355) (fun v2=>t+3) (fun v2=>[]))∧∀ v2:Unit,((AllEq (dup [A+355,L5+355])∧Cut (D+0) (U+0) (.builtin "list.append" ⟨[(.ref (A+355)),(.ref (P+355))],[]⟩) none [((A+355),⟨(.type "list"),none,.seq ⟨acc⟩ ae,⟨[]⟩⟩)] [] (N+355) (t+3) Unit (fun v3=>.ok (.ret .none)) (fun v3=>[]) (fun v3=>[listO (acc++[.ref (P+355)]) (ae+1)]) (fun v3=>N+355) (fun v3=>t+3) (fun v3=>[]))∧∀ v3:Unit,((AllEq (dup [])∧Cut (D+0) (U+0) (dcA w r L5 A I C F0) none [((L5+355),⟨(.type "dict"),none,.dict ⟨[⟨hz,(.str ⟨#[107,118]⟩ tz),(.ref (P+355))⟩]⟩ 1,⟨[]⟩⟩),((A+355),⟨(.type "list"),none,.seq ⟨acc++[(.ref (P+355))]⟩ (ae+1),⟨[]⟩⟩),((I+355),⟨(.type "list_iterator"),none,.fields ⟨[(.ref (H+355)),(.int (↑(i+1)) 0)]⟩,⟨[]⟩⟩)] [] (N+355) (t+3) Vx (fun v9=>.ok .next) (fun v9=>[]) (fun v9=>[xo v9,listO (xa v9) (xe v9),iterE (xi v9)]) (fun v9=>xn v9+355) (fun v9=>xt v9) (fun v9=>[]))∧∀ v9:Vx,F (.ok .next) [((L5+355),(xo v9)),((A+355),⟨(.type "list"),none,.seq ⟨xa v9⟩ (xe v9),⟨[]⟩⟩),((I+355),⟨(.type "list_iterator"),none,.fields ⟨[.none,(.int (↑(xi v9)) 0)]⟩,⟨[]⟩⟩)] (xn v9+355) (xt v9) []))))):=by obtain ⟨r1,r2,r3,r4⟩:=r; cases r2 <;> kernel_rfl
theorem di_false0 (w:World) (r:Rows) (Cut:CutTy) (F:FT) (D U N t:Nat) (Vx:Type) (xo:Vx→Obj) (xa:Vx→List Value) (xe xi xn xt:Vx→Nat) (L5 A I C P H F0 i e ae:Nat) (vs acc:List Value) (v v0: Value) (tk tn tz: Tok) (nm k kl:Str) (hz:Int) :
  run (KF (pr w r)) [(C+355,⟨.type "cell",none,.cell (some (.str nm tn)),#[]⟩),(P+355,tupO [(.str k tk),v]),(H+355,listO vs e)] ⟨PySem.Challenge.pw_oc0327_01,pr w r⟩ D U Cut (Qp 7 0 F) 100000 (Hs.of [5,1,5] (.cut 4 0 Unit (fun v0=>.ok (.ret (.ref (P+355)))) (fun v0=>[]) (fun v0=>[iterO (H+355) (i+1)]) (fun v0=>N+355) (fun v0=>t) (fun v0=>[]) fun v0=>(Hs.of [1,1,1,4,4,4,1,4,1,4,1] (.cut 0 0 Unit (fun v1=>.ok (.ret (.str kl (t+2)))) (fun v1=>[]) (fun v1=>[]) (fun v1=>N+355) (fun v1=>t+3) (fun v1=>[]) fun v1=>(Hs.of [2,1] (.cut 0 0 Unit (fun v2=>.ok (.ret (.bool false))) (fun v2=>[]) (fun v2=>[]) (fun v2=>N+355) (fun v2=>t+3) (fun v2=>[]) fun v2=>(Hs.of [] (.cut 7 0 Vx (fun v9=>.ok .next) (fun v9=>[]) (fun v9=>[xo v9,listO (xa v9) (xe v9),iterE (xi v9)]) (fun v9=>xn v9+355) (fun v9=>xt v9) (fun v9=>[]) fun v9=>.nil)))))))) [] .nil ⟨none,0,0⟩ (dcA w r L5 A I C F0) (den2 (dcA w r L5 A I C F0)) ⟨[(L5+355,⟨.type "dict",none,.dict ⟨[]⟩ 0,#[]⟩),(A+355,listO acc ae),(I+355,iterO (H+355) i)],N+355,t,[]⟩ =
  ((AllEq (dup [I+355,I+355])∧Cut (D+0) (U+0) (.builtin "list_iterator.__next__" ⟨[(.ref (I+355))],[]⟩) none (A_28 I H i) [] (N+355) t Unit (fun v0=>.ok (.ret (.ref (P+355)))) (fun v0=>[]) (fun v0=>[iterO (H+355) (i+1)]) (fun v0=>N+355) (fun v0=>t) (fun v0=>[]))∧∀ v0:Unit,((AllEq (dup (A_30 P L5))∧Cut (D+0) (U+0) (.builtin "str.lower" ⟨[(.str k tk)],[]⟩) none [] [] (N+355) (t+2) Unit (fun v1=>.ok (.ret (.str kl (t+2)))) (fun v1=>[]) (fun v1=>[]) (fun v1=>N+355) (fun v1=>t+3) (fun v1=>[]))∧∀ v1:Unit,((AllEq (dup [C+355])∧Cut (D+0) (U+0) (.builtin "str.__ne__" ⟨[(.str kl (t+2)),(.str nm tn)],[]⟩) none [] [] (N+355) (t+3) Unit (fun v2=>.ok (.ret (.bool false))) (fun v2=>[]) (fun v2=>[]) (fun v2=>N+355) (fun v2=>t+3) (fun v2=>[]))∧∀ v2:Unit,((AllEq (dup [])∧Cut (D+0) (U+0) (dcA w r L5 A I C F0) none [((L5+355),⟨(.type "dict"),none,.dict ⟨[⟨(kh w r ⟨#[107,118]⟩),(.str ⟨#[107,118]⟩ t),(.ref (P+355))⟩]⟩ 1,⟨[]⟩⟩),((A+355),⟨(.type "list"),none,.seq ⟨acc⟩ ae,⟨[]⟩⟩),((I+355),⟨(.type "list_iterator"),none,.fields ⟨[(.ref (H+355)),(.int (↑(i+1)) 0)]⟩,⟨[]⟩⟩)] [] (N+355) (t+3) Vx (fun v9=>.ok .next) (fun v9=>[]) (fun v9=>[xo v9,listO (xa v9) (xe v9),iterE (xi v9)]) (fun v9=>xn v9+355) (fun v9=>xt v9) (fun v9=>[]))∧∀ v9:Vx,F (.ok .next) [((L5+355),(xo v9)),((A+355),⟨(.type "list"),none,.seq ⟨xa v9⟩ (xe v9),⟨[]⟩⟩),((I+355),⟨(.type "list_iterator"),none,.fields ⟨[.none,(.int (↑(xi v9)) 0)]⟩,⟨[]⟩⟩)] (xn v9+355) (xt v9) [])))):=by obtain ⟨r1,r2,r3,r4⟩:=r; cases r2 <;> kernel_rfl
theorem di_false1 (w:World) (r:Rows) (Cut:CutTy) (F:FT) (D U N t:Nat) (Vx:Type) (xo:Vx→Obj) (xa:Vx→List Value) (xe xi xn xt:Vx→Nat) (L5 A I C P H F0 i e ae:Nat) (vs acc:List Value) (v v0: Value) (tk tn tz: Tok) (nm k kl:Str) (hz:Int) :
  run (KF (pr w r)) [(C+355,⟨.type "cell",none,.cell (some (.str nm tn)),#[]⟩),(P+355,tupO [(.str k tk),v]),(H+355,listO vs e)] ⟨PySem.Challenge.pw_oc0327_01,pr w r⟩ D U Cut (Qp 7 0 F) 100000 (Hs.of [5,1,5] (.cut 4 0 Unit (fun v0=>.ok (.ret (.ref (P+355)))) (fun v0=>[]) (fun v0=>[iterO (H+355) (i+1)]) (fun v0=>N+355) (fun v0=>t) (fun v0=>[]) fun v0=>(Hs.of [1,1,1,4,4,4,1,4,1,4,1] (.cut 0 0 Unit (fun v1=>.ok (.ret (.str kl (t+2)))) (fun v1=>[]) (fun v1=>[]) (fun v1=>N+355) (fun v1=>t+3) (fun v1=>[]) fun v1=>(Hs.of [2,1] (.cut 0 0 Unit (fun v2=>.ok (.ret (.bool false))) (fun v2=>[]) (fun v2=>[]) (fun v2=>N+355) (fun v2=>t+3) (fun v2=>[]) fun v2=>(Hs.of [] (.cut 7 0 Vx (fun v9=>.ok .next) (fun v9=>[]) (fun v9=>[xo v9,listO (xa v9) (xe v9),iterE (xi v9)]) (fun v9=>xn v9+355) (fun v9=>xt v9) (fun v9=>[]) fun v9=>.nil)))))))) [] .nil ⟨none,0,0⟩ (dcA w r L5 A I C F0) (den2 (dcA w r L5 A I C F0)) ⟨[(L5+355,⟨.type "dict",none,.dict ⟨[⟨hz,(.str (⟨#[107,118]⟩:Str) tz),v0⟩]⟩ 1,#[]⟩),(A+355,listO acc ae),(I+355,iterO (H+355) i)],N+355,t,[]⟩ =
  ((AllEq (dup [I+355,I+355])∧Cut (D+0) (U+0) (.builtin "list_iterator.__next__" ⟨[(.ref (I+355))],[]⟩) none (A_28 I H i) [] (N+355) t Unit (fun v0=>.ok (.ret (.ref (P+355)))) (fun v0=>[]) (fun v0=>[iterO (H+355) (i+1)]) (fun v0=>N+355) (fun v0=>t) (fun v0=>[]))∧∀ v0:Unit,((AllEq (dup (A_30 P L5))∧Cut (D+0) (U+0) (.builtin "str.lower" ⟨[(.str k tk)],[]⟩) none [] [] (N+355) (t+2) Unit (fun v1=>.ok (.ret (.str kl (t+2)))) (fun v1=>[]) (fun v1=>[]) (fun v1=>N+355) (fun v1=>t+3) (fun v1=>[]))∧∀ v1:Unit,((AllEq (dup [C+355])∧Cut (D+0) (U+0) (.builtin "str.__ne__" ⟨[(.str kl (t+2)),(.str nm tn)],[]⟩) none [] [] (N+355) (t+3) Unit (fun v2=>.ok (.ret (.bool false))) (fun v2=>[]) (fun v2=>[]) (fun v2=>N+355) (fun v2=>t+3) (fun v2=>[]))∧∀ v2:Unit,((AllEq (dup [])∧Cut (D+0) (U+0) (dcA w r L5 A I C F0) none [((L5+355),⟨(.type "dict"),none,.dict ⟨[⟨hz,(.str ⟨#[107,118]⟩ tz),(.ref (P+355))⟩]⟩ 1,⟨[]⟩⟩),((A+355),⟨(.type "list"),none,.seq ⟨acc⟩ ae,⟨[]⟩⟩),((I+355),⟨(.type "list_iterator"),none,.fields ⟨[(.ref (H+355)),(.int (↑(i+1)) 0)]⟩,⟨[]⟩⟩)] [] (N+355) (t+3) Vx (fun v9=>.ok .next) (fun v9=>[]) (fun v9=>[xo v9,listO (xa v9) (xe v9),iterE (xi v9)]) (fun v9=>xn v9+355) (fun v9=>xt v9) (fun v9=>[]))∧∀ v9:Vx,F (.ok .next) [((L5+355),(xo v9)),((A+355),⟨(.type "list"),none,.seq ⟨xa v9⟩ (xe v9),⟨[]⟩⟩),((I+355),⟨(.type "list_iterator"),none,.fields ⟨[.none,(.int (↑(xi v9)) 0)]⟩,⟨[]⟩⟩)] (xn v9+355) (xt v9) [])))):=by obtain ⟨r1,r2,r3,r4⟩:=r; cases r2 <;> kernel_rfl
theorem di_end (w:World) (r:Rows) (Cut:CutTy) (F:FT) (D U N t:Nat) (L5 A I C H F0 i e ae:Nat) (vs acc:List Value) (tn:Tok) (nm:Str) (od:Obj) :
  run (KF (pr w r)) [(C+355,⟨.type "cell",none,.cell (some (.str nm tn)),#[]⟩),(H+355,listO vs e)] ⟨PySem.Challenge.pw_oc0327_01,pr w r⟩ D U Cut (Qp 28 0 F) 100000 (Hs.of [5,1,5] (.cut 4 0 Unit (fun v0=>.error (.ref (N+356))) (fun v0=>[(N+356,stopO (N+355)),(N+355,tupO [])]) (fun v0=>[iterE i]) (fun v0=>N+357) (fun v0=>t) (fun v0=>[]) fun v0=>(Hs.of [1] .nil))) [] .nil ⟨none,0,0⟩ (dcA w r L5 A I C F0) (den2 (dcA w r L5 A I C F0)) ⟨[(L5+355,od),(A+355,listO acc ae),(I+355,iterO (H+355) i)],N+355,t,[]⟩ =
  ((AllEq (dup [I+355,I+355])∧Cut (D+0) (U+0) (.builtin "list_iterator.__next__" ⟨[(.ref (I+355))],[]⟩) none (A_28 I H i) [] (N+355) t Unit (fun v0=>.error (.ref (N+356))) (fun v0=>[(N+356,stopO (N+355)),(N+355,tupO [])]) (fun v0=>[iterE i]) (fun v0=>N+357) (fun v0=>t) (fun v0=>[]))∧∀ v0:Unit,(AllEq (dup [N+356])∧F (.ok .next) [((L5+355),od),((A+355),⟨(.type "list"),none,.seq ⟨acc⟩ ae,⟨[]⟩⟩),((I+355),⟨(.type "list_iterator"),none,.fields ⟨[.none,(.int (↑i) 0)]⟩,⟨[]⟩⟩)] (N+357) t [])):=by kernel_rfl
noncomputable def keepE (nm:Str) (es:List Ent):List Ent:=es.filter fun e=>decide (low e.k≠nm)
noncomputable def keeps (nm:Str) (es:List Ent):List Value:=(keepE nm es).map Ent.v
section
variable {w:World} {r:Rows} {g:Array GenState} {d:Drawn} {os:OsState} {B:Heap→Prop} {D U:Nat}
theorem ne_ok (MB:Mono B) (hB:∀ h,B h→(KF (pr w r)).In h) (hD:Lim D U 50) {x y:Str} (hx:x = sb∨x = sc∨x = sd) (hy:Let y) {tx ty:Tok} {n t:Nat} :
  CutOk (XX w r g d os) B D U (.builtin "str.__ne__" ⟨[.str x tx,.str y ty],[]⟩) none [] [] n t Unit (fun _=>.ok (.ret (.bool (decide (x≠y))))) (fun _=>[]) (fun _=>[]) (fun _=>n) (fun _=>t) (fun _=>[]):=by
 rcases hx with rfl | rfl | rfl <;> rcases hy with rfl | rfl | rfl | rfl <;> exact bi0 MB hB hD fun _ _=>by kernel_rfl
end
noncomputable abbrev diE (w:World) (r:Rows):Expr:=asgE (nthS (fnBody (KF (pr w r)) 102) 1)
noncomputable abbrev diCode (w:World) (r:Rows) (L5 A I C F0:Nat):Code :=
 .compLoop (diE w r) 0 (.ref (I+355)) (.ref (A+355)) { scope:=compSc (diE w r),locals:=L5+355,globals:=3,cells:=[((⟨#[110,97,109,101]⟩:Str),C+355)],qual:=(⟨#[72,101,97,100,101,114,115,46,95,95,100,101,108,105,116,101,109,95,95,46,60,108,111,99,97,108,115,62,46]⟩:Str),func:=none,code:=.ref 101,frame:=some (F0+355),builtins:=0 }
section
variable {w:World} {r:Rows} {g:Array GenState} {d:Drawn} {os:OsState} {B:Heap→Prop} {D U:Nat}
theorem di_loop (MB:Mono B) (hB:∀ h,B h→(KF (pr w r)).In h) (hD:Lim D U 50) {es:List Ent} (hks:∀ x∈es,Key x.k) (hp:∀ h,B h→PairsIn es h) {nm:Str} (hn:Let nm) {tn:Tok} {L5 A I C H F0 e:Nat} :
  ∀ (m i:Nat),es.length = i + m→∀ (acc:List Value) (ae N t:Nat) (od:Obj) (b:Bool),KvShape od→(b = true→Sh1 od∨0 < m)→acc.length + m≤1000 →
  CutOk (XX w r g d os) B D U (diCode w r L5 A I C F0) none [(L5+355,od),(A+355,listO acc ae),(I+355,iterO (H+355) i)] [(C+355,cellO (.str nm tn)),(H+355,listO (es.map Ent.v) e)] (N+355) t
   {v:GaV // N≤v.n∧(b = true→Sh1 v.od)} (fun _=>.ok .next) (fun _=>[]) (fun v=>[v.1.od,listO (acc++keeps nm (es.drop i)) v.1.e,iterE v.1.i]) (fun v=>v.1.n+355) (fun v=>v.1.t) (fun _=>[]):=by
 intro m
 induction m with
 | zero =>
  intro i hi acc ae N t od b hod hb ha
  refine CutOk.of_runE MB hB hD (fun _ _ hq=>nomatch hq) (fun _=>rfl) 28 0 100000 _ (di_end w r _ _ D U N t L5 A I C H F0 i e ae (es.map Ent.v) acc tn nm od) ?_
  refine ⟨⟨allEq_dup _,(next_none (n:=N+355) (vs:=es.map Ent.v) (e:=e) (by simp; omega)).weaken (Nat.le_refl _) (Nat.le_refl _) fun h b _=>⟨b.1,fun p hp'=>?_⟩⟩,fun _=>⟨allEq_dup _,⟨⟨od,ae,i,N+2,t⟩,by simp,fun q=>(hb q).elim id (fun z=>absurd z (Nat.lt_irrefl 0))⟩,rfl,?_,by show N+357 = N+2 + 355; omega,rfl,rfl⟩⟩
  ·rcases List.mem_singleton.mp hp' with rfl
   exact b.2 _ (.tail _ (.head _))
  ·rw [List.drop_of_length_le (by omega)]
   simp [keeps,keepE,setO]
 | succ m ih =>
  intro i hi acc ae N t od b hod hb ha
  have hlt:i < es.length:=by omega
  obtain ⟨x,hx⟩:∃ x,es[i]? = some x:=⟨_,List.getElem?_eq_getElem hlt⟩
  have hxm:x∈es:=List.mem_of_getElem? hx
  have hvs:(es.map Ent.v)[i]? = some (.ref (x.P+355)):=by rw [List.getElem?_map,hx]; rfl
  have hdr:es.drop i = x :: es.drop (i+1):=by
   rw [List.drop_eq_getElem_cons hlt]
   have:=List.getElem?_eq_getElem hlt
   rw [hx] at this
   rw [← Option.some.inj this]
  have hkey:Key x.k:=hks x hxm
  have wk:∀ h,B h→ImIn [(C+355,cellO (.str nm tn)),(H+355,listO (es.map Ent.v) e)] h→B h∧ImIn [(C+355,cellO (.str nm tn)),(x.P+355,tupO [.str x.k x.tk,x.x]),(H+355,listO (es.map Ent.v) e)] h:=by
   intro h b im
   refine ⟨b,fun p hp'=>?_⟩
   simp only [List.mem_cons,List.not_mem_nil,or_false] at hp'
   rcases hp' with rfl | rfl | rfl
   ·exact im _ (.head _)
   ·exact hp h b x hxm
   ·exact im _ (.tail _ (.head _))
  refine CutOk.weaken (im':=[(C+355,cellO (.str nm tn)),(x.P+355,tupO [.str x.k x.tk,x.x]),(H+355,listO (es.map Ent.v) e)]) (B':=B) ?_ (Nat.le_refl _) (Nat.le_refl _) wk
  have MB':=MB.bi [(C+355,cellO (.str nm tn)),(x.P+355,tupO [.str x.k x.tk,x.x]),(H+355,listO (es.map Ent.v) e)]
  have hB':∀ h,BI B [(C+355,cellO (.str nm tn)),(x.P+355,tupO [.str x.k x.tk,x.x]),(H+355,listO (es.map Ent.v) e)] h→(KF (pr w r)).In h:=fun h b=>hB h b.1
  have wk2:∀ h,BI B [(C+355,cellO (.str nm tn)),(x.P+355,tupO [.str x.k x.tk,x.x]),(H+355,listO (es.map Ent.v) e)] h→ImIn [] h→B h∧ImIn [(C+355,cellO (.str nm tn)),(H+355,listO (es.map Ent.v) e)] h:=by
   intro h b _
   refine ⟨b.1,fun p hp'=>?_⟩
   simp only [List.mem_cons,List.not_mem_nil,or_false] at hp'
   rcases hp' with rfl | rfl
   ·exact b.2 _ (.head _)
   ·exact b.2 _ (.tail _ (.tail _ (.head _)))
  have wk3:∀ h,BI B [(C+355,cellO (.str nm tn)),(x.P+355,tupO [.str x.k x.tk,x.x]),(H+355,listO (es.map Ent.v) e)] h→ImIn [] h→True∧ImIn [(H+355,listO (es.map Ent.v) e)] h:=by
   intro h b _
   refine ⟨trivial,fun p hp'=>?_⟩
   rcases List.mem_singleton.mp hp' with rfl
   exact b.2 _ (.tail _ (.tail _ (.head _)))
  by_cases hit:low x.k≠nm
  ·have hh:keeps nm (es.drop i) = x.v :: keeps nm (es.drop (i+1)):=by rw [hdr]; simp [keeps,keepE,hit]
   rcases hod with rfl | ⟨hz,tz,v0,rfl⟩
   ·have IH:=fun (o:Obj) (ho:KvShape o∧Sh1 o) => ih (i+1) (by omega) (acc++[x.v]) (ae+1) N (t+3) o true ho.1 (fun _=>.inl ho.2) (by simp; omega)
    refine CutOk.of_runE MB hB hD (fun _ _ hq=>nomatch hq) (fun _=>rfl) 7 0 100000 _ (di_true0 w r _ _ D U N t {v:GaV // N≤v.n∧(true = true→Sh1 v.od)} (fun v=>v.1.od) (fun v=>(acc++[x.v])++keeps nm (es.drop (i+1))) (fun v=>v.1.e) (fun v=>v.1.i) (fun v=>v.1.n) (fun v=>v.1.t) L5 A I C x.P H F0 i e ae (es.map Ent.v) acc x.x .none x.tk tn 0 nm x.k (low x.k) 0) ?_
    refine ⟨⟨allEq_dup _,((next_some (B:=fun _=>True) (e:=e) hvs).weaken (Nat.le_refl _) (Nat.le_refl _) wk3)⟩,fun _=>⟨⟨allEq_dup _,lower_ok MB' hB' (by omega) (.inr (.inr hkey))⟩,fun _=>⟨⟨allEq_dup _,?_⟩,fun _=>⟨⟨allEq_dup _,append_ok (by omega)⟩,fun _=>⟨⟨allEq_dup _,(IH _ ⟨.inr ⟨_,_,_,rfl⟩,⟨_,_,_,rfl⟩⟩).weaken (Nat.le_refl _) (Nat.le_refl _) wk2⟩,fun v9=>⟨⟨v9.1,v9.2.1,fun _=>v9.2.2 rfl⟩,rfl,?_,rfl,rfl,rfl⟩⟩⟩⟩⟩⟩
    ·have:=ne_ok (w:=w) (r:=r) (g:=g) (d:=d) (os:=os) (D:=D) (U:=U) MB' hB' hD (key_low hkey) hn (tx:=t+2) (ty:=tn) (n:=N+355) (t:=t+3)
     rw [decide_eq_true hit] at this
     exact this
    ·rw [hh]; simp [setO]
   ·have IH:=fun (o:Obj) (ho:KvShape o∧Sh1 o) => ih (i+1) (by omega) (acc++[x.v]) (ae+1) N (t+3) o true ho.1 (fun _=>.inl ho.2) (by simp; omega)
    refine CutOk.of_runE MB hB hD (fun _ _ hq=>nomatch hq) (fun _=>rfl) 7 0 100000 _ (di_true1 w r _ _ D U N t {v:GaV // N≤v.n∧(true = true→Sh1 v.od)} (fun v=>v.1.od) (fun v=>(acc++[x.v])++keeps nm (es.drop (i+1))) (fun v=>v.1.e) (fun v=>v.1.i) (fun v=>v.1.n) (fun v=>v.1.t) L5 A I C x.P H F0 i e ae (es.map Ent.v) acc x.x v0 x.tk tn tz nm x.k (low x.k) hz) ?_
    refine ⟨⟨allEq_dup _,((next_some (B:=fun _=>True) (e:=e) hvs).weaken (Nat.le_refl _) (Nat.le_refl _) wk3)⟩,fun _=>⟨⟨allEq_dup _,lower_ok MB' hB' (by omega) (.inr (.inr hkey))⟩,fun _=>⟨⟨allEq_dup _,?_⟩,fun _=>⟨⟨allEq_dup _,append_ok (by omega)⟩,fun _=>⟨⟨allEq_dup _,(IH _ ⟨.inr ⟨_,_,_,rfl⟩,⟨_,_,_,rfl⟩⟩).weaken (Nat.le_refl _) (Nat.le_refl _) wk2⟩,fun v9=>⟨⟨v9.1,v9.2.1,fun _=>v9.2.2 rfl⟩,rfl,?_,rfl,rfl,rfl⟩⟩⟩⟩⟩⟩
    ·have:=ne_ok (w:=w) (r:=r) (g:=g) (d:=d) (os:=os) (D:=D) (U:=U) MB' hB' hD (key_low hkey) hn (tx:=t+2) (ty:=tn) (n:=N+355) (t:=t+3)
     rw [decide_eq_true hit] at this
     exact this
    ·rw [hh]; simp [setO]
  ·have hh:keeps nm (es.drop i) = keeps nm (es.drop (i+1)):=by rw [hdr]; simp [keeps,keepE,Classical.not_not.mp hit]
   rcases hod with rfl | ⟨hz,tz,v0,rfl⟩
   ·have IH:=fun (o:Obj) (ho:KvShape o∧Sh1 o) => ih (i+1) (by omega) acc ae N (t+3) o true ho.1 (fun _=>.inl ho.2) (by omega)
    refine CutOk.of_runE MB hB hD (fun _ _ hq=>nomatch hq) (fun _=>rfl) 7 0 100000 _ (di_false0 w r _ _ D U N t {v:GaV // N≤v.n∧(true = true→Sh1 v.od)} (fun v=>v.1.od) (fun v=>acc++keeps nm (es.drop (i+1))) (fun v=>v.1.e) (fun v=>v.1.i) (fun v=>v.1.n) (fun v=>v.1.t) L5 A I C x.P H F0 i e ae (es.map Ent.v) acc x.x .none x.tk tn 0 nm x.k (low x.k) 0) ?_
    refine ⟨⟨allEq_dup _,((next_some (B:=fun _=>True) (e:=e) hvs).weaken (Nat.le_refl _) (Nat.le_refl _) wk3)⟩,fun _=>⟨⟨allEq_dup _,lower_ok MB' hB' (by omega) (.inr (.inr hkey))⟩,fun _=>⟨⟨allEq_dup _,?_⟩,fun _=>⟨⟨allEq_dup _,(IH _ ⟨.inr ⟨_,_,_,rfl⟩,⟨_,_,_,rfl⟩⟩).weaken (Nat.le_refl _) (Nat.le_refl _) wk2⟩,fun v9=>⟨⟨v9.1,v9.2.1,fun _=>v9.2.2 rfl⟩,rfl,?_,rfl,rfl,rfl⟩⟩⟩⟩⟩
    ·have:=ne_ok (w:=w) (r:=r) (g:=g) (d:=d) (os:=os) (D:=D) (U:=U) MB' hB' hD (key_low hkey) hn (tx:=t+2) (ty:=tn) (n:=N+355) (t:=t+3)
     rw [decide_eq_false hit] at this
     exact this
    ·rw [hh]; simp [setO]
   ·have IH:=fun (o:Obj) (ho:KvShape o∧Sh1 o) => ih (i+1) (by omega) acc ae N (t+3) o true ho.1 (fun _=>.inl ho.2) (by omega)
    refine CutOk.of_runE MB hB hD (fun _ _ hq=>nomatch hq) (fun _=>rfl) 7 0 100000 _ (di_false1 w r _ _ D U N t {v:GaV // N≤v.n∧(true = true→Sh1 v.od)} (fun v=>v.1.od) (fun v=>acc++keeps nm (es.drop (i+1))) (fun v=>v.1.e) (fun v=>v.1.i) (fun v=>v.1.n) (fun v=>v.1.t) L5 A I C x.P H F0 i e ae (es.map Ent.v) acc x.x v0 x.tk tn tz nm x.k (low x.k) hz) ?_
    refine ⟨⟨allEq_dup _,((next_some (B:=fun _=>True) (e:=e) hvs).weaken (Nat.le_refl _) (Nat.le_refl _) wk3)⟩,fun _=>⟨⟨allEq_dup _,lower_ok MB' hB' (by omega) (.inr (.inr hkey))⟩,fun _=>⟨⟨allEq_dup _,?_⟩,fun _=>⟨⟨allEq_dup _,(IH _ ⟨.inr ⟨_,_,_,rfl⟩,⟨_,_,_,rfl⟩⟩).weaken (Nat.le_refl _) (Nat.le_refl _) wk2⟩,fun v9=>⟨⟨v9.1,v9.2.1,fun _=>v9.2.2 rfl⟩,rfl,?_,rfl,rfl,rfl⟩⟩⟩⟩⟩
    ·have:=ne_ok (w:=w) (r:=r) (g:=g) (d:=d) (os:=os) (D:=D) (U:=U) MB' hB' hD (key_low hkey) hn (tx:=t+2) (ty:=tn) (n:=N+355) (t:=t+3)
     rw [decide_eq_false hit] at this
     exact this
    ·rw [hh]; simp [setO]
end
noncomputable abbrev A_31 (T dT:Nat) (h1:Int) (t1:Tok) (H:Nat):List (Addr × Obj):=[(T+355,⟨.ref 182,some (dT+355),.plain,#[]⟩),(dT+355,⟨.type "dict",none,.dict #[⟨h1,(.str (⟨#[95,104,101,97,100,101,114,115]⟩:Str) t1),.ref (H+355)⟩] 1,#[]⟩)]
theorem dif (w:World) (r:Rows) (Cut:CutTy) (F:FT) (D U N t:Nat) (Vx:Type) (xh:Vx→Int) (xz:Vx→Tok) (xv:Vx→Value) (xa:Vx→List Value) (xe xi xn xt:Vx→Nat) (T dT H e:Nat) (h1:Int) (t1 tx:Tok) (vs:List Value) (k nm:Str) (xq:Nat) :
  run (KF (pr w r)) (A_31 T dT h1 t1 H) ⟨PySem.Challenge.pw_oc0327_01,pr w r⟩ D U Cut (Qp 64 0 F) 100000 (Hs.of [0,0,3,3,1,1,0,1,3,2,0,0,0,2,0,0,0,2,0,0,0,0,2,4,1,1] (.cut 0 0 Unit (fun v0=>.ok (.ret (.str nm (t+1)))) (fun v0=>[]) (fun v0=>[]) (fun v0=>N+357) (fun v0=>t+2) (fun v0=>[]) fun v0=>(Hs.of [0] (.cut 0 0 Unit (fun v1=>.ok (.ret (.str nm (t+1)))) (fun v1=>[]) (fun v1=>[]) (fun v1=>N+358) (fun v1=>t+6) (fun v1=>[]) fun v1=>(Hs.of (cond r.a [1,1,3,2,0,0,0,1,2,0,0,0,2,2,0,4,5,5,1,5,1,1,1] [1,1,3,2,0,0,0,1,2,0,0,0,2,2,0,4,5,5,1,5,1,1,1,5,5,1,5,1,5]) (.cut 7 40 Vx (fun v9=>.ok .next) (fun v9=>[]) (fun v9=>[⟨.type "dict",none,.dict ⟨[⟨xh v9,(.str (⟨#[107,118]⟩:Str) (xz v9)),xv v9⟩]⟩ 1,#[]⟩,listO (xa v9) (xe v9),iterE (xi v9)]) (fun v9=>xn v9+355) (fun v9=>xt v9) (fun v9=>[]) fun v9=>(Hs.of [1,1,1,9,2,0,0,0,1,2,0,0,0,2,2,0,4,13,13,1,13] (.cut 64 5 Unit (fun v3=>.ok (.ret .none)) (fun v3=>[]) (fun v3=>[listO (xa v9) xq]) (fun v3=>xn v9+356) (fun v3=>xt v9+1) (fun v3=>[]) fun v3=>(Hs.of [] .nil))))))))) [] .nil ⟨none,0,0⟩ (.call (.ref 102) ⟨[.ref (T+355),.str k tx],[]⟩) (den2 (.call (.ref 102) ⟨[.ref (T+355),.str k tx],[]⟩)) ⟨[(H+355,listO vs e)],N+355,t,[]⟩ =
  ((AllEq (dup [N+356,dT+355,T+355,T+355,T+355,T+355,N+355,N+356,N+356,N+355,N+355])∧Cut (D+1) (U+3) (.builtin "str.lower" ⟨[(.str k tx)],[]⟩) none [] [] (N+357) (t+1) Unit (fun v0=>.ok (.ret (.str nm (t+1)))) (fun v0=>[]) (fun v0=>[]) (fun v0=>N+357) (fun v0=>t+2) (fun v0=>[]))∧∀ v0:Unit,((AllEq (dup [])∧Cut (D+1) (U+3) (.call (.ref 83) ⟨[(.ref (T+355)),(.str nm (t+1))],[(⟨#[110,97,109,101]⟩,(.bool true))]⟩) none [] [] (N+357) (t+2) Unit (fun v1=>.ok (.ret (.str nm (t+1)))) (fun v1=>[]) (fun v1=>[]) (fun v1=>N+358) (fun v1=>t+6) (fun v1=>[]))∧∀ v1:Unit,((AllEq (dup (cond r.a [N+358,H+355,H+355,H+355,dT+355,T+355,T+355,T+355,T+355,N+355,N+356,N+356] [N+358,N+358,N+358,N+358,N+358,H+355,H+355,H+355,dT+355,T+355,T+355,T+355,T+355,N+355,N+356,N+356]))∧Cut (D+1) (U+3) (.compLoop (asgE (nthS (fnBody (KF (pr w r)) 102) 1)) 0 (.ref (N+358)) (.ref (N+359)) { scope:=compSc (asgE (nthS (fnBody (KF (pr w r)) 102) 1)),locals:=N+360,globals:=3,cells:=[((⟨#[110,97,109,101]⟩:Str),N+356)],qual:=(⟨#[72,101,97,100,101,114,115,46,95,95,100,101,108,105,116,101,109,95,95,46,60,108,111,99,97,108,115,62,46]⟩:Str),func:=none,code:=.ref 101,frame:=some (N+355),builtins:=0 }) none [((N+360),⟨(.type "dict"),none,.dict ⟨[]⟩ 0,⟨[]⟩⟩),((N+359),⟨(.type "list"),none,.seq ⟨[]⟩ 0,⟨[]⟩⟩),((N+358),⟨(.type "list_iterator"),none,.fields ⟨[(.ref (H+355)),(.int 0 0)]⟩,⟨[]⟩⟩)] [((N+356),⟨(.type "cell"),none,.cell (some (.str nm (t+1))),⟨[]⟩⟩),((H+355),⟨(.type "list"),none,.seq ⟨vs⟩ e,⟨[]⟩⟩)] (N+361) (t+7) Vx (fun v9=>.ok .next) (fun v9=>[]) (fun v9=>[⟨.type "dict",none,.dict ⟨[⟨xh v9,(.str (⟨#[107,118]⟩:Str) (xz v9)),xv v9⟩]⟩ 1,#[]⟩,listO (xa v9) (xe v9),iterE (xi v9)]) (fun v9=>xn v9+355) (fun v9=>xt v9) (fun v9=>[]))∧∀ v9:Vx,((AllEq (dup [H+355,H+355,H+355,dT+355,T+355,T+355,T+355,T+355,N+355,N+360,N+360,N+360])∧Cut (D+1) (U+3) (.builtin "list.__setitem__" ⟨[(.ref (H+355)),(.ref ((xn v9)+355)),(.ref (N+359))],[]⟩) none [((H+355),⟨(.type "list"),none,.seq ⟨vs⟩ e,⟨[]⟩⟩)] [(((xn v9)+355),⟨(.type "slice"),none,.fields ⟨[.none,.none,.none]⟩,⟨[]⟩⟩),((N+359),⟨(.type "list"),none,.seq ⟨xa v9⟩ (xe v9),⟨[]⟩⟩)] ((xn v9)+356) ((xt v9)+1) Unit (fun v3=>.ok (.ret .none)) (fun v3=>[]) (fun v3=>[listO (xa v9) xq]) (fun v3=>xn v9+356) (fun v3=>xt v9+1) (fun v3=>[]))∧∀ v3:Unit,(AllEq (dup [])∧F (.ok (.ret .none)) [((H+355),⟨(.type "list"),none,.seq ⟨xa v9⟩ xq,⟨[]⟩⟩)] ((xn v9)+356) ((xt v9)+1) []))))):=by obtain ⟨r1,r2,r3,r4⟩:=r; cases r1 <;> cases r2 <;> kernel_rfl
section
variable {w:World} {r:Rows} {g:Array GenState} {d:Drawn} {os:OsState} {B:Heap→Prop} {D U:Nat}
theorem delitem_ok (MB:Mono B) (hB:∀ h,B h→(KF (pr w r)).In h) (hD:Lim D U 60) {es:List Ent} (hes:0 < es.length∧es.length≤1000) (hks:∀ x∈es,Key x.k) (hp:∀ h,B h→PairsIn es h) {k:Str} (hk:Arg k) {tk:Tok} {T dT H e N t:Nat} {h1:Int} {t1:Tok} (hH:H < N) :
  CutOk (XX w r g d os) B D U (.call (.ref 102) ⟨[.ref (T+355),.str k tk],[]⟩) none [(H+355,listO (es.map Ent.v) e)] [(T+355,hdrO dT),(dT+355,hdrD h1 t1 H)] (N+355) t
   {v:Pl // N≤v.n} (fun _=>.ok (.ret .none)) (fun _=>[]) (fun v=>[listO ((keepE (low k) es).map Ent.v) v.1.e]) (fun v=>v.1.n+355) (fun v=>v.1.t) (fun _=>[]):=by
 refine CutOk.of_runE MB hB hD.lo (fun _ p hq=>nomatch hq) (fun _=>rfl) 64 0 100000 _ (dif w r _ _ D U N t (Vx:={v:GaW // N+6≤v.n}) (xh:=fun v=>v.1.h) (xz:=fun v=>v.1.z) (xv:=fun v=>v.1.v) (xa:=fun _=>keeps (low k) es) (xe:=fun v=>v.1.e) (xi:=fun v=>v.1.i) (xn:=fun v=>v.1.n) (xt:=fun v=>v.1.t) T dT H e h1 t1 tk (es.map Ent.v) k (low k) (if (keeps (low k) es).length == (es.map Ent.v).length then e else e+1)) ?_
 have MB':=MB.bi [(T+355,hdrO dT),(dT+355,hdrD h1 t1 H)]
 have hB':∀ h,BI B [(T+355,hdrO dT),(dT+355,hdrD h1 t1 H)] h→(KF (pr w r)).In h:=fun h b=>hB h b.1
 have hkl:(keeps (low k) es).length≤es.length:=by
  simp only [keeps,keepE,List.length_map]
  exact List.length_filter_le _ _
 refine ⟨⟨allEq_dup _,lower_ok MB' hB' (by omega) hk⟩,fun _=>⟨⟨allEq_dup _,convT_ok (N:=N+2) MB' hB' (by omega) ?_⟩,fun _=>⟨⟨allEq_dup _,?_⟩,fun v9=>⟨⟨allEq_dup _,?_⟩,fun _=>⟨allEq_dup _,⟨⟨_,v9.1.n+1,v9.1.t+1⟩,?_⟩,rfl,rfl,?_,rfl,rfl⟩⟩⟩⟩⟩
 ·rcases hk with rfl | rfl | rfl | rfl | rfl | rfl | rfl | rfl <;> simp [low,Key] <;> decide
 ·have L:=di_loop (g:=g) (d:=d) (os:=os) (B:=BI B [(T+355,hdrO dT),(dT+355,hdrD h1 t1 H)]) (D:=D+1) (U:=U+3) MB' hB' (by omega) hks (fun h b=>hp h b.1) (arg_low hk) (tn:=t+1) (L5:=N+5) (A:=N+4) (I:=N+3) (C:=N+1) (H:=H) (F0:=N) (e:=e) es.length 0 (by simp) [] 0 (N+6) (t+7) (kvO [] 0) true (.inl rfl) (fun _=>.inr hes.1) (by simp; omega)
  refine CutOk.map L (fun _ _ hq=>nomatch hq) (fun _=>rfl) (fun v=>?_)
  obtain ⟨⟨od,e',i',n',t'⟩,h1,h2⟩:=v
  obtain ⟨hz,tz,v0,rfl⟩:=h2 rfl
  exact ⟨⟨⟨hz,tz,v0,e',i',n',t'⟩,h1⟩,rfl,rfl,rfl,rfl,rfl,rfl⟩
 ·exact setall_ok (show ¬ (H+355 = N+359) by omega) (by simp; omega) (by omega)
 ·have:=v9.2
  show N≤v9.1.n+1
  omega
 ·show v9.1.n+356 = v9.1.n+1 + 355
  omega
end
noncomputable abbrev A_23 (N dT T H:Nat):List Nat:=[N+356,dT+355,T+355,T+355,T+355,T+355,N+356,H+355,H+355,H+355,H+355,dT+355,T+355,T+355,T+355,T+355,N+356,N+362,N+360,N+360,N+360,N+355,N+355,N+360,N+360,N+360,N+360,N+360,N+355,N+355,N+359,N+359,N+359,N+359,N+355,N+355,N+355,N+355,N+355,N+355,N+356,N+357,N+357,N+357,N+357,N+356,N+357,N+357,N+357,N+357,N+356,N+356,N+356]
noncomputable abbrev A_34 (N dT T:Nat):List Nat:=[N+356,dT+355,T+355,T+355,T+355,T+355,N+356,N+356,N+356,N+356,N+356,N+356,N+356,N+356,N+356,N+356,N+356,N+356]
theorem adh_a (w:World) (r:Rows) (Cut:CutTy) (F:FT) (D U N t:Nat) (T dT H e:Nat) (h1:Int) (t1 tk tv:Tok) (vs:List Value) (k:Str) :
  run (KF (pr w r)) (A_31 T dT h1 t1 H) ⟨PySem.Challenge.pw_oc0327_01,pr w r⟩ D U Cut (Qp 256 1 F) 100000 (Hs.of [0,0,1,1,1,1,1,1,1,1,0,1,3,3,3,3,2,0,0,0,2,0,0,0,2,0,0,0,0,2,4,3,0] (.cut 0 0 Unit (fun v0=>.ok (.ret (.str (⟨#[97]⟩:Str) tv))) (fun v0=>[]) (fun v0=>[]) (fun v0=>N+359) (fun v0=>t+9) (fun v0=>[]) fun v0=>(Hs.of [3,3,3,1,1,1,1,3,1,1,1,1,1,1,3,5,5,5,5,1,5,1,5,1,1,1,1,1,1,7,7,1,1,1,1,1,1,1,1,9,9,1,1,1,1,1,11,2,0,0,0,1,2,0,0,0,2,2,0,4,15,15,15,15,11,2,0,0,0,2,0,0,0,2,0,0,0,0,2,4,11,0] (.cut 0 0 Unit (fun v1=>.ok (.ret (.str k tk))) (fun v1=>[]) (fun v1=>[]) (fun v1=>N+364) (fun v1=>t+15) (fun v1=>[]) fun v1=>(Hs.of [11,1,1,9,9,1,17] (.cut 256 0 Unit (fun v2=>.ok (.ret .none)) (fun v2=>[]) (fun v2=>[listO (vs++[.ref (N+364)]) (e+1)]) (fun v2=>N+365) (fun v2=>t+16) (fun v2=>[]) fun v2=>(Hs.of [] .nil))))))) [] .nil ⟨none,0,0⟩ (.call (.ref 179) ⟨[.ref (T+355),.str k tk,(.str (⟨#[97]⟩:Str) tv)],[]⟩) (den2 (.call (.ref 179) ⟨[.ref (T+355),.str k tk,(.str (⟨#[97]⟩:Str) tv)],[]⟩)) ⟨[(H+355,listO vs e)],N+355,t,[]⟩ =
  ((AllEq (dup (A_34 N dT T))∧Cut (D+1) (U+3) (.call (.ref 83) ⟨[(.ref (T+355)),(.str ⟨#[97]⟩ tv)],[(⟨#[110,97,109,101]⟩,(.bool false))]⟩) none [] [] (N+358) (t+5) Unit (fun v0=>.ok (.ret (.str (⟨#[97]⟩:Str) tv))) (fun v0=>[]) (fun v0=>[]) (fun v0=>N+359) (fun v0=>t+9) (fun v0=>[]))∧∀ v0:Unit,((AllEq (dup (A_23 N dT T H))∧Cut (D+1) (U+3) (.call (.ref 83) ⟨[(.ref (T+355)),(.str k tk)],[(⟨#[110,97,109,101]⟩,(.bool true))]⟩) none [] [] (N+363) (t+11) Unit (fun v1=>.ok (.ret (.str k tk))) (fun v1=>[]) (fun v1=>[]) (fun v1=>N+364) (fun v1=>t+15) (fun v1=>[]))∧∀ v1:Unit,((AllEq (dup [H+355,N+357,N+357,N+356])∧Cut (D+1) (U+3) (.builtin "list.append" ⟨[(.ref (H+355)),(.ref (N+364))],[]⟩) none [((H+355),⟨(.type "list"),none,.seq ⟨vs⟩ e,⟨[]⟩⟩)] [] (N+365) (t+16) Unit (fun v2=>.ok (.ret .none)) (fun v2=>[]) (fun v2=>[listO (vs++[.ref (N+364)]) (e+1)]) (fun v2=>N+365) (fun v2=>t+16) (fun v2=>[]))∧∀ v2:Unit,(AllEq (dup [])∧F (.ok (.ret .none)) [((H+355),⟨(.type "list"),none,.seq ⟨vs++[(.ref (N+364))]⟩ (e+1),⟨[]⟩⟩)] (N+365) (t+16) [((N+364),⟨(.type "tuple"),none,.seq ⟨[(.str k tk),(.str ⟨#[97]⟩ tv)]⟩ 0,⟨[]⟩⟩)])))):=by obtain ⟨r1,r2,r3,r4⟩:=r; cases r2 <;> kernel_rfl
theorem adh_b (w:World) (r:Rows) (Cut:CutTy) (F:FT) (D U N t:Nat) (T dT H e:Nat) (h1:Int) (t1 tk tv:Tok) (vs:List Value) (k:Str) :
  run (KF (pr w r)) (A_31 T dT h1 t1 H) ⟨PySem.Challenge.pw_oc0327_01,pr w r⟩ D U Cut (Qp 256 1 F) 100000 (Hs.of [0,0,1,1,1,1,1,1,1,1,0,1,3,3,3,3,2,0,0,0,2,0,0,0,2,0,0,0,0,2,4,3,0] (.cut 0 0 Unit (fun v0=>.ok (.ret (.str (⟨#[98]⟩:Str) tv))) (fun v0=>[]) (fun v0=>[]) (fun v0=>N+359) (fun v0=>t+9) (fun v0=>[]) fun v0=>(Hs.of [3,3,3,1,1,1,1,3,1,1,1,1,1,1,3,5,5,5,5,1,5,1,5,1,1,1,1,1,1,7,7,1,1,1,1,1,1,1,1,9,9,1,1,1,1,1,11,2,0,0,0,1,2,0,0,0,2,2,0,4,15,15,15,15,11,2,0,0,0,2,0,0,0,2,0,0,0,0,2,4,11,0] (.cut 0 0 Unit (fun v1=>.ok (.ret (.str k tk))) (fun v1=>[]) (fun v1=>[]) (fun v1=>N+364) (fun v1=>t+15) (fun v1=>[]) fun v1=>(Hs.of [11,1,1,9,9,1,17] (.cut 256 0 Unit (fun v2=>.ok (.ret .none)) (fun v2=>[]) (fun v2=>[listO (vs++[.ref (N+364)]) (e+1)]) (fun v2=>N+365) (fun v2=>t+16) (fun v2=>[]) fun v2=>(Hs.of [] .nil))))))) [] .nil ⟨none,0,0⟩ (.call (.ref 179) ⟨[.ref (T+355),.str k tk,(.str (⟨#[98]⟩:Str) tv)],[]⟩) (den2 (.call (.ref 179) ⟨[.ref (T+355),.str k tk,(.str (⟨#[98]⟩:Str) tv)],[]⟩)) ⟨[(H+355,listO vs e)],N+355,t,[]⟩ =
  ((AllEq (dup (A_34 N dT T))∧Cut (D+1) (U+3) (.call (.ref 83) ⟨[(.ref (T+355)),(.str ⟨#[98]⟩ tv)],[(⟨#[110,97,109,101]⟩,(.bool false))]⟩) none [] [] (N+358) (t+5) Unit (fun v0=>.ok (.ret (.str (⟨#[98]⟩:Str) tv))) (fun v0=>[]) (fun v0=>[]) (fun v0=>N+359) (fun v0=>t+9) (fun v0=>[]))∧∀ v0:Unit,((AllEq (dup (A_23 N dT T H))∧Cut (D+1) (U+3) (.call (.ref 83) ⟨[(.ref (T+355)),(.str k tk)],[(⟨#[110,97,109,101]⟩,(.bool true))]⟩) none [] [] (N+363) (t+11) Unit (fun v1=>.ok (.ret (.str k tk))) (fun v1=>[]) (fun v1=>[]) (fun v1=>N+364) (fun v1=>t+15) (fun v1=>[]))∧∀ v1:Unit,((AllEq (dup [H+355,N+357,N+357,N+356])∧Cut (D+1) (U+3) (.builtin "list.append" ⟨[(.ref (H+355)),(.ref (N+364))],[]⟩) none [((H+355),⟨(.type "list"),none,.seq ⟨vs⟩ e,⟨[]⟩⟩)] [] (N+365) (t+16) Unit (fun v2=>.ok (.ret .none)) (fun v2=>[]) (fun v2=>[listO (vs++[.ref (N+364)]) (e+1)]) (fun v2=>N+365) (fun v2=>t+16) (fun v2=>[]))∧∀ v2:Unit,(AllEq (dup [])∧F (.ok (.ret .none)) [((H+355),⟨(.type "list"),none,.seq ⟨vs++[(.ref (N+364))]⟩ (e+1),⟨[]⟩⟩)] (N+365) (t+16) [((N+364),⟨(.type "tuple"),none,.seq ⟨[(.str k tk),(.str ⟨#[98]⟩ tv)]⟩ 0,⟨[]⟩⟩)])))):=by obtain ⟨r1,r2,r3,r4⟩:=r; cases r2 <;> kernel_rfl
theorem adh_c (w:World) (r:Rows) (Cut:CutTy) (F:FT) (D U N t:Nat) (T dT H e:Nat) (h1:Int) (t1 tk tv:Tok) (vs:List Value) (k:Str) :
  run (KF (pr w r)) (A_31 T dT h1 t1 H) ⟨PySem.Challenge.pw_oc0327_01,pr w r⟩ D U Cut (Qp 256 1 F) 100000 (Hs.of [0,0,1,1,1,1,1,1,1,1,0,1,3,3,3,3,2,0,0,0,2,0,0,0,2,0,0,0,0,2,4,3,0] (.cut 0 0 Unit (fun v0=>.ok (.ret (.str (⟨#[99]⟩:Str) tv))) (fun v0=>[]) (fun v0=>[]) (fun v0=>N+359) (fun v0=>t+9) (fun v0=>[]) fun v0=>(Hs.of [3,3,3,1,1,1,1,3,1,1,1,1,1,1,3,5,5,5,5,1,5,1,5,1,1,1,1,1,1,7,7,1,1,1,1,1,1,1,1,9,9,1,1,1,1,1,11,2,0,0,0,1,2,0,0,0,2,2,0,4,15,15,15,15,11,2,0,0,0,2,0,0,0,2,0,0,0,0,2,4,11,0] (.cut 0 0 Unit (fun v1=>.ok (.ret (.str k tk))) (fun v1=>[]) (fun v1=>[]) (fun v1=>N+364) (fun v1=>t+15) (fun v1=>[]) fun v1=>(Hs.of [11,1,1,9,9,1,17] (.cut 256 0 Unit (fun v2=>.ok (.ret .none)) (fun v2=>[]) (fun v2=>[listO (vs++[.ref (N+364)]) (e+1)]) (fun v2=>N+365) (fun v2=>t+16) (fun v2=>[]) fun v2=>(Hs.of [] .nil))))))) [] .nil ⟨none,0,0⟩ (.call (.ref 179) ⟨[.ref (T+355),.str k tk,(.str (⟨#[99]⟩:Str) tv)],[]⟩) (den2 (.call (.ref 179) ⟨[.ref (T+355),.str k tk,(.str (⟨#[99]⟩:Str) tv)],[]⟩)) ⟨[(H+355,listO vs e)],N+355,t,[]⟩ =
  ((AllEq (dup (A_34 N dT T))∧Cut (D+1) (U+3) (.call (.ref 83) ⟨[(.ref (T+355)),(.str ⟨#[99]⟩ tv)],[(⟨#[110,97,109,101]⟩,(.bool false))]⟩) none [] [] (N+358) (t+5) Unit (fun v0=>.ok (.ret (.str (⟨#[99]⟩:Str) tv))) (fun v0=>[]) (fun v0=>[]) (fun v0=>N+359) (fun v0=>t+9) (fun v0=>[]))∧∀ v0:Unit,((AllEq (dup (A_23 N dT T H))∧Cut (D+1) (U+3) (.call (.ref 83) ⟨[(.ref (T+355)),(.str k tk)],[(⟨#[110,97,109,101]⟩,(.bool true))]⟩) none [] [] (N+363) (t+11) Unit (fun v1=>.ok (.ret (.str k tk))) (fun v1=>[]) (fun v1=>[]) (fun v1=>N+364) (fun v1=>t+15) (fun v1=>[]))∧∀ v1:Unit,((AllEq (dup [H+355,N+357,N+357,N+356])∧Cut (D+1) (U+3) (.builtin "list.append" ⟨[(.ref (H+355)),(.ref (N+364))],[]⟩) none [((H+355),⟨(.type "list"),none,.seq ⟨vs⟩ e,⟨[]⟩⟩)] [] (N+365) (t+16) Unit (fun v2=>.ok (.ret .none)) (fun v2=>[]) (fun v2=>[listO (vs++[.ref (N+364)]) (e+1)]) (fun v2=>N+365) (fun v2=>t+16) (fun v2=>[]))∧∀ v2:Unit,(AllEq (dup [])∧F (.ok (.ret .none)) [((H+355),⟨(.type "list"),none,.seq ⟨vs++[(.ref (N+364))]⟩ (e+1),⟨[]⟩⟩)] (N+365) (t+16) [((N+364),⟨(.type "tuple"),none,.seq ⟨[(.str k tk),(.str ⟨#[99]⟩ tv)]⟩ 0,⟨[]⟩⟩)])))):=by obtain ⟨r1,r2,r3,r4⟩:=r; cases r2 <;> kernel_rfl
section
variable {w:World} {r:Rows} {g:Array GenState} {d:Drawn} {os:OsState} {B:Heap→Prop} {D U:Nat}
theorem addh_ok (MB:Mono B) (hB:∀ h,B h→(KF (pr w r)).In h) (hD:Lim D U 60) {k x:Str} (hk:k = sa∨Key k) (hx:x = sa∨x = sb∨x = sc) {tk tx:Tok} {T dT H e N t:Nat} {h1:Int} {t1:Tok} {vs:List Value} (hv:vs.length≤1000) :
  CutOk (XX w r g d os) B D U (.call (.ref 179) ⟨[.ref (T+355),.str k tk,.str x tx],[]⟩) none [(H+355,listO vs e)] [(T+355,hdrO dT),(dT+355,hdrD h1 t1 H)] (N+355) t
   Unit (fun _=>.ok (.ret .none)) (fun _=>[]) (fun _=>[listO (vs++[.ref (N+364)]) (e+1)]) (fun _=>N+365) (fun _=>t+16) (fun _=>[(N+364,tupO [.str k tk,.str x tx])]):=by
 have MB':=MB.bi [(T+355,hdrO dT),(dT+355,hdrD h1 t1 H)]
 have hB':∀ h,BI B [(T+355,hdrO dT),(dT+355,hdrD h1 t1 H)] h→(KF (pr w r)).In h:=fun h b=>hB h b.1
 rcases hx with rfl | rfl | rfl
 ·refine CutOk.of_runE MB hB hD.lo (fun _ p hq=>nomatch hq) (fun _=>rfl) 256 1 100000 _ (adh_a w r _ _ D U N t T dT H e h1 t1 tk tx vs k) ?_
  refine ⟨⟨allEq_dup _,convF_ok (N:=N+3) MB' hB' (by omega) (.inl rfl)⟩,fun _=>⟨⟨allEq_dup _,convT_ok (N:=N+8) MB' hB' (by omega) hk⟩,fun _=>⟨⟨allEq_dup _,append_ok hv⟩,fun _=>⟨allEq_dup _,(),rfl,rfl,rfl,rfl,rfl⟩⟩⟩⟩
 ·refine CutOk.of_runE MB hB hD.lo (fun _ p hq=>nomatch hq) (fun _=>rfl) 256 1 100000 _ (adh_b w r _ _ D U N t T dT H e h1 t1 tk tx vs k) ?_
  refine ⟨⟨allEq_dup _,convF_ok (N:=N+3) MB' hB' (by omega) (.inr (.inl rfl))⟩,fun _=>⟨⟨allEq_dup _,convT_ok (N:=N+8) MB' hB' (by omega) hk⟩,fun _=>⟨⟨allEq_dup _,append_ok hv⟩,fun _=>⟨allEq_dup _,(),rfl,rfl,rfl,rfl,rfl⟩⟩⟩⟩
 ·refine CutOk.of_runE MB hB hD.lo (fun _ p hq=>nomatch hq) (fun _=>rfl) 256 1 100000 _ (adh_c w r _ _ D U N t T dT H e h1 t1 tk tx vs k) ?_
  refine ⟨⟨allEq_dup _,convF_ok (N:=N+3) MB' hB' (by omega) (.inr (.inr rfl))⟩,fun _=>⟨⟨allEq_dup _,convT_ok (N:=N+8) MB' hB' (by omega) hk⟩,fun _=>⟨⟨allEq_dup _,append_ok hv⟩,fun _=>⟨allEq_dup _,(),rfl,rfl,rfl,rfl,rfl⟩⟩⟩⟩
end
theorem ImIn.nil {h:Heap}:ImIn [] h:=fun _ hp=>nomatch hp
theorem ImIn.cons {h:Heap} {a:Addr} {o:Obj} {l:List (Addr × Obj)} (h1:h.get? a = some o) (h2:ImIn l h):ImIn ((a,o) :: l) h:=fun p hp=>by
 rcases List.mem_cons.mp hp with rfl | hp
 ·exact h1
 ·exact h2 p hp
theorem ImIn.nth {h:Heap} {l:List (Addr × Obj)} (i:ImIn l h) (k:Nat) {a:Addr} {o:Obj} (e:getL l k = some (a,o)):h.get? a = some o:=by
 rw [getL_eq] at e
 exact i _ (List.mem_of_getElem? e)
theorem CutOk.wk {X:Env0} {B B':Heap→Prop} {D U:Nat} {c:Code} {hd:Hd} {sub im im':List (Addr × Obj)} {n t:Nat} {V:Type} {r:V→Result} {N:V→List (Addr × Obj)} {os:V→List Obj} {n' t':V→Nat} {Z:V→List (Addr × Obj)}
  (hB:∀ h,B h→ImIn im h→B' h∧ImIn im' h) (C:CutOk X B' D U c hd sub im' n t V r N os n' t' Z):CutOk X B D U c hd sub im n t V r N os n' t' Z :=
 C.weaken (Nat.le_refl _) (Nat.le_refl _) hB
noncomputable def kz (w:World) (r:Rows) (x:Str):Int:=PySem.W.ZFast.zw12210062019545310541 ((pr w r).strHash x.cps)
noncomputable abbrev frO (es:List DictEntry) (ep:Nat):Obj:=⟨.type "frame",none,.dict ⟨es⟩ ep,#[]⟩
noncomputable abbrev dE (h:Int) (k:Str) (t:Tok) (v:Value):DictEntry:=⟨h,.str k t,v⟩
theorem copy_ok {X:Env0} {B:Heap→Prop} {D U:Nat} {hd:Hd} {H S:Addr} {e n t:Nat} {vs:List Value} (hs:vs.length≤1000) :
  CutOk X B D U (.builtin "list.__getitem__" ⟨[.ref H,.ref S],[]⟩) hd [] [(H,listO vs e),(S,sliceO .none .none .none)] n t Unit (fun _=>.ok (.ret (.ref n))) (fun _=>[(n,listO vs 0)]) (fun _=>[]) (fun _=>n+1) (fun _=>t) (fun _=>[]):=by
 have:=getslice_ok (X:=X) (B:=B) (D:=D) (U:=U) (hd:=hd) (H:=H) (S:=S) (e:=e) (n:=n) (t:=t) (vs:=vs) .none .none .none (by simp) hs
 rw [slicePick_all] at this
 exact this
theorem from_ok {X:Env0} {B:Heap→Prop} {D U:Nat} {hd:Hd} {H S:Addr} {e n t a:Nat} {ta:Tok} {vs:List Value} (hs:vs.length≤1000) :
  CutOk X B D U (.builtin "list.__getitem__" ⟨[.ref H,.ref S],[]⟩) hd [] [(H,listO vs e),(S,sliceO (.int a ta) .none .none)] n t Unit (fun _=>.ok (.ret (.ref n))) (fun _=>[(n,listO (vs.drop a) 0)]) (fun _=>[]) (fun _=>n+1) (fun _=>t) (fun _=>[]):=by
 have:=getslice_ok (X:=X) (B:=B) (D:=D) (U:=U) (hd:=hd) (H:=H) (S:=S) (e:=e) (n:=n) (t:=t) (vs:=vs) (.int a ta) .none .none (by simp) hs
 rw [slicePick_from'] at this
 simpa using this
theorem upto_ok {X:Env0} {B:Heap→Prop} {D U:Nat} {hd:Hd} {H S:Addr} {e n t a:Nat} {ta:Tok} {vs:List Value} (hs:vs.length≤1000) :
  CutOk X B D U (.builtin "list.__getitem__" ⟨[.ref H,.ref S],[]⟩) hd [] [(H,listO vs e),(S,sliceO .none (.int a ta) .none)] n t Unit (fun _=>.ok (.ret (.ref n))) (fun _=>[(n,listO (vs.take a) 0)]) (fun _=>[]) (fun _=>n+1) (fun _=>t) (fun _=>[]):=by
 have:=getslice_ok (X:=X) (B:=B) (D:=D) (U:=U) (hd:=hd) (H:=H) (S:=S) (e:=e) (n:=n) (t:=t) (vs:=vs) .none (.int a ta) .none (by simp) hs
 rw [slicePick_upto'] at this
 simpa using this
theorem upto2_ok {X:Env0} {B:Heap→Prop} {D U:Nat} {hd:Hd} {H S:Addr} {e n t a:Nat} {ta:Tok} {vs:List Value} {dd:Option Addr} {sl:Array (Option Value)} (hs:vs.length≤1000) :
  CutOk X B D U (.builtin "list.__getitem__" ⟨[.ref H,.ref S],[]⟩) hd [] [(H,lstO dd vs e sl),(S,sliceO .none (.int a ta) .none)] n t Unit (fun _=>.ok (.ret (.ref n))) (fun _=>[(n,listO (vs.take a) 0)]) (fun _=>[]) (fun _=>n+1) (fun _=>t) (fun _=>[]):=by
 have:=getsliceG_ok (X:=X) (B:=B) (D:=D) (U:=U) (hd:=hd) (H:=H) (S:=S) (e:=e) (n:=n) (t:=t) (vs:=vs) (dd:=dd) (sl:=sl) .none (.int a ta) .none (by simp) hs
 rw [slicePick_upto'] at this
 simpa using this
noncomputable abbrev Stk:=List (Code × Pos)
noncomputable def slR (env:Env) (back:Value) (sl:Array (Option Value)):Array (Option Value) :=
 #[some env.code,some (.ref env.globals),sl.getD 2 none,some back,sl.getD 4 none,env.func.map Value.ref,some (.ref env.builtins)]++(env.cells.map fun c=>some (.ref c.2)).toArray
noncomputable def readyR (bk:Stk→Value):List Env→Sem Unit
 | [] => .pure ()
 | env :: outer => match env.frame,env.scope.kind with
  | some f,.function => Sem.load f none fun o=>match (o.slots.getD 3 none).isSome with
   | true => .pure ()
   | false => match outer with
    | [] => match env.scope.isGenerator,env.scope.isCoroutine with
     | false,false => .stack fun st=>.update f none (fun o=>{ o with slots:=slR env (bk st) o.slots }) fun _=>readyR bk []
     | _,_ => .unsupported ""
    | c :: r => match env.scope.isGenerator,env.scope.isCoroutine with
     | false,false => .update f none (fun o=>{ o with slots:=slR env (c.frame.elim .notImplemented Value.ref) o.slots }) fun _=>readyR bk (c :: r)
     | _,_ => .unsupported ""
  | _,_ => .unsupported ""
noncomputable def noteR (bk:Stk→Value) (pl:Stk→Nat→Value) (fs:List Env) (e:Value) (env:Env):Sem Unit:=match env.frame with
 | some f => (PySem.W.Fast.tw6609576154772507232 e 1).bind fun head=>match head with
  | .none => (readyR bk fs).bind fun _=>.stack fun st=>(PySem.W.Fast.tw7687323783571163205 .none (.ref f) .none (rawInt f) .none [pl st 0,pl st 1,pl st 2,pl st 3,pl st 4,pl st 5]).bind fun tb=>PySem.W.Fast.tw17858455048448223758 e 1 tb
  | _ => .unsupported ""
 | none => .unsupported ""
noncomputable def tryR (bk:Stk→Value) (pl:Stk→Nat→Value) (fs:List Env) (tb:List Stmt) (hs:List ExceptHandler) (env:Env):Sem Flow :=
 (PySem.W.Fast.tw3205988728414705400 (PySem.W.Fast.tw12563942051412417395 tb env)).bind fun r=>match r with
  | .ok f => .pure f
  | .error e => (noteR bk pl fs e env).bind fun _=>(PySem.W.Fast.tw5670386056902412789 e none).bind fun _=>PySem.W.Fast.tw14206642085496868694 e env hs
noncomputable def tryWhile (bk:Stk→Value) (pl:Stk→Nat→Value) (fs:List Env) (test:Expr) (tb:List Stmt) (hs:List ExceptHandler) (tp:Pos) (orelse:List Stmt) (env:Env):Sem PySem.Fin :=
 PySem.W.R.onRaiseR ((PySem.W.Fast.tw15418851999007992765 test env (PySem.W.Fast.tw14044960220447912780 test env)).bind fun z=>match z with
  | true => (standAt tp).bind fun _=>(tryR bk pl fs tb hs env).bind fun f=>match f with
   | .next => .pure (.again (.whileLoop test [.Try tb hs [] [] tp] orelse env))
   | .cont => .pure (.again (.whileLoop test [.Try tb hs [] [] tp] orelse env))
   | .brk => .pure (.done .next)
   | .ret v => .pure (.done (.ret v))
  | false => (PySem.W.Fast.tw12563942051412417395 orelse env).bind fun f=>.pure (.done f))
  fun x=>(PySem.W.Fast.tw17872113653443481271 x env).bind fun _=>PySem.W.Fast.tw1623429502029203251 x
noncomputable def bkS (st:Stk):Value:=if st.any (fun (c,_) => match c with | .builtin "claim.caller" _ => true | _ => false) then .notImplemented else .none
noncomputable def plL (f:Addr) (acts:Stk):List Value:=match acts.find? fun (c,_) => c.env?.bind (·.frame) == some f with
 | some (_,pos) => if pos.line == 0 then [] else [rawInt pos.line,rawInt pos.endLine,rawInt pos.col,rawInt pos.endCol]++EntryCells.cells f false acts
 | none => []
noncomputable def plS (f:Addr) (acts:Stk) (i:Nat):Value:=(if (plL f acts).isEmpty then List.replicate 6 Value.none else plL f acts).getD i .none
theorem plS_six (f:Addr) (acts:Stk):[plS f acts 0,plS f acts 1,plS f acts 2,plS f acts 3,plS f acts 4,plS f acts 5] = if (plL f acts).isEmpty then List.replicate 6 Value.none else plL f acts:=by
 unfold plS
 have h:plL f acts = []∨∃ a b c d e g:Value,plL f acts = [a,b,c,d,e,g]:=by
  unfold plL
  split
  ·split
   ·exact .inl rfl
   ·obtain ⟨c9,_,hc⟩:=EntryCells.cells_shape f false acts
    rw [hc]
    exact .inr ⟨_,_,_,_,_,_,rfl⟩
  ·exact .inl rfl
 rcases h with h | ⟨a,b,c,d,e,g,h⟩ <;> rw [h] <;> rfl
section
variable {M:Model} {Γ:Ctx}
theorem readyR_sound:∀ {fs:List Env} {Q:Unit→Pos→Shared→Prop} {E:Value→Pos→Shared→Prop} {p:Pos} {s:Shared},
  Sem.wp M Γ (readyR bkS fs) Q E p s→Sem.wp M Γ (readyFrames fs) Q E p s
 | [],_,_,_,_,h => h
 | env :: outer,Q,E,p,s,h => by
  unfold readyR at h
  split at h
  ·rename_i f hf hk
   simp only [readyFrames,hf]
   rw [Sem.wp_load] at h
   obtain ⟨o,ho,h⟩:=h
   rw [Sem.wp_bind',Sem.wp_load_of _ _ _ _ _ ho]
   split at h
   ·rename_i hs
    rw [if_pos hs]; exact h
   ·rename_i hs
    rw [if_neg (by rw [hs]; exact Bool.false_ne_true)]
    have hb:behindIsImport env outer = pure false:=by
     unfold behindIsImport
     rw [hk]; rfl
    rw [hb,Sem.wp_bind',Sem.wp_pure']
    split at h
    ·split at h
     ·rename_i hg hc
      rw [Sem.wp_stack] at h
      have hkb:keptBack env false [] = Sem.stack fun st=>.pure (bkS st):=by
       unfold keptBack
       rw [hg,hc]
       rfl
      rw [hkb,Sem.wp_bind',Sem.wp_stack,Sem.wp_pure]
      rw [Sem.wp_update] at h
      rw [Sem.wp_bind']
      show Sem.wp M Γ (Sem.update f none _ _) _ _ p s
      rw [Sem.wp_update]
      exact ⟨h.1,readyR_sound (fs:=[]) h.2⟩
     ·exact absurd h (by rw [Sem.wp]; exact id)
    ·rename_i c r
     split at h
     ·rename_i hg hc
      have hkb:keptBack env false (c :: r) = pure (c.frame.elim .notImplemented Value.ref):=by
       unfold keptBack
       rw [hg,hc]
       rfl
      rw [hkb,Sem.wp_bind',Sem.wp_pure']
      rw [Sem.wp_update] at h
      rw [Sem.wp_bind']
      show Sem.wp M Γ (Sem.update f none _ _) _ _ p s
      rw [Sem.wp_update]
      exact ⟨h.1,readyR_sound (fs:=c :: r) h.2⟩
     ·exact absurd h (by rw [Sem.wp]; exact id)
  ·exact absurd h (by rw [Sem.wp]; exact id)
theorem noteR_sound {fs:List Env} {e:Value} {env:Env} {outer:List Env} {f:Addr} (hfe:env.frame = some f) (hfs:fs = env :: outer) (hst:∀ p,envsOf ((Γ.code,p) :: Γ.below) = fs) {Q:Unit→Pos→Shared→Prop} {E:Value→Pos→Shared→Prop} {p:Pos} {s:Shared}
  (h:Sem.wp M Γ (noteR bkS (plS f) fs e env) Q E p s):Sem.wp M Γ (noteFrame e env) Q E p s:=by
 unfold noteR at h
 rw [hfe] at h
 dsimp only at h
 rw [← PySem.W.Fast.te6609576154772507232,← PySem.W.Fast.te7687323783571163205,← PySem.W.Fast.te17858455048448223758] at h
 unfold noteFrame
 rw [hfe]
 dsimp only
 rw [Sem.wp_bind] at h
 rw [Sem.wp_bind']
 refine Sem.wp_mono M Γ _ (fun head p1 s1 h1=>?_) (fun _ _ _ e=>e) p s h
 split at h1
 ·rename_i hd
  rw [if_neg (by simp)]
  rw [Sem.wp_bind] at h1
  have hfr:frameOf env = (frameEnvs >>= fun l=>frameObject (l.dropWhile (·.frame != env.frame)) >>= fun x=>match x with | some f => pure f | none => unsupported "internal:frame-not-on-the-stack"):=rfl
  rw [hfr]
  rw [Sem.wp_bind',Sem.wp_bind']
  show Sem.wp M Γ (Sem.stack fun st=>.pure (envsOf st)) _ _ p1 s1
  rw [Sem.wp_stack,Sem.wp_pure,hst p1]
  rw [Sem.wp_bind']
  have hdw:(fs.dropWhile fun x=>x.frame != env.frame) = fs:=by rw [hfs]; simp [List.dropWhile]
  rw [hdw]
  have hfo:frameObject fs = (readyFrames fs >>= fun _=>pure (some (Value.ref f))):=by
   rw [hfs]; unfold frameObject; dsimp only; rw [hfe]; rfl
  rw [hfo,Sem.wp_bind']
  refine readyR_sound ?_
  refine Sem.wp_mono M Γ _ (fun _ p2 s2 h2=>?_) (fun _ _ _ e=>e) p1 s1 h1
  rw [Sem.wp_pure']
  dsimp only
  rw [Sem.wp_pure',Sem.wp_bind']
  rw [Sem.wp_stack] at h2
  have hen:entryPlaceOf f (Value.none != Value.none) = Sem.stack fun st=>.pure (plL f st):=by
   unfold entryPlaceOf
   show Sem.stack (fun st=>_) = _
   congr 1
   funext st
   unfold plL
   show (match List.find? (fun (c,_) => c.env?.bind (·.frame) == some f) st with
    | some (_,pos) => pure (if pos.line == 0 then [] else [rawInt pos.line,rawInt pos.endLine,rawInt pos.col,rawInt pos.endCol]++EntryCells.cells f (Value.none != Value.none) st)
    | none => pure []) = _
   rw [show (Value.none != Value.none) = false from rfl]
   cases List.find? (fun (c,_) => c.env?.bind (·.frame) == some f) st with
   | none => rfl
   | some x => rfl
  rw [hen,Sem.wp_stack,Sem.wp_pure]
  have hnew:EntryCells.newEntry .none (.ref f) .none (rawInt f) .none [plS f ((Γ.code,p2) :: Γ.below) 0,plS f ((Γ.code,p2) :: Γ.below) 1,plS f ((Γ.code,p2) :: Γ.below) 2,plS f ((Γ.code,p2) :: Γ.below) 3,plS f ((Γ.code,p2) :: Γ.below) 4,plS f ((Γ.code,p2) :: Γ.below) 5]
    = EntryCells.newEntry .none (.ref f) .none (rawInt f) .none (plL f ((Γ.code,p2) :: Γ.below)):=by
   unfold EntryCells.newEntry
   have z:=plS_six f ((Γ.code,p2) :: Γ.below)
   rw [show ([plS f ((Γ.code,p2) :: Γ.below) 0,plS f ((Γ.code,p2) :: Γ.below) 1,plS f ((Γ.code,p2) :: Γ.below) 2,plS f ((Γ.code,p2) :: Γ.below) 3,plS f ((Γ.code,p2) :: Γ.below) 4,plS f ((Γ.code,p2) :: Γ.below) 5]:List Value).isEmpty = false from rfl]
   rw [if_neg Bool.false_ne_true,z]
  rw [hnew] at h2
  exact h2
 ·exact absurd h1 (by rw [Sem.wp]; exact id)
theorem tryR_sound {fs:List Env} {env:Env} {outer:List Env} {f:Addr} (hfe:env.frame = some f) (hfs:fs = env :: outer) (hst:∀ p,envsOf ((Γ.code,p) :: Γ.below) = fs) {tb:List Stmt} {hs:List ExceptHandler} (hne:hs.isEmpty = false) {Q:Flow→Pos→Shared→Prop} {E:Value→Pos→Shared→Prop} {p:Pos} {s:Shared}
  (h:Sem.wp M Γ (tryR bkS (plS f) fs tb hs env) Q E p s):Sem.wp M Γ (tryStmt false (execs tb env) hs (execs [] env) [] env) Q E p s:=by
 unfold tryR at h
 rw [← PySem.W.Fast.te3205988728414705400,← PySem.W.Fast.te12563942051412417395,← PySem.W.Fast.te5670386056902412789,← PySem.W.Fast.te14206642085496868694] at h
 unfold tryStmt
 dsimp only
 rw [if_pos (show ([]:List Stmt).isEmpty = true from rfl)]
 rw [Sem.wp_bind']
 rw [Sem.wp_bind] at h
 refine Sem.wp_mono M Γ _ (fun r p1 s1 h1=>?_) (fun _ _ _ e=>e) p s h
 split at h1
 ·rename_i fl
  cases fl with
  | next => exact h1
  | _ => exact h1
 ·rename_i x
  dsimp only
  rw [Sem.wp_bind']
  rw [Sem.wp_bind] at h1
  refine noteR_sound hfe hfs hst ?_
  refine Sem.wp_mono M Γ _ (fun _ p2 s2 h2=>?_) (fun _ _ _ e=>e) p1 s1 h1
  rw [hne]
  rw [if_neg Bool.false_ne_true,Sem.wp_bind']
  rw [Sem.wp_bind] at h2
  refine Sem.wp_mono M Γ _ (fun _ p3 s3 h3=>?_) (fun _ _ _ e=>e) p2 s2 h2
  exact Sem.wp_mono M Γ _ (fun _ _ _ h4=>h4) (fun _ _ _ e=>e) p3 s3 h3
theorem tryWhile_sound {fs:List Env} {env:Env} {outer:List Env} {f:Addr} (hfe:env.frame = some f) (hfs:fs = env :: outer) (hst:∀ p,envsOf ((Γ.code,p) :: Γ.below) = fs) {test:Expr} {tb orelse:List Stmt} {hs:List ExceptHandler} {tp:Pos} (hne:hs.isEmpty = false) {Q:PySem.Fin→Pos→Shared→Prop} {E:Value→Pos→Shared→Prop} {p:Pos} {s:Shared}
  (h:Sem.wp M Γ (tryWhile bkS (plS f) fs test tb hs tp orelse env) Q E p s):Sem.wp M Γ (denote table (.whileLoop test [.Try tb hs [] [] tp] orelse env)) Q E p s:=by
 unfold tryWhile at h
 rw [← PySem.W.Fast.te15418851999007992765,← PySem.W.Fast.te14044960220447912780,← PySem.W.Fast.te12563942051412417395,← PySem.W.Fast.te17872113653443481271,← PySem.W.Fast.te1623429502029203251,← PySem.W.R.onRaiseR_eq] at h
 show Sem.wp M Γ ((whileTurn test [.Try tb hs [] [] tp] orelse env).onRaise (fun x=>do noteFrame x env; theTreesLotGoes x)) Q E p s
 rw [Sem.wp_onRaise] at h ⊢
 unfold whileTurn
 rw [Sem.wp_bind']
 rw [Sem.wp_bind] at h
 refine Sem.wp_mono M Γ _ (fun z p1 s1 h1=>?_) (fun _ _ _ e=>e) p s h
 cases z
 ·rw [if_neg Bool.false_ne_true]; exact h1
 ·rw [if_pos rfl]
  dsimp only at h1
  rw [Sem.wp_bind',execs_cons,Sem.wp_bind']
  show Sem.wp M Γ (standAt tp >>= fun _=>tryStmt false (execs tb env) hs (execs [] env) [] env) _ _ p1 s1
  rw [Sem.wp_bind']
  rw [Sem.wp_bind] at h1
  refine Sem.wp_mono M Γ _ (fun _ p2 s2 h2=>?_) (fun _ _ _ e=>e) p1 s1 h1
  refine tryR_sound hfe hfs hst hne ?_
  rw [Sem.wp_bind] at h2
  refine Sem.wp_mono M Γ _ (fun fl p3 s3 h3=>?_) (fun _ _ _ e=>e) p2 s2 h2
  cases fl with
  | next => exact h3
  | _ => exact h3
end
theorem tryW_hT {X:Env0} {D U:Nat} {fs outer:List Env} {env:Env} {f:Addr} (hfe:env.frame = some f) (hfs:fs = env :: outer) {test:Expr} {tb orelse:List Stmt} {hs:List ExceptHandler} {tp:Pos} (hne:hs.isEmpty = false) :
  ∀ A:Around,HdOk (some ⟨none,some fs⟩) A→A.depth≤D→A.units≤U→∀ (Q:PySem.Fin→Shared→Prop) (E:Value→Shared→Prop) (s:Shared),wpOwn (model X.prog X.w) A (.whileLoop test [.Try tb hs [] [] tp] orelse env) (tryWhile bkS (plS f) fs test tb hs tp orelse env) Q E s →
   wpOwn (model X.prog X.w) A (.whileLoop test [.Try tb hs [] [] tp] orelse env) (denote table (.whileLoop test [.Try tb hs [] [] tp] orelse env)) Q E s:=by
 intro A hA _ _ Q E s h Γ p hc hB
 refine tryWhile_sound hfe hfs (fun q=>?_) hne (h Γ p hc hB)
 have:=hB.2.2.1 fs (hA.2 fs rfl)
 rw [envsOf_cons,hc]
 show []++envsOf Γ.below = fs
 rw [this]; rfl
structure HT (X:Env0) (D U:Nat) (hd:Hd) (c:Code) (T:Sem PySem.Fin):Prop where
 go:∀ A:Around,HdOk hd A→A.depth≤D→A.units≤U→∀ (Q:PySem.Fin→Shared→Prop) (E:Value→Shared→Prop) (s:Shared),wpOwn (model X.prog X.w) A c T Q E s→wpOwn (model X.prog X.w) A c (denote table c) Q E s
noncomputable def dg (b:Nat):Nat→Nat→List Nat
 | 0,_ => []
 | n+1,k => Nat.mod k b :: dg b n (Nat.div k b)
noncomputable def nthN:List Nat→Nat→Nat
 | [],_ => 0
 | x :: _,0 => x
 | _ :: l,n+1 => nthN l n
noncomputable def ixL (l:List Nat):List Nat→List Nat
 | [] => []
 | i :: r => nthN l i :: ixL l r
local macro_rules | `(tactic| k_end) => `(tactic| first | rfl | (congr 1; done) | (simp [$(Lean.mkIdent `S₀):ident,setO]; done) | (dsimp only [$(Lean.mkIdent `S₀):ident]; omega))
noncomputable def ix (l:List Nat) (n k:Nat):List Nat:=ixL l (dg 16 n k)
noncomputable def d6 (n k:Nat):List Nat:=dg 16 n k
noncomputable def d8 (n k:Nat):List Nat:=dg 256 n k
noncomputable def selL (l:List (Addr × Obj)):List Nat→List (Addr × Obj)
 | [] => []
 | i :: r => match getL l i with
  | some p => p :: selL l r
  | none => selL l r
@[simp] theorem selL_nil (l:List (Addr × Obj)):selL l [] = []:=rfl
@[simp] theorem selL_cons (l:List (Addr × Obj)) (i:Nat) (r:List Nat):selL l (i :: r) = match getL l i with
  | some p => p :: selL l r
  | none => selL l r:=rfl
@[simp] theorem getL_zero (p:Addr × Obj) (l:List (Addr × Obj)):getL (p :: l) 0 = some p:=rfl
@[simp] theorem getL_succ (p:Addr × Obj) (l:List (Addr × Obj)) (n:Nat):getL (p :: l) (n+1) = getL l n:=rfl
noncomputable def getT (I L:List (Addr × Obj)):List Nat→List (Addr × Obj)
 | [] => []
 | i :: r => match getL (match Nat.mod i 2 with | 0 => I | _ => L) (Nat.div i 2) with
  | some p => p :: getT I L r
  | none => getT I L r
theorem getT_in {I L:List (Addr × Obj)} {h:Heap} (h1:ImIn I h) (h2:ImIn L h):∀ tags,ImIn (getT I L tags) h
 | [] => ImIn.nil
 | i :: r => by
  unfold getT
  split
  ·rename_i p e
   rw [getL_eq] at e
   have hp:h.get? p.1 = some p.2:=by
    split at e
    ·exact h1 _ (List.mem_of_getElem? e)
    ·exact h2 _ (List.mem_of_getElem? e)
   exact ImIn.cons hp (getT_in h1 h2 r)
  ·exact getT_in h1 h2 r
structure Pc:Type 1 where
 im:List (Addr × Obj)
 sub:List (Addr × Obj)
 V:Type
 r:V→Result
 N:V→List (Addr × Obj)
 os:V→List Obj
 n:V→Nat
 t:V→Nat
 Z:V→List (Addr × Obj)
noncomputable abbrev Pc.F (S:Pc):Result→List (Addr × Obj)→Nat→Nat→List (Addr × Obj)→Prop:=fun r' l' m' k' z'=>∃ v,r' = S.r v∧l' = S.N v++setO S.sub (S.os v)∧m' = S.n v∧k' = S.t v∧z' = S.Z v
structure Pk (X:Env0) (B:Heap→Prop) (D U:Nat) (S:Pc) (z:List (Addr × Obj)):Type 1 where
 hs:Hs
 P:Prop
 pf:P
section
variable {X:Env0} {B B':Heap→Prop} {D U:Nat} {S:Pc} {z:List (Addr × Obj)} {c:Code} {hd:Hd} {sub im':List (Addr × Obj)} {n t:Nat} {V:Type} {r:V→Result} {N:V→List (Addr × Obj)} {os:V→List Obj} {n' t':V→Nat} {Z:V→List (Addr × Obj)}
noncomputable def Pk.cut (hints dups:List Nat) (b b2 m u:Nat) {im:List (Addr × Obj)} (C:CutOk X (BI B S.im) (D + m) (U + u) c hd sub im n t V r N os n' t' Z) (k:∀ v:V,Pk X B D U S (Z v++z)):Pk X B D U S z :=
 ⟨Hs.of hints (.cut b b2 V r N os n' t' Z fun v=>(k v).hs),(AllEq (dup dups)∧CutOk X (BI B S.im) (D + m) (U + u) c hd sub im n t V r N os n' t' Z)∧∀ v,(k v).P,⟨⟨allEq_dup dups,C⟩,fun v=>(k v).pf⟩⟩
noncomputable def Pk.a (hints dups:List Nat) (b b2 m u:Nat) (sel tags:List Nat) (C:CutOk X (BI B S.im) (D + m) (U + u) c hd sub im' n t V r N os n' t' Z) (k:∀ v:V,Pk X B D U S (Z v++z)) (e:im' = getT S.im (selL im' sel++z) tags:=by kernel_rfl):Pk X B D U S z :=
 Pk.cut hints dups b b2 m u (C.weaken (Nat.le_refl _) (Nat.le_refl _) fun h x i=>⟨x,e ▸ getT_in x.2 i tags⟩:CutOk X (BI B S.im) (D + m) (U + u) c hd sub (selL im' sel++z) n t V r N os n' t' Z) k
noncomputable def Pk.o (hints dups:List Nat) (b b2 m u:Nat) (sel tags:List Nat) (C:CutOk X B (D + m) (U + u) c hd sub im' n t V r N os n' t' Z) (k:∀ v:V,Pk X B D U S (Z v++z)) (e:im' = getT S.im (selL im' sel++z) tags:=by kernel_rfl):Pk X B D U S z :=
 Pk.cut hints dups b b2 m u (C.weaken (Nat.le_refl _) (Nat.le_refl _) fun h x i=>⟨x.1,e ▸ getT_in x.2 i tags⟩:CutOk X (BI B S.im) (D + m) (U + u) c hd sub (selL im' sel++z) n t V r N os n' t' Z) k
noncomputable def Pk.i (hints dups:List Nat) (b b2 m u:Nat) (sel tags:List Nat) (C:CutOk X (BI (BI B S.im) (selL im' sel++z)) (D + m) (U + u) c hd sub im' n t V r N os n' t' Z) (k:∀ v:V,Pk X B D U S (Z v++z)) (e:im' = getT S.im (selL im' sel++z) tags:=by kernel_rfl):Pk X B D U S z :=
 Pk.cut hints dups b b2 m u (C.weaken (Nat.le_refl _) (Nat.le_refl _) fun h x i=>⟨⟨x,i⟩,e ▸ getT_in x.2 i tags⟩:CutOk X (BI B S.im) (D + m) (U + u) c hd sub (selL im' sel++z) n t V r N os n' t' Z) k
noncomputable def Pk.s (hints dups:List Nat) (k:List (Code × Pos)→Pk X B D U S z):Pk X B D U S z :=
 ⟨Hs.of hints (k []).hs,AllEq (dup dups)∧∀ st,(k st).P,allEq_dup dups,fun st=>(k st).pf⟩
noncomputable def Pk.f (hints dups:List Nat) (v:S.V):Pk X B D U S z :=
 ⟨Hs.of hints .nil,AllEq (dup dups)∧S.F (S.r v) (S.N v++setO S.sub (S.os v)) (S.n v) (S.t v) (S.Z v),allEq_dup dups,v,rfl,rfl,rfl,rfl,rfl⟩
noncomputable def Pk.k (hints dups:List Nat) {r':Result} {l' z':List (Addr × Obj)} {m' k':Nat} (e:S.F r' l' m' k' z'):Pk X B D U S z :=
 ⟨Hs.of hints .nil,AllEq (dup dups)∧S.F r' l' m' k' z',allEq_dup dups,e⟩
noncomputable def Pk.e (v:S.V):Pk X B D U S z:=⟨.nil,S.F (S.r v) (S.N v++setO S.sub (S.os v)) (S.n v) (S.t v) (S.Z v),v,rfl,rfl,rfl,rfl,rfl⟩
noncomputable def Pk.h {r':Result} {l' z':List (Addr × Obj)} {m' k':Nat} (e:S.F r' l' m' k' z'):Pk X B D U S z:=⟨.nil,S.F r' l' m' k' z',e⟩
end
include MB hB in
theorem CutOk.of_pk {c:Code} {hd:Hd} {sub im:List (Addr × Obj)} {n t:Nat} {V:Type} {r':V→Result} {N:V→List (Addr × Obj)} {os':V→List Obj} {n' t':V→Nat} {Z:V→List (Addr × Obj)}
  (hD:Lim D U 50) (hN:∀ v,∀ p∈N v,n≤p.1) (hl:∀ v,(os' v).length = sub.length) (b bz:Nat)
  (H:let S:Pc:=⟨im,sub,V,r',N,os',n',t',Z⟩; ∃ p:Rows→Pk (XX w r g d os) B D U S [],∀ x:Rows,run (KF (pr w x)) im ⟨PySem.Challenge.pw_oc0327_01,pr w x⟩ D U (CutOk (XX w r g d os) (BI B S.im)) (Qp b bz S.F) 100000 (p x).hs [] .nil ⟨hd,0,0⟩ c (den2 c) ⟨sub,n,t,[]⟩ = (p x).P) :
  CutOk (XX w r g d os) B D U c hd sub im n t V r' N os' n' t' Z:=by
 obtain ⟨p,H⟩:=H
 exact CutOk.of_runE MB hB hD hN hl b bz 100000 _ (H r) (p r).pf
include MB hB in
theorem CutOk.of_q {c:Code} {hd:Hd} {sub im:List (Addr × Obj)} {n t:Nat} {V:Type} {r':V→Result} {os':V→List Obj} {n' t':V→Nat} {Z:V→List (Addr × Obj)}
  (hD:Lim D U 50) (b bz:Nat)
  (H:let S:Pc:=⟨im,sub,V,r',fun _=>[],os',n',t',Z⟩; ∃ p:Rows→Pk (XX w r g d os) B D U S [],∀ x:Rows,run (KF (pr w x)) im ⟨PySem.Challenge.pw_oc0327_01,pr w x⟩ D U (CutOk (XX w r g d os) (BI B S.im)) (Qp b bz S.F) 100000 (p x).hs [] .nil ⟨hd,0,0⟩ c (den2 c) ⟨sub,n,t,[]⟩ = (p x).P) (hl:∀ v,(os' v).length = sub.length:=by exact fun _=>rfl) :
  CutOk (XX w r g d os) B D U c hd sub im n t V r' (fun _=>[]) os' n' t' Z:=CutOk.of_pk MB hB hD (fun _ _ hp=>nomatch hp) hl b bz H
local macro_rules | `(tactic| k_data) => `(tactic| (intro $(Lean.mkIdent `S₀):ident; have $(Lean.mkIdent `MB1):ident:=Mono.bi $(Lean.mkIdent `MB) (Pc.im $(Lean.mkIdent `S₀)); have $(Lean.mkIdent `hB1):ident:=fun h (b:BI $(Lean.mkIdent `B) (Pc.im $(Lean.mkIdent `S₀)) h) => $(Lean.mkIdent `hB) h (And.left b)))
theorem CutOk.wkS {X:Env0} {B:Heap→Prop} {D U:Nat} {c:Code} {sub im:List (Addr × Obj)} {n t:Nat} {V:Type} {r:V→Result} {N:V→List (Addr × Obj)} {os:V→List Obj} {n' t':V→Nat} {Z:V→List (Addr × Obj)}
  (hd:Hd) (C:CutOk X B D U c none sub im n t V r N os n' t' Z) (e:hdV hd = none:=by rfl):CutOk X B D U c hd sub im n t V r N os n' t' Z :=
 ⟨C.1,C.2.1,fun h₀ b i A h1 h2 h3=>C.2.2 h₀ b i A (h1.handled.trans e) h2 h3⟩
theorem CutOk.of_pkT {w:World} {r:Rows} {g:Array GenState} {d:Drawn} {os:OsState} {B:Heap→Prop} {D U:Nat} {c:Code} {hd:Hd} {sub im:List (Addr × Obj)} {n t:Nat} {V:Type} {r':V→Result} {N:V→List (Addr × Obj)} {os':V→List Obj} {n' t':V→Nat} {Z:V→List (Addr × Obj)} {T:Sem PySem.Fin}
  (hT:HT (XX w r g d os) D U hd c T)
  (MB:Mono B) (hB:∀ h,B h→(KF (pr w r)).In h) (hD:Lim D U 50) (hN:∀ v,∀ p∈N v,n≤p.1) (hl:∀ v,(os' v).length = sub.length) (b bz:Nat)
  (H:let S:Pc:=⟨im,sub,V,r',N,os',n',t',Z⟩; ∃ p:Rows→Pk (XX w r g d os) B D U S [],∀ x:Rows,run (KF (pr w x)) im ⟨PySem.Challenge.pw_oc0327_01,pr w x⟩ D U (CutOk (XX w r g d os) (BI B S.im)) (Qp b bz S.F) 100000 (p x).hs [] .nil ⟨hd,0,0⟩ c T ⟨sub,n,t,[]⟩ = (p x).P) :
  CutOk (XX w r g d os) B D U c hd sub im n t V r' N os' n' t' Z:=by
 obtain ⟨p,H⟩:=H
 exact CutOk.of_runTE hT.go MB hB hD hN hl b bz 100000 _ (H r) (p r).pf
theorem CutOk.of_pkR {w:World} {r:Rows} {g:Array GenState} {d:Drawn} {os:OsState} {B:Heap→Prop} {D U:Nat} {c:Code} {hd:Hd} {sub im:List (Addr × Obj)} {n t:Nat} {V:Type} {r':V→Result} {N:V→List (Addr × Obj)} {os':V→List Obj} {n' t':V→Nat} {Z:V→List (Addr × Obj)}
  {α:Type} (ρ:α→Rows) (y:α) (e:ρ y = r)
  (MB:Mono B) (hB:∀ h,B h→(KF (pr w r)).In h) (hD:Lim D U 50) (hN:∀ v,∀ p∈N v,n≤p.1) (hl:∀ v,(os' v).length = sub.length) (b bz:Nat)
  (H:let S:Pc:=⟨im,sub,V,r',N,os',n',t',Z⟩; ∃ p:Rows→Pk (XX w r g d os) B D U S [],∀ v:α,run (KF (pr w (ρ v))) im ⟨PySem.Challenge.pw_oc0327_01,pr w (ρ v)⟩ D U (CutOk (XX w r g d os) (BI B S.im)) (Qp b bz S.F) 100000 (p (ρ v)).hs [] .nil ⟨hd,0,0⟩ c (den2 c) ⟨sub,n,t,[]⟩ = (p (ρ v)).P) :
  CutOk (XX w r g d os) B D U c hd sub im n t V r' N os' n' t' Z:=by
 obtain ⟨p,H⟩:=H
 have z:=H y
 rw [e] at z
 exact CutOk.of_runE MB hB hD hN hl b bz 100000 _ z (p r).pf
theorem val_ok {X:Env0} {B:Heap→Prop} {D U:Nat} {hd:Hd} {n t:Nat} {id:String} {args:Args} {b:Builtin} {v:Value} (he:entryFor table id = some b) (hb:b args = Made.tree (.val v)) :
  CutOk X B D U (.builtin id args) hd [] [] n t Unit (fun _=>.ok (.ret v)) (fun _=>[]) (fun _=>[]) (fun _=>n) (fun _=>t) (fun _=>[]):=by
 refine builtin_ok he (fun _ _ hp=>nomatch hp) (fun _=>rfl) fun h₀ h A IM hA Dh Q E hQ=>?_
 rw [hb]
 exact wpAny_pure (hQ () h Dh)
section
variable {X:Env0} {B:Heap→Prop} {D U:Nat} {hd:Hd} {n t:Nat} {a b:Int} {ta tb:Tok}
theorem ieq_t (h:a = b):CutOk X B D U (.builtin "int.__eq__" ⟨[.int a ta,.int b tb],[]⟩) hd [] [] n t Unit (fun _=>.ok (.ret (.bool true))) (fun _=>[]) (fun _=>[]) (fun _=>n) (fun _=>t) (fun _=>[]):=by
 have:=val_ok (X:=X) (B:=B) (D:=D) (U:=U) (hd:=hd) (n:=n) (t:=t) entry_int_eq (show Builtin.«int.__eq__» ⟨[.int a ta,.int b tb],[]⟩ = Made.tree (.val (.bool (a == b))) from rfl)
 rwa [show (a == b) = true by simpa using h] at this
theorem ieq_f (h:a≠b):CutOk X B D U (.builtin "int.__eq__" ⟨[.int a ta,.int b tb],[]⟩) hd [] [] n t Unit (fun _=>.ok (.ret (.bool false))) (fun _=>[]) (fun _=>[]) (fun _=>n) (fun _=>t) (fun _=>[]):=by
 have:=val_ok (X:=X) (B:=B) (D:=D) (U:=U) (hd:=hd) (n:=n) (t:=t) entry_int_eq (show Builtin.«int.__eq__» ⟨[.int a ta,.int b tb],[]⟩ = Made.tree (.val (.bool (a == b))) from rfl)
 rwa [show (a == b) = false by simpa using h] at this
theorem ilt_f (h:¬ a < b):CutOk X B D U (.builtin "int.__lt__" ⟨[.int a ta,.int b tb],[]⟩) hd [] [] n t Unit (fun _=>.ok (.ret (.bool false))) (fun _=>[]) (fun _=>[]) (fun _=>n) (fun _=>t) (fun _=>[]):=by
 have:=val_ok (X:=X) (B:=B) (D:=D) (U:=U) (hd:=hd) (n:=n) (t:=t) entry_int_lt (show Builtin.«int.__lt__» ⟨[.int a ta,.int b tb],[]⟩ = Made.tree (.val (.bool (decide (a < b)))) from rfl)
 rwa [show decide (a < b) = false by simpa using h] at this
theorem imod_ok (hb:b≠0):CutOk X B D U (.builtin "int.__mod__" ⟨[.int a ta,.int b tb],[]⟩) hd [] [] n t Unit (fun _=>.ok (.ret (.int (a.fmod b) t))) (fun _=>[]) (fun _=>[]) (fun _=>n) (fun _=>t+1) (fun _=>[]):=by
 refine builtin_ok PySem.F.entry_int_mod (fun _ _ hp=>nomatch hp) (fun _=>rfl) fun h₀ h A IM hA Dh Q E hQ=>?_
 have hc0:¬(b == 0) = true:=by simpa using hb
 have hQ':=hQ () h ⟨Dh.mem,Dh.size,Dh.fz⟩
 obtain ⟨pg,ww,gg,dd,oo⟩:=X
 show wpAny _ _ _ _ _ ⟨h,gg,dd,t,oo⟩
 wp_walk
 exact hQ'
theorem ifdiv_ok (hb:b≠0) (hp:¬(Builtin.divisionGoesByPylong a b) = true):CutOk X B D U (.builtin "int.__floordiv__" ⟨[.int a ta,.int b tb],[]⟩) hd [] [] n t Unit (fun _=>.ok (.ret (.int (a.fdiv b) t))) (fun _=>[]) (fun _=>[]) (fun _=>n) (fun _=>t+1) (fun _=>[]):=by
 refine builtin_ok PySem.F.entry_int_floordiv (fun _ _ hp=>nomatch hp) (fun _=>rfl) fun h₀ h A IM hA Dh Q E hQ=>?_
 have hc0:¬(b == 0) = true:=by simpa using hb
 have hc1:=hp
 have hQ':=hQ () h ⟨Dh.mem,Dh.size,Dh.fz⟩
 obtain ⟨pg,ww,gg,dd,oo⟩:=X
 show wpAny _ _ _ _ _ ⟨h,gg,dd,t,oo⟩
 wp_walk
 exact hQ'
end
theorem len_ok {X:Env0} {B:Heap→Prop} {D U:Nat} {hd:Hd} {n t:Nat} {H:Addr} {vs:List Value} {e:Nat} (hs:vs.length≤1000) :
  CutOk X B D U (.builtin "len" ⟨[.ref H],[]⟩) hd [] [(H,listO vs e)] n t Unit (fun _=>.ok (.ret (.int vs.length (t+1)))) (fun _=>[]) (fun _=>[]) (fun _=>n) (fun _=>t+2) (fun _=>[]):=by
 refine builtin_ok entry_len (fun _ _ hp=>nomatch hp) (fun _=>rfl) fun h₀ h A IM hA Dh Q E hQ=>?_
 have ho:=IM (H,listO vs e) (.head _)
 have hQ':=hQ () h ⟨Dh.mem,Dh.size,Dh.fz⟩
 have hl:(X.sh h t).heap.IsList H ⟨vs⟩:=⟨_,ho,rfl,e,rfl⟩
 unfold Builtin.«len»
 refine wpAny_bind (m:=oneArg "len" _) (wpAny_pure ?_)
 refine wpAny_bind (m:=callSpecial? (.ref H) (Str.ofString "__len__")) (wpAny_callSpecial?_slot (name:=Str.ofString "__len__") hl.typeIs slot_list_len
  (wpAny_call_entry slot_list_len hl.typeIs entry_list_len ?_ (args_list_len _)))
 show wpAny _ _ (do retInt (← seqSize H)) _ _ _
 unfold seqSize
 refine wpAny_bind (wpAny_bind (wpAny_load ho ?_))
 refine wpAny_pure (wpAny_bind (wpAny_mkInt (wpAny_pure ⟨_,rfl,?_⟩)))
 refine wpAny_bind (wpAny_holding (wpAny_pure ?_))
 refine wpAny_bind (wpAny_letGo ?_)
 show wpAny _ _ (if ((vs.length:Nat):Int) < 0 then _ else _) _ _ _
 rw [if_neg (by omega)]
 show wpAny _ _ (if ((vs.length:Nat):Int) ≥ 2 ^ 63 then _ else _) _ _ _
 rw [if_neg (by omega)]
 exact wpAny_bind (wpAny_mkInt (wpAny_pure hQ'))
theorem ladd_ok {X:Env0} {B:Heap→Prop} {D U:Nat} {hd:Hd} {n t:Nat} {H G:Addr} {vs ws:List Value} {e e':Nat} (hs:vs.length + ws.length≤1000) :
  CutOk X B D U (.builtin "list.__add__" ⟨[.ref H,.ref G],[]⟩) hd [] [(H,listO vs e),(G,listO ws e')] n t Unit (fun _=>.ok (.ret (.ref n))) (fun _=>[(n,listO (vs++ws) 0)]) (fun _=>[]) (fun _=>n+1) (fun _=>t) (fun _=>[]):=by
 refine builtin_ok PySem.F.entry_list_add (fun _ p hp=>?_) (fun _=>rfl) fun h₀ h A IM hA Dh Q E hQ=>?_
 ·rcases List.mem_singleton.mp hp with rfl
  exact Nat.le_refl _
 have ho:=IM (H,listO vs e) (.head _)
 have hg:=IM (G,listO ws e') (.tail _ (.head _))
 have hT:(X.sh h t).TypeIs (.ref G) "list":=⟨_,hg,rfl⟩
 unfold Builtin.«list.__add__»
 refine wpAny_bind (m:=slotArgs _ _ _) (wpAny_pure ?_)
 show wpAny _ _ (isInstance (.ref G) (.type "list") >>= _) _ _ _
 refine wpAny_bind (wpAny_isInstance (b:=true) hT (by rw [isSubtype_type]; kernel_rfl) ?_)
 rw [if_neg (by decide)]
 unfold Builtin.List.listItems
 refine wpAny_bind (wpAny_bind (wpAny_seqItems ho rfl (wpAny_pure ?_)))
 refine wpAny_bind (wpAny_bind (wpAny_seqItems hg rfl (wpAny_pure ?_)))
 refine wpAny_bind (wpAny_newObj_type (wpAny_pure ?_) (by show Array.size _≤sizeLine; rw [sizeLine_eq]; simp; omega))
 have e0:((⟨vs⟩:Array Value)++(⟨ws⟩:Array Value)) = ⟨vs++ws⟩:=by simp
 rw [e0]
 have m1:=Dh.mem.alloc (o:=listO (vs++ws) 0) rfl
 have e1:h.objs.size = n:=Dh.size
 rw [e1] at m1
 have key:=hQ () _ ⟨m1,by rw [Heap.size_push,e1],fun _ hp=>(nomatch hp)⟩
 show Q (.done (.ret (.ref h.objs.size))) _
 rw [e1]
 exact key
theorem fits_small {k:Nat} (hk:k≤1000):Builtin.List.listFitsIndex (k:Int) = true:=by
 have h0:(0:Int)≤(k:Int):=Int.natCast_nonneg k
 have hf:(k:Int) < 2 ^ 63:=Int.lt_of_le_of_lt (Int.ofNat_le.mpr hk) (by decide)
 exact fitsIndex_of h0 hf
theorem lget_ok {X:Env0} {B:Heap→Prop} {D U:Nat} {hd:Hd} {n t k:Nat} {H:Addr} {vs:List Value} {e:Nat} {tk:Tok} {x:Value} (hx:vs[k]? = some x) (hk:k≤1000) :
  CutOk X B D U (.builtin "list.__getitem__" ⟨[.ref H,.int k tk],[]⟩) hd [] [(H,listO vs e)] n t Unit (fun _=>.ok (.ret x)) (fun _=>[]) (fun _=>[]) (fun _=>n) (fun _=>t) (fun _=>[]):=by
 refine builtin_ok entry_list_getitem (fun _ p hp=>nomatch hp) (fun _=>rfl) fun h₀ h A IM hA Dh Q E hQ=>?_
 have ho:=IM (H,listO vs e) (.head _)
 have hQ':=hQ () h ⟨Dh.mem,Dh.size,Dh.fz⟩
 have hf:=fits_small hk
 clear hk
 generalize hk':(k:Int) = kk at hf ⊢
 unfold Builtin.«list.__getitem__»
 refine wpAny_bind (m:=selfAndOne _ _) (wpAny_pure ?_)
 refine wpAny_bind (m:=Builtin.List.listSubscript? _) (wpAny_listSubscript_int hf ?_)
 clear hf
 subst hk'
 show wpAny _ _ ((seqItemAt H k >>= fun r=>pure (r.map (k,·))) >>= _) _ _ _
 refine wpAny_bind (wpAny_bind (wpAny_seqItemAt ho rfl (wpAny_pure ?_)))
 rw [List.getElem?_toArray,hx]
 first
  | exact wpAny_bind (wpAny_pure (wpAny_pure hQ'))
  | exact wpAny_pure hQ'
section
variable {T dT H e N t:Nat} {h1:Int} {t1:Tok} {vs:List Value}
include MB hB in
theorem items_ok (hD:Lim D U 60) (hv:vs.length≤1000) :
  CutOk (XX w r g d os) B D U (.call (.ref 146) ⟨[.ref (T+355)],[]⟩) none [] [(T+355,hdrO dT),(dT+355,hdrD h1 t1 H),(H+355,listO vs e)] (N+355) (t) (Unit) (fun v=>.ok (.ret (.ref (N+357)))) (fun v=>[(N+357,listO vs 0)]) (fun v=>[]) (fun v=>N+358) (fun v=>t+2) (fun v=>[]):=by
 refine CutOk.of_pk MB hB hD.lo (by intro v p hp; simp only [List.mem_cons,List.not_mem_nil,or_false] at hp; rcases hp with rfl <;> (dsimp only at *; omega)) (fun _=>rfl) 1 0 ?_
 intro S₀
 let P₀:Rows→Pk (XX w r g d os) B D U S₀ []:=fun x₀=>(.a (d6 25 0x6166640220002100021101100) (ix [H+355,dT+355,T+355,N+355] 12 0x333222210000) 0 1 1 3 [1] [4,1] (copy_ok (hd:=none) (H:=H+355) (S:=N+356) (e:=e) (n:=N+357) (t:=t+2) (vs:=vs) hv) fun _=>(.f [1] [] ()))
 exact ⟨P₀,by intro x; kernel_rfl⟩
noncomputable abbrev iniCode (w:World) (r:Rows) (I F0:Nat):Code:=.forLoop (forT (nthS (ifB (nthS (fnBody (KF (pr w r)) 76) 3)) 0)) (.ref (I+355)) (forB (nthS (ifB (nthS (fnBody (KF (pr w r)) 76) 3)) 0)) (forO (nthS (ifB (nthS (fnBody (KF (pr w r)) 76) 3)) 0)) { scope:=fnScope (KF (pr w r)) 76,locals:=F0+355,globals:=3,cells:=[],qual:=(⟨#[72,101,97,100,101,114,115,46,95,95,105,110,105,116,95,95,46,60,108,111,99,97,108,115,62,46]⟩:Str),func:=some 76,code:=.ref 75,frame:=some (F0+355),builtins:=0 }
noncomputable abbrev ini0 (T H:Nat) (hs hh:Int) (ts th:Tok):List DictEntry:=[dE hs (⟨#[115,101,108,102]⟩:Str) ts (.ref (T+355)),dE hh (⟨#[104,101,97,100,101,114,115]⟩:Str) th (.ref (H+355))]
noncomputable abbrev ini1 (T H:Nat) (hs hh hk hv:Int) (ts th tk tv:Tok) (vk vv:Value):List DictEntry:=[dE hs (⟨#[115,101,108,102]⟩:Str) ts (.ref (T+355)),dE hh (⟨#[104,101,97,100,101,114,115]⟩:Str) th (.ref (H+355)),dE hk (⟨#[107]⟩:Str) tk vk,dE hv (⟨#[118]⟩:Str) tv vv]
noncomputable def Val3 (x:Str):Prop:=x = sa∨x = sb∨x = sc
variable {I F0 P i ep N0:Nat} {hs hh:Int} {ts th tx ty:Tok} {x y:Str}
include MB hB in
theorem ini_t0 (hD:Lim D U 60) (hN:N0≤N) (hx:Key x) (hy:Val3 y) (hi:vs[i]? = some (.ref (P+355))) (IH:∀ (hk1 hv1:Int) (tk1 tv1:Tok) (vk1 vv1:Value) (ep1 N1 t2:Nat),N0≤N1→CutOk (XX w r g d os) B D U (iniCode w r I F0) none [(I+355,iterO (H+355) (i+1)),(F0+355,frO (ini1 T H hs hh hk1 hv1 ts th tk1 tv1 vk1 vv1) ep1)] [(H+355,listO vs e),(T+355,hdrO dT),(dT+355,hdrD h1 t1 H)] (N1+355) t2 ({v:GaV // N0≤v.n}) (fun _=>.ok .next) (fun _=>[]) (fun v=>[iterE v.1.i,v.1.od]) (fun v=>v.1.n+355) (fun v=>v.1.t) (fun _=>[])) :
  CutOk (XX w r g d os) B D U (iniCode w r I F0) none [(I+355,iterO (H+355) i),(F0+355,frO (ini0 T H hs hh ts th) ep)] [(P+355,tupO [.str x tx,.str y ty]),(H+355,listO vs e),(T+355,hdrO dT),(dT+355,hdrD h1 t1 H)] (N+355) (t) ({v:GaV // N0≤v.n}) (fun v=>.ok .next) (fun v=>[]) (fun v=>[iterE v.1.i,v.1.od]) (fun v=>v.1.n+355) (fun v=>v.1.t) (fun v=>[]):=by
 refine .of_q MB hB hD.lo 24 0 ?_
 k_data
 let P₀:Rows→Pk (XX w r g d os) B D U S₀ []:=fun x₀=>(.a [1,1,1] [I+355,I+355] 1 0 0 0 [] [2] (next_some (hd:=none) (I:=I+355) (H:=H+355) (i:=i) (e:=e) (n:=N+355) (t:=t) (vs:=vs) (v:=.ref (P+355)) hi) fun _=>(.a (d6 58 0x986000060006000699999111211111111211111111211111111212221) (ix [F0+355,dT+355,T+355,N+357,N+355,P+355,I+355] 39 0x655554444454444445444444544300000222210) 0 0 0 0 [] [] (convT_ok (k:=x) (tk:=tx) (T:=T) (N:=N+3) (t:=t+2) MB1 hB1 hD.up (.inr hx)) fun _=>(.a (d6 18 0x98600006000600069) (ix [F0+355,dT+355,T+355] 7 0x222210) 0 0 0 0 [] [] (convF_ok (k:=y) (tk:=ty) (T:=T) (N:=N+4) (t:=t+6) MB1 hB1 hD.up hy) fun _=>(.o [] [] 24 0 0 0 [] [2,4,6] (IH (hk1:=kh w r ⟨#[107]⟩) (hv1:=kh w r ⟨#[118]⟩) (tk1:=t) (tv1:=t+1) (vk1:=.str x tx) (vv1:=.str y ty) (ep1:=ep+2) (N1:=N+5) (t2:=t+10) (by omega)) fun v3=>(.e v3)))))
 exact ⟨P₀,by intro ⟨x1,x2,x3,x4⟩; cases x2 <;> kernel_rfl⟩
variable {hk hv:Int} {tk tv:Tok} {vk vv:Value}
include MB hB in
theorem ini_t1 (hD:Lim D U 60) (hN:N0≤N) (hx:Key x) (hy:Val3 y) (hi:vs[i]? = some (.ref (P+355))) (IH:∀ (hk1 hv1:Int) (tk1 tv1:Tok) (vk1 vv1:Value) (ep1 N1 t2:Nat),N0≤N1→CutOk (XX w r g d os) B D U (iniCode w r I F0) none [(I+355,iterO (H+355) (i+1)),(F0+355,frO (ini1 T H hs hh hk1 hv1 ts th tk1 tv1 vk1 vv1) ep1)] [(H+355,listO vs e),(T+355,hdrO dT),(dT+355,hdrD h1 t1 H)] (N1+355) t2 ({v:GaV // N0≤v.n}) (fun _=>.ok .next) (fun _=>[]) (fun v=>[iterE v.1.i,v.1.od]) (fun v=>v.1.n+355) (fun v=>v.1.t) (fun _=>[])) :
  CutOk (XX w r g d os) B D U (iniCode w r I F0) none [(I+355,iterO (H+355) i),(F0+355,frO (ini1 T H hs hh hk hv ts th tk tv vk vv) ep)] [(P+355,tupO [.str x tx,.str y ty]),(H+355,listO vs e),(T+355,hdrO dT),(dT+355,hdrD h1 t1 H)] (N+355) (t) ({v:GaV // N0≤v.n}) (fun v=>.ok .next) (fun v=>[]) (fun v=>[iterE v.1.i,v.1.od]) (fun v=>v.1.n+355) (fun v=>v.1.t) (fun v=>[]):=by
 refine .of_q MB hB hD.lo 24 0 ?_
 k_data
 let P₀:Rows→Pk (XX w r g d os) B D U S₀ []:=fun x₀=>(.a [1,1,1] [I+355,I+355] 1 0 0 0 [] [2] (next_some (hd:=none) (I:=I+355) (H:=H+355) (i:=i) (e:=e) (n:=N+355) (t:=t) (vs:=vs) (v:=.ref (P+355)) hi) fun _=>(.a (d6 58 0x986000060006000699999111211111111211111111211111111212221) (ix [F0+355,dT+355,T+355,N+357,N+355,P+355,I+355] 39 0x655554444454444445444444544300000222210) 0 0 0 0 [] [] (convT_ok (k:=x) (tk:=tx) (T:=T) (N:=N+3) (t:=t+2) MB1 hB1 hD.up (.inr hx)) fun _=>(.a (d6 18 0x98600006000600069) (ix [F0+355,dT+355,T+355] 7 0x222210) 0 0 0 0 [] [] (convF_ok (k:=y) (tk:=ty) (T:=T) (N:=N+4) (t:=t+6) MB1 hB1 hD.up hy) fun _=>(.o [] [] 24 0 0 0 [] [2,4,6] (IH (hk1:=hk) (hv1:=hv) (tk1:=tk) (tv1:=tv) (vk1:=.str x tx) (vv1:=.str y ty) (ep1:=ep) (N1:=N+5) (t2:=t+10) (by omega)) fun v3=>(.e v3)))))
 exact ⟨P₀,by intro ⟨x1,x2,x3,x4⟩; cases x2 <;> kernel_rfl⟩
variable {od:Obj}
include MB hB in
theorem ini_end (hD:Lim D U 60) (hN:N0≤N) (hi:vs[i]? = none) :
  CutOk (XX w r g d os) B D U (iniCode w r I F0) none [(I+355,iterO (H+355) i),(F0+355,od)] [(H+355,listO vs e)] (N+355) (t) ({v:GaV // N0≤v.n}) (fun v=>.ok .next) (fun v=>[]) (fun v=>[iterE v.1.i,v.1.od]) (fun v=>v.1.n+355) (fun v=>v.1.t) (fun v=>[]):=by
 refine .of_q MB hB hD.lo 12 0 ?_
 intro S₀
 let P₀:Rows→Pk (XX w r g d os) B D U S₀ []:=fun x₀=>(.a [1,1,1] [I+355,I+355] 1 0 0 0 [] [0] (next_none (I:=I+355) (H:=H+355) (i:=i) (e:=e) (n:=N+355) (t:=t) (vs:=vs) hi) fun _=>(.f [1,1] [N+356] ⟨⟨od,0,i,N+2,t⟩,by show N0≤N+2; omega⟩))
 exact ⟨P₀,by intro x; kernel_rfl⟩
section
variable {w:World} {r:Rows} {g:Array GenState} {d:Drawn} {os:OsState} {B:Heap→Prop} {D U:Nat}
noncomputable def Good (e:Ent):Prop:=Key e.k∧∃ y ty,Val3 y∧e.x = .str y ty
theorem getE {es:List Ent} {i m:Nat} (h:es.length = i + (m+1)):∃ x,es[i]? = some x∧x∈es∧(es.map Ent.v)[i]? = some (.ref (x.P+355))∧es.drop i = x :: es.drop (i+1):=by
 have hlt:i < es.length:=by omega
 refine ⟨es[i],List.getElem?_eq_getElem hlt,List.getElem_mem hlt,?_,List.drop_eq_getElem_cons hlt⟩
 rw [List.getElem?_map,List.getElem?_eq_getElem hlt]; rfl
theorem ini_loop1 (MB:Mono B) (hB:∀ h,B h→(KF (pr w r)).In h) (hD:Lim D U 60) {es:List Ent} (hg:∀ x∈es,Good x) (hp:∀ h,B h→PairsIn es h) {I F0 T dT H e N0:Nat} {h1 hs hh:Int} {t1 ts th:Tok} :
  ∀ (m i:Nat),es.length = i + m→∀ (hk hv:Int) (tk tv:Tok) (vk vv:Value) (ep N t:Nat),N0≤N →
  CutOk (XX w r g d os) B D U (iniCode w r I F0) none [(I+355,iterO (H+355) i),(F0+355,frO (ini1 T H hs hh hk hv ts th tk tv vk vv) ep)] [(H+355,listO (es.map Ent.v) e),(T+355,hdrO dT),(dT+355,hdrD h1 t1 H)] (N+355) t {v:GaV // N0≤v.n} (fun _=>.ok .next) (fun _=>[]) (fun v=>[iterE v.1.i,v.1.od]) (fun v=>v.1.n+355) (fun v=>v.1.t) (fun _=>[]):=by
 intro m
 induction m with
 | zero =>
  intro i hi hk hv tk tv vk vv ep N t hN
  exact CutOk.wk (fun h b i=>⟨b,.cons (i.nth 0 rfl) .nil⟩) (ini_end MB hB hD hN (by simp; omega))
 | succ m ih =>
  intro i hi hk hv tk tv vk vv ep N t hN
  obtain ⟨x,hx,hm,hv',hd⟩:=getE hi
  obtain ⟨kx,y,ty,hy,he⟩:=hg x hm
  have hP:∀ h,B h→h.get? (x.P+355) = some (tupO [.str x.k x.tk,.str y ty]):=fun h b=>by rw [← he]; exact hp h b x hm
  exact CutOk.wk (fun h b i=>⟨b,.cons (hP h b) (.cons (i.nth 0 rfl) (.cons (i.nth 1 rfl) (.cons (i.nth 2 rfl) .nil)))⟩) (ini_t1 MB hB hD hN kx hy hv' (fun hk hv tk tv vk vv ep N t q=>ih (i+1) (by omega) hk hv tk tv vk vv ep N t q))
theorem ini_loop0 (MB:Mono B) (hB:∀ h,B h→(KF (pr w r)).In h) (hD:Lim D U 60) {es:List Ent} (hg:∀ x∈es,Good x) (hp:∀ h,B h→PairsIn es h) {I F0 T dT H e:Nat} {h1 hs hh:Int} {t1 ts th:Tok} {ep N t:Nat} :
  CutOk (XX w r g d os) B D U (iniCode w r I F0) none [(I+355,iterO (H+355) 0),(F0+355,frO (ini0 T H hs hh ts th) ep)] [(H+355,listO (es.map Ent.v) e),(T+355,hdrO dT),(dT+355,hdrD h1 t1 H)] (N+355) t {v:GaV // N≤v.n} (fun _=>.ok .next) (fun _=>[]) (fun v=>[iterE v.1.i,v.1.od]) (fun v=>v.1.n+355) (fun v=>v.1.t) (fun _=>[]):=by
 rcases Nat.eq_zero_or_pos es.length with h0 | h0
 ·exact CutOk.wk (fun h b i=>⟨b,.cons (i.nth 0 rfl) .nil⟩) (ini_end (i:=0) MB hB hD (Nat.le_refl N) (by rw [List.length_eq_zero_iff] at h0; simp [h0]))
 ·obtain ⟨x,hx,hm,hv',hd⟩:=getE (es:=es) (i:=0) (m:=es.length - 1) (by omega)
  obtain ⟨kx,y,ty,hy,he⟩:=hg x hm
  have hP:∀ h,B h→h.get? (x.P+355) = some (tupO [.str x.k x.tk,.str y ty]):=fun h b=>by rw [← he]; exact hp h b x hm
  exact CutOk.wk (fun h b i=>⟨b,.cons (hP h b) (.cons (i.nth 0 rfl) (.cons (i.nth 1 rfl) (.cons (i.nth 2 rfl) .nil)))⟩) (ini_t0 (i:=0) MB hB hD (Nat.le_refl N) kx hy hv' (fun hk hv tk tv vk vv ep N t q=>ini_loop1 MB hB hD hg hp (es.length - 1) 1 (by omega) hk hv tk tv vk vv ep N t q))
end
end
noncomputable def eqL:List Nat→List Nat→Bool
 | [],[] => true
 | a :: l,b :: m => match Nat.beq a b with
  | true => eqL l m
  | false => false
 | _,_ => false
theorem eqL_iff:∀ {l m:List Nat},eqL l m = true↔l = m
 | [],[] => by simp [eqL]
 | [],_ :: _ => by simp [eqL]
 | _ :: _,[] => by simp [eqL]
 | a :: l,b :: m => by
  unfold eqL
  cases h:Nat.beq a b with
  | true =>
   have:=Nat.eq_of_beq_eq_true h
   subst this
   simp [eqL_iff]
  | false =>
   have:a≠b:=fun e=>by subst e; rw [Nat.beq_refl] at h; cases h
   simp [this]
noncomputable def kIs (s:Str):Value→Bool
 | .str x _ => eqL x.cps.toList s.cps.toList
 | _ => false
theorem kIs_eq (s:Str) (v:Value):kIs s v = v.isStr s:=by
 cases v <;> try rfl
 rename_i x t
 show eqL x.cps.toList s.cps.toList = (x == s)
 cases h:eqL x.cps.toList s.cps.toList with
 | true =>
  have:=eqL_iff.mp h
  have e:x = s:=by
   cases x; cases s
   simp only [Str.mk.injEq]
   exact Array.toList_inj.mp this
  subst e; simp
 | false =>
  have:x≠s:=fun e=>by subst e; rw [eqL_iff.mpr rfl] at h; cases h
  simpa using this
theorem kIs_str {s:Str} {v:Value} (h:kIs s v = true):∃ t,v = .str s t:=by
 rw [kIs_eq] at h
 cases v <;> try (simp [Value.isStr] at h)
 exact ⟨_,by rw [h]⟩
noncomputable def dlook:List DictEntry→Str→Value
 | [],_ => .none
 | e :: r,s => match kIs s e.key with
  | true => e.val
  | false => dlook r s
noncomputable def dhas:List DictEntry→Str→Bool
 | [],_ => false
 | e :: r,s => match kIs s e.key with
  | true => true
  | false => dhas r s
noncomputable def dput:List DictEntry→Str→Value→List DictEntry
 | [],_,_ => []
 | e :: r,s,v => match kIs s e.key with
  | true => ⟨e.hash,e.key,v⟩ :: r
  | false => e :: dput r s v
noncomputable def dstr:List DictEntry→Bool
 | [] => true
 | e :: r => match e.key with
  | .str _ _ => dstr r
  | _ => false
noncomputable abbrev dictO (es:List DictEntry) (ep:Nat):Obj:=⟨.type "dict",none,.dict ⟨es⟩ ep,#[]⟩
theorem dstr_all:∀ {es:List DictEntry},dstr es = true→es.all (fun e=>isExactStrKey e.key) = true
 | [],_ => rfl
 | e :: r,h => by
  unfold dstr at h
  split at h
  ·rename_i x t hk
   rw [List.all_cons,hk,dstr_all h]; rfl
  ·cases h
theorem dhas_idx:∀ {es:List DictEntry} {s:Str},dhas es s = true→∃ i e,es.findIdx? (fun e=>e.key.isStr s) = some i∧es[i]? = some e∧(∃ t,e.key = .str s t)∧dlook es s = e.val∧∀ v,dput es s v = es.modify i (fun e=>{ e with val:=v })
 | [],_,h => by cases h
 | e :: r,s,h => by
  unfold dhas at h
  cases hk:kIs s e.key with
  | true =>
   refine ⟨0,e,?_,rfl,kIs_str hk,?_,fun v=>?_⟩
   ·rw [List.findIdx?_cons,← kIs_eq,hk]; rfl
   ·unfold dlook; rw [hk]
   ·unfold dput; rw [hk]; rfl
  | false =>
   rw [hk] at h
   obtain ⟨i,e',h1,h2,h3,h4,h5⟩:=dhas_idx (es:=r) (s:=s) h
   refine ⟨i+1,e',?_,by simpa using h2,h3,?_,fun v=>?_⟩
   ·rw [List.findIdx?_cons,← kIs_eq,hk]; simp [h1]
   ·unfold dlook; rw [hk]; exact h4
   ·unfold dput; rw [hk]; simp only; rw [h5 v]; rfl
section
variable {prog:Program} {w:World} {A:Around} {E:Value→Shared→Prop} {s:Shared}
theorem wp_find {d:Addr} {es:List DictEntry} {ep i:Nat} {k:Str} {t:Tok} {h:Int} {e:DictEntry} {Q:Option Nat→Shared→Prop} (ho:s.heap.get? d = some (dictO es ep)) (ha:dstr es = true)
  (hi:es.findIdx? (fun e=>e.key.isStr k) = some i) (he:es[i]? = some e) (hk:∃ t,e.key = .str k t) (hQ:Q (some i) s):wpAny (model prog w) A (dictFind d (.str k t) h) Q E s:=by
 unfold dictFind
 try with_reducible refine wpAny_holding ?_
 refine wpAny_bind (wpAny_dictEntries ho rfl ?_)
 dsimp only
 rw [if_pos (by simpa using dstr_all ha)]
 unfold foundByValue
 have hi':(⟨es⟩:Array DictEntry).findIdx? (fun e=>e.key.isStr k) = some i:=by simpa using hi
 rw [hi']
 dsimp only
 have he':(⟨es⟩:Array DictEntry)[i]? = some e:=by simpa using he
 rw [he']
 obtain ⟨t',hk⟩:=hk
 refine wpAny_bind (wpAny_dictEpoch ho rfl ?_)
 rw [hk]
 refine wpAny_bind (wpAny_eqBool_str ?_)
 refine wpAny_bind (wpAny_dictEpoch ho rfl ?_)
 rw [if_neg (by simp),decide_eq_true rfl]
 first
  | exact wpAny_bind (wpAny_rule (wpAny_pure hQ))
  | exact wpAny_bind (wpAny_rule (wpAny_pure (wpAny_pure hQ)))
theorem wp_get {d:Addr} {es:List DictEntry} {ep:Nat} {k:Str} {t:Tok} {Q:Option Value→Shared→Prop} (ho:s.heap.get? d = some (dictO es ep)) (ha:dstr es = true) (hh:dhas es k = true)
  (hQ:Q (some (dlook es k)) { s with toks:=s.toks+1 }):wpAny (model prog w) A (dictGet d (.str k t)) Q E s:=by
 obtain ⟨i,e,h1,h2,h3,h4,h5⟩:=dhas_idx hh
 unfold dictGet
 try with_reducible refine wpAny_holding ?_
 refine wpAny_bind (wpAny_pyHash_str (wpAny_bind (wp_find (s:={ s with toks:=s.toks+1 }) ho ha h1 h2 h3 ?_)))
 refine wpAny_bind (wpAny_dictEntries (s:={ s with toks:=s.toks+1 }) ho rfl (wpAny_pure ?_))
 have he':(⟨es⟩:Array DictEntry)[i]? = some e:=by simpa using h2
 rw [he',Option.map_some,← h4]
 exact hQ
theorem wp_set {d:Addr} {es:List DictEntry} {ep:Nat} {k:Str} {t:Tok} {v:Value} {Q:Unit→Shared→Prop} (ho:s.heap.get? d = some (dictO es ep)) (ha:dstr es = true) (hh:dhas es k = true)
  (hQ:∀ f,f (dictO es ep) = dictO (dput es k v) ep→Q () { s with heap:=s.heap.update d f,toks:=s.toks+1 }):wpAny (model prog w) A (dictSet d (.str k t) v) Q E s:=by
 obtain ⟨i,e,h1,h2,h3,h4,h5⟩:=dhas_idx hh
 unfold dictSet
 try with_reducible refine wpAny_holding ?_
 refine wpAny_bind (wpAny_pyHash_str ?_)
 unfold dictSetHashed
 try with_reducible refine wpAny_holding ?_
 refine wpAny_bind (wp_find (s:={ s with toks:=s.toks+1 }) ho ha h1 h2 h3 ?_)
 refine wpAny_bind (wpAny_rule (wpAny_bind (wpAny_updateDict (s:={ s with toks:=s.toks+1 }) ho rfl (wpAny_point (hQ _ ?_)))))
 rw [h5 v]
 show (⟨.type "dict",none,.dict ((⟨es⟩:Array DictEntry).modify i _) ep,#[]⟩:Obj) = _
 congr 2
 simp [List.modify_toArray]
end
section
variable {X:Env0} {B:Heap→Prop} {D U:Nat} {hd:Hd} {n t:Nat} {H:Addr} {es:List DictEntry} {ep:Nat} {k:Str} {tk:Tok}
theorem dget_ok (ha:dstr es = true) (hh:dhas es k = true) :
  CutOk X B D U (.builtin "dict.__getitem__" ⟨[.ref H,.str k tk],[]⟩) hd [] [(H,dictO es ep)] n t Unit (fun _=>.ok (.ret (dlook es k))) (fun _=>[]) (fun _=>[]) (fun _=>n) (fun _=>t+1) (fun _=>[]):=by
 refine builtin_ok entry_dict_getitem (fun _ p hp=>nomatch hp) (fun _=>rfl) fun h₀ h A IM hA Dh Q E hQ=>?_
 have ho:=IM (H,dictO es ep) (.head _)
 have hQ':=hQ () h ⟨Dh.mem,Dh.size,Dh.fz⟩
 unfold Builtin.«dict.__getitem__»
 refine wpAny_bind (m:=Builtin.Dict.keyArg _ _) (wpAny_pure ?_)
 exact wpAny_bind (wp_get ho ha hh (wpAny_pure hQ'))
theorem dgetm_ok (ha:dstr es = true) (hh:dhas es k = true) :
  CutOk X B D U (.builtin "dict.get" ⟨[.ref H,.str k tk],[]⟩) hd [] [(H,dictO es ep)] n t Unit (fun _=>.ok (.ret (dlook es k))) (fun _=>[]) (fun _=>[]) (fun _=>n) (fun _=>t+1) (fun _=>[]):=by
 refine builtin_ok PySem.F.entry_dict_get (fun _ p hp=>nomatch hp) (fun _=>rfl) fun h₀ h A IM hA Dh Q E hQ=>?_
 have ho:=IM (H,dictO es ep) (.head _)
 have hQ':=hQ () h ⟨Dh.mem,Dh.size,Dh.fz⟩
 unfold Builtin.«dict.get»
 refine wpAny_bind (m:=Builtin.Dict.keyAndDefault _ _) (wpAny_pure ?_)
 exact wpAny_bind (wp_get ho ha hh (wpAny_pure hQ'))
theorem dset_ok {v:Value} (ha:dstr es = true) (hh:dhas es k = true) :
  CutOk X B D U (.builtin "dict.__setitem__" ⟨[.ref H,.str k tk,v],[]⟩) hd [(H,dictO es ep)] [] n t Unit (fun _=>.ok (.ret .none)) (fun _=>[]) (fun _=>[dictO (dput es k v) ep]) (fun _=>n) (fun _=>t+1) (fun _=>[]):=by
 refine builtin_ok entry_dict_setitem (fun _ p hp=>nomatch hp) (fun _=>rfl) fun h₀ h A IM hA Dh Q E hQ=>?_
 have ho:=Dh.mem.at 0 H (dictO es ep) rfl
 unfold Builtin.«dict.__setitem__»
 have hT:(X.sh h t).TypeIs (.ref H) "dict":=⟨_,ho,rfl⟩
 have hno:∀ (Q:Unit→Shared→Prop),Q () (X.sh h t)→wpAny (model X.prog X.w) A (Builtin.Dict.notOrdered "__setitem__" ⟨[.ref H,.str k tk,v],[]⟩) Q E (X.sh h t):=fun Q q=>by
  unfold Builtin.Dict.notOrdered
  rw [if_pos (by decide)]
  refine wpAny_bind (wpAny_typeOf hT ?_)
  rw [if_neg (by decide)]
  exact wpAny_pure q
 refine wpAny_bind (m:=Builtin.Dict.notOrdered _ _) (hno _ ?_)
 rw [if_neg (by simp)]
 refine wpAny_bind (m:=slotArgs _ _ _) (wpAny_pure ?_)
 refine wpAny_bind (m:=Builtin.Dict.addrOf _) (wpAny_pure ?_)
 refine wpAny_bind (wp_set ho ha hh fun f hf=>wpAny_pure (hQ () _ ?_))
 refine ⟨?_,by rw [(Heap.SameBut.update ..).1]; exact Dh.size,fun _ hp=>(nomatch hp)⟩
 have:=Dh.mem.update (i:=0) (a:=H) (o:=dictO es ep) (f:=f) rfl (by rw [hf]; rfl)
 rw [hf] at this
 exact this
end
section
variable {X:Env0} {B:Heap→Prop} {D U:Nat} {hd:Hd} {n t:Nat} {a b:Int} {ta tb:Tok}
theorem igt_t (h:a > b):CutOk X B D U (.builtin "int.__gt__" ⟨[.int a ta,.int b tb],[]⟩) hd [] [] n t Unit (fun _=>.ok (.ret (.bool true))) (fun _=>[]) (fun _=>[]) (fun _=>n) (fun _=>t) (fun _=>[]):=by
 have:=val_ok (X:=X) (B:=B) (D:=D) (U:=U) (hd:=hd) (n:=n) (t:=t) PySem.F.entry_int_gt (show Builtin.«int.__gt__» ⟨[.int a ta,.int b tb],[]⟩ = Made.tree (.val (.bool (decide (a > b)))) from rfl)
 rwa [show decide (a > b) = true by simpa using h] at this
theorem igt_f (h:¬ a > b):CutOk X B D U (.builtin "int.__gt__" ⟨[.int a ta,.int b tb],[]⟩) hd [] [] n t Unit (fun _=>.ok (.ret (.bool false))) (fun _=>[]) (fun _=>[]) (fun _=>n) (fun _=>t) (fun _=>[]):=by
 have:=val_ok (X:=X) (B:=B) (D:=D) (U:=U) (hd:=hd) (n:=n) (t:=t) PySem.F.entry_int_gt (show Builtin.«int.__gt__» ⟨[.int a ta,.int b tb],[]⟩ = Made.tree (.val (.bool (decide (a > b)))) from rfl)
 rwa [show decide (a > b) = false by simpa using h] at this
theorem imodN_ok {x y:Nat} (hy:y≠0):CutOk X B D U (.builtin "int.__mod__" ⟨[.int x ta,.int y tb],[]⟩) hd [] [] n t Unit (fun _=>.ok (.ret (.int ((x % y:Nat):Int) t))) (fun _=>[]) (fun _=>[]) (fun _=>n) (fun _=>t+1) (fun _=>[]):=by
 have:=imod_ok (X:=X) (B:=B) (D:=D) (U:=U) (hd:=hd) (n:=n) (t:=t) (a:=x) (b:=y) (ta:=ta) (tb:=tb) (by omega)
 rw [show ((x:Int).fmod (y:Int)) = ((x % y:Nat):Int) by rw [Int.fmod_eq_emod_of_nonneg _ (by omega)]; rfl] at this
 exact this
theorem ifdivN_ok {x y:Nat} (hy:y≠0) (hs:y≤100000):CutOk X B D U (.builtin "int.__floordiv__" ⟨[.int x ta,.int y tb],[]⟩) hd [] [] n t Unit (fun _=>.ok (.ret (.int ((x / y:Nat):Int) t))) (fun _=>[]) (fun _=>[]) (fun _=>n) (fun _=>t+1) (fun _=>[]):=by
 have hp:Builtin.divisionGoesByPylong (x:Int) (y:Int) = false:=PyProof.noPylong_small (by omega)
 have:=ifdiv_ok (X:=X) (B:=B) (D:=D) (U:=U) (hd:=hd) (n:=n) (t:=t) (a:=x) (b:=y) (ta:=ta) (tb:=tb) (by omega) (by rw [hp]; exact Bool.false_ne_true)
 rw [show ((x:Int).fdiv (y:Int)) = ((x / y:Nat):Int) by rw [Int.fdiv_eq_ediv_of_nonneg _ (by omega)]; rfl] at this
 exact this
theorem ige_t (h:a ≥ b):CutOk X B D U (.builtin "int.__ge__" ⟨[.int a ta,.int b tb],[]⟩) hd [] [] n t Unit (fun _=>.ok (.ret (.bool true))) (fun _=>[]) (fun _=>[]) (fun _=>n) (fun _=>t) (fun _=>[]):=by
 have:=val_ok (X:=X) (B:=B) (D:=D) (U:=U) (hd:=hd) (n:=n) (t:=t) PySem.F.entry_int_ge (show Builtin.«int.__ge__» ⟨[.int a ta,.int b tb],[]⟩ = Made.tree (.val (.bool (decide (a ≥ b)))) from rfl)
 rwa [show decide (a ≥ b) = true by simpa using h] at this
theorem ige_f (h:¬ a ≥ b):CutOk X B D U (.builtin "int.__ge__" ⟨[.int a ta,.int b tb],[]⟩) hd [] [] n t Unit (fun _=>.ok (.ret (.bool false))) (fun _=>[]) (fun _=>[]) (fun _=>n) (fun _=>t) (fun _=>[]):=by
 have:=val_ok (X:=X) (B:=B) (D:=D) (U:=U) (hd:=hd) (n:=n) (t:=t) PySem.F.entry_int_ge (show Builtin.«int.__ge__» ⟨[.int a ta,.int b tb],[]⟩ = Made.tree (.val (.bool (decide (a ≥ b)))) from rfl)
 rwa [show decide (a ≥ b) = false by simpa using h] at this
end
noncomputable abbrev seto (es:Array (Int × Value)) (ep:Nat) (tb:SetTable):Obj:=⟨.type "set",none,.set es ep tb,#[]⟩
structure SV where
 es:Array (Int × Value)
 ep:Nat
 tb:SetTable
noncomputable def SetIs (X:Env0) (es:Array (Int × Value)) (tb:SetTable) (S:Str→Bool) (n:Nat):Prop :=
 ElemsOf (strKind X.prog X.w) es.toList∧(∀ k,S k = true↔∃ e∈es.toList,(strKind X.prog X.w).is k e.2 = true)∧es.size < scanBound∧tb.fits es.size = true∧es.size = n
theorem SetIs.of {X:Env0} {es:Array (Int × Value)} {ep:Nat} {tb:SetTable} {S:Str→Bool} {n:Nat} {h:Heap} {a:Addr} (ho:h.get? a = some (seto es ep tb)) (hS:SetIs X es tb S n):h.SetOf (strKind X.prog X.w) a S n :=
 ⟨_,es,ep,tb,ho,⟨rfl,rfl,rfl⟩,rfl,hS.1,hS.2.1,hS.2.2.1,hS.2.2.2.1,hS.2.2.2.2⟩
theorem SetIs.to {X:Env0} {S:Str→Bool} {n:Nat} {h:Heap} {a:Addr} (hS:h.SetOf (strKind X.prog X.w) a S n):∃ es ep tb,h.get? a = some (seto es ep tb)∧SetIs X es tb S n:=by
 obtain ⟨o,es,ep,tb,ho,⟨h1,h2,h3⟩,hd,a1,a2,a3,a4,a5⟩:=hS
 refine ⟨es,ep,tb,?_,a1,a2,a3,a4,a5⟩
 obtain ⟨c,dd,dt,sl⟩:=o
 dsimp only at h1 h2 h3 hd
 rw [ho,h1,h2,h3,hd]
theorem rep_same {h₀ h h':Heap} {a:Addr} {o o':Obj} {n t t':Nat} (D:Rep h₀ h ⟨[(a,o)],n,t,[]⟩) (hs:Heap.SameBut a h h') (ho:h'.get? a = some o'):Rep h₀ h' ⟨[(a,o')],n,t',[]⟩:=by
 have hn:=(D.mem.nw (a,o) (.head _)).2
 refine ⟨⟨fun b x e hb=>?_,fun _ hp=>(nomatch hp),List.nodup_nil,fun p hp=>?_,by simp⟩,by rw [hs.1]; exact D.size,fun _ hp=>(nomatch hp)⟩
 ·have ne:b≠a:=fun q=>by subst q; rw [e] at hn; cases hn
  rw [hs.2 b ne]
  exact D.mem.keep b x e hb
 ·rcases List.mem_singleton.mp hp with rfl
  exact ⟨ho,hn⟩
section
variable {X:Env0} {B:Heap→Prop} {D U:Nat} {hd:Hd} {nn t:Nat} {a:Addr} {es:Array (Int × Value)} {ep:Nat} {tb:SetTable} {S:Str→Bool} {n:Nat} {k:Str} {tk:Tok}
theorem sin_ok (hS:SetIs X es tb S n):CutOk X B D U (.builtin "set.__contains__" ⟨[.ref a,.str k tk],[]⟩) hd [] [(a,seto es ep tb)] nn t Unit (fun _=>.ok (.ret (.bool (S k)))) (fun _=>[]) (fun _=>[]) (fun _=>nn) (fun _=>t+1) (fun _=>[]):=by
 refine builtin_ok entry_set_contains (fun _ p hp=>nomatch hp) (fun _=>rfl) fun h₀ h A IM hA Dh Q E hQ=>?_
 have ho:=IM (a,seto es ep tb) (.head _)
 have hQ':=hQ () h ⟨Dh.mem,Dh.size,Dh.fz⟩
 have hS':=SetIs.of (h:=(X.sh h t).heap) ho hS
 have hkey:(strKind X.prog X.w).is k (.str k tk) = true:=by show Value.isStrOf k (.str k tk) = true; simp [Value.isStrOf]
 unfold Builtin.«frozenset.__contains__» Builtin.Frozenset.oneOther
 simp only [List.isEmpty_nil,bind_assoc]
 unfold Builtin.Frozenset.addrOf Builtin.Frozenset.withSetAsKey setContains
 refine wpAny_bind (wpAny_pure ?_)
 try dsimp only
 refine wpAny_bind (wpAny_pure ?_)
 try dsimp only
 refine wpAny_bind (wpAny_tryCatch ?_)
 refine wpAny_holding ?_
 refine wpAny_bind ((strKind X.prog X.w).pyHash hkey ?_)
 refine wpAny_bind (wpAny_setFind_of (s:={ (X.sh h t) with toks:=(X.sh h t).toks+1 }) hkey rfl hS' fun r hr=>?_)
 refine wpAny_pure ?_
 show wpAny _ _ (ret (Value.bool r.isSome)) _ _ _
 rw [hr]
 exact wpAny_pure hQ'
theorem sin_t (hS:SetIs X es tb S n) (hk:S k = true):CutOk X B D U (.builtin "set.__contains__" ⟨[.ref a,.str k tk],[]⟩) hd [] [(a,seto es ep tb)] nn t Unit (fun _=>.ok (.ret (.bool true))) (fun _=>[]) (fun _=>[]) (fun _=>nn) (fun _=>t+1) (fun _=>[]):=by
 have:=sin_ok (B:=B) (D:=D) (U:=U) (hd:=hd) (nn:=nn) (t:=t) (a:=a) (ep:=ep) (k:=k) (tk:=tk) hS
 rwa [hk] at this
theorem sin_f (hS:SetIs X es tb S n) (hk:S k = false):CutOk X B D U (.builtin "set.__contains__" ⟨[.ref a,.str k tk],[]⟩) hd [] [(a,seto es ep tb)] nn t Unit (fun _=>.ok (.ret (.bool false))) (fun _=>[]) (fun _=>[]) (fun _=>nn) (fun _=>t+1) (fun _=>[]):=by
 have:=sin_ok (B:=B) (D:=D) (U:=U) (hd:=hd) (nn:=nn) (t:=t) (a:=a) (ep:=ep) (k:=k) (tk:=tk) hS
 rwa [hk] at this
theorem sadd_ok (hS:SetIs X es tb S n) (hk:S k = false) (hn:n+1 < scanBound):CutOk X B D U (.builtin "set.add" ⟨[.ref a,.str k tk],[]⟩) hd [(a,seto es ep tb)] [] nn t {v:SV // SetIs X v.es v.tb (fun k'=>S k' || decide (k' = k)) (n+1)} (fun _=>.ok (.ret .none)) (fun _=>[]) (fun v=>[seto v.1.es v.1.ep v.1.tb]) (fun _=>nn) (fun _=>t+1) (fun _=>[]):=by
 refine builtin_ok PySem.F.entry_set_add (fun _ p hp=>nomatch hp) (fun _=>rfl) fun h₀ h A IM hA Dh Q E hQ=>?_
 have ho:=Dh.mem.at 0 a (seto es ep tb) rfl
 have hS':=SetIs.of (h:=(X.sh h t).heap) ho hS
 have hkey:(strKind X.prog X.w).is k (.str k tk) = true:=by show Value.isStrOf k (.str k tk) = true; simp [Value.isStrOf]
 unfold Builtin.«set.add» Builtin.Frozenset.oneOther
 simp only [List.isEmpty_nil,bind_assoc]
 unfold Builtin.Frozenset.addrOf setAdd
 refine wpAny_bind (wpAny_pure ?_)
 try dsimp only
 refine wpAny_bind (wpAny_pure ?_)
 try dsimp only
 refine wpAny_bind ?_
 refine wpAny_holding ?_
 refine wpAny_bind ((strKind X.prog X.w).pyHash hkey ?_)
 refine wpAny_setAddHashed_of (s:={ (X.sh h t) with toks:=(X.sh h t).toks+1 }) hkey rfl hS' hn fun h' hsb hS2=>?_
 rw [hk] at hS2
 obtain ⟨es',ep',tb',ho',hS3⟩:=SetIs.to hS2
 show wpAny _ _ (ret Value.none) _ _ _
 exact wpAny_pure (hQ ⟨⟨es',ep',tb'⟩,hS3⟩ h' (rep_same Dh hsb ho'))
theorem ddel_ok {h1:Int} {u1:Tok} {v1:Value}:CutOk X B D U (.builtin "dict.__delitem__" ⟨[.ref a,.str k tk],[]⟩) hd [(a,dictO [⟨h1,.str k u1,v1⟩] ep)] [] nn t Unit (fun _=>.ok (.ret .none)) (fun _=>[]) (fun _=>[dictO [] (ep+1)]) (fun _=>nn) (fun _=>t+1) (fun _=>[]):=by
 refine builtin_ok PySem.F.entry_dict_delitem (fun _ p hp=>nomatch hp) (fun _=>rfl) fun h₀ h A IM hA Dh Q E hQ=>?_
 have ho:=Dh.mem.at 0 a (dictO [⟨h1,.str k u1,v1⟩] ep) rfl
 have hT:(X.sh h t).TypeIs (.ref a) "dict":=⟨_,ho,rfl⟩
 unfold Builtin.«dict.__delitem__» Builtin.Dict.dictSlotArgs
 have hno:∀ (Q:Unit→Shared→Prop),Q () (X.sh h t)→wpAny (model X.prog X.w) A (Builtin.Dict.notOrdered "__delitem__" ⟨[.ref a,.str k tk],[]⟩) Q E (X.sh h t):=fun Q q=>by
  unfold Builtin.Dict.notOrdered
  rw [if_pos (by decide)]
  refine wpAny_bind (wpAny_typeOf hT ?_)
  rw [if_neg (by decide)]
  exact wpAny_pure q
 refine wpAny_bind (wpAny_bind (m:=Builtin.Dict.notOrdered _ _) (hno _ ?_))
 refine wpAny_bind (m:=slotArgs _ _ _) (wpAny_pure (wpAny_pure ?_))
 dsimp only
 refine wpAny_bind (m:=Builtin.Dict.addrOf _) (wpAny_pure ?_)
 refine wpAny_bind (m:=Builtin.Dict.takeOut _ _) ?_
 unfold Builtin.Dict.takeOut
 try with_reducible refine wpAny_holding ?_
 have hk1:kIs k (.str k u1) = true:=eqL_iff.mpr rfl
 have hi:[(⟨h1,.str k u1,v1⟩:DictEntry)].findIdx? (fun e=>e.key.isStr k) = some 0:=by
  rw [List.findIdx?_cons,← kIs_eq]
  show (if kIs k (.str k u1) = true then some 0 else _) = _
  rw [hk1]; rfl
 refine wpAny_bind (wpAny_pyHash_str (wpAny_bind (wp_find (s:={ (X.sh h t) with toks:=(X.sh h t).toks+1 }) ho rfl hi rfl ⟨u1,rfl⟩ ?_)))
 refine wpAny_bind (wpAny_dictEntries (s:={ (X.sh h t) with toks:=(X.sh h t).toks+1 }) ho rfl ?_)
 refine wpAny_bind (wpAny_updateDictKeys (s:={ (X.sh h t) with toks:=(X.sh h t).toks+1 }) ho rfl (wpAny_pure ?_))
 refine wpAny_bind (wpAny_letGo (wpAny_pure (hQ () _ ?_)))
 refine ⟨?_,by rw [(Heap.SameBut.update ..).1]; exact Dh.size,fun _ hp=>(nomatch hp)⟩
 have:=Dh.mem.update (i:=0) (a:=a) (o:=dictO [⟨h1,.str k u1,v1⟩] ep) (f:=Obj.mapDictKeys (·.eraseIdxIfInBounds 0)) rfl rfl
 have hm:Obj.mapDictKeys (·.eraseIdxIfInBounds 0) (dictO [⟨h1,.str k u1,v1⟩] ep) = dictO [] (ep+1):=by
  show (⟨.type "dict",none,.dict ((⟨[⟨h1,.str k u1,v1⟩]⟩:Array DictEntry).eraseIdxIfInBounds 0) (ep+1),#[]⟩:Obj) = _
  congr 2
  simp [Array.eraseIdxIfInBounds]
 rw [hm] at this
 exact this
end
noncomputable def ko (w:World) (r:Rows) (x:Str):Int:=condFn Int x.cps.isEmpty 0 (PySem.W.ZFast.zw12210062019545310541 ((pr w r).strHash x.cps))
section
variable {X:Env0} {B:Heap→Prop} {D U:Nat} {hd:Hd} {n t:Nat} {H:Addr} {es:List DictEntry} {ep:Nat} {k:Str} {tk:Tok}
theorem dget_is {v:Value} (ha:dstr es = true) (hh:dhas es k = true) (hv:dlook es k = v) :
  CutOk X B D U (.builtin "dict.__getitem__" ⟨[.ref H,.str k tk],[]⟩) hd [] [(H,dictO es ep)] n t Unit (fun _=>.ok (.ret v)) (fun _=>[]) (fun _=>[]) (fun _=>n) (fun _=>t+1) (fun _=>[]):=by
 subst hv
 exact dget_ok ha hh
theorem entry_dict_contains':entryFor table "dict.__contains__" = some Builtin.«dict.__contains__»:=entryFor_of_tree (by kernel_rfl)
theorem din_f {a:Addr} {h1:Int} {k1:Str} {u1:Tok} {v1:Value} (hne:k≠k1) (hs:(a == sysModules) = false) :
  CutOk X B D U (.builtin "dict.__contains__" ⟨[.ref a,.str k tk],[]⟩) hd [] [(a,dictO [⟨h1,.str k1 u1,v1⟩] ep)] n t Unit (fun _=>.ok (.ret (.bool false))) (fun _=>[]) (fun _=>[]) (fun _=>n) (fun _=>t+1) (fun _=>[]):=by
 refine builtin_ok entry_dict_contains' (fun _ p hp=>nomatch hp) (fun _=>rfl) fun h₀ h A IM hA Dh Q E hQ=>?_
 have ho:=IM (a,dictO [⟨h1,.str k1 u1,v1⟩] ep) (.head _)
 have hQ':=hQ () h ⟨Dh.mem,Dh.size,Dh.fz⟩
 unfold Builtin.«dict.__contains__»
 refine wpAny_bind (m:=Builtin.Dict.keyArg _ _) (wpAny_pure ?_)
 dsimp only
 refine wpAny_bind ?_
 unfold dictGet
 try with_reducible refine wpAny_holding ?_
 refine wpAny_bind (wpAny_pyHash_str (wpAny_bind ?_))
 unfold dictFind
 try with_reducible refine wpAny_holding ?_
 refine wpAny_bind (wpAny_dictEntries (s:={ (X.sh h t) with toks:=(X.sh h t).toks+1 }) ho rfl ?_)
 dsimp only
 rw [if_pos (by simp [isExactStrKey])]
 unfold foundByValue
 have hi:(⟨[⟨h1,.str k1 u1,v1⟩]⟩:Array DictEntry).findIdx? (fun e=>e.key.isStr k) = none:=by
  simp [Value.isStr,Ne.symm hne]
 rw [hi]
 refine wpAny_bind (wpAny_pure (wpAny_pure ?_))
 refine wpAny_pure ?_
 show wpAny _ _ (Builtin.Dict.pendingKey? a (.str k tk) >>= _) _ _ _
 exact wpAny_bind (wpAny_pendingKey_other hs (wpAny_pure hQ'))
theorem setis_empty {X:Env0} {tb:SetTable} (h:tb.fits 0 = true):SetIs X #[] tb (fun _=>false) 0 :=
 ⟨fun _ he=>(nomatch he),fun _=>⟨fun h=>(nomatch h),fun ⟨_,he,_⟩ => (nomatch he)⟩,by decide,h,rfl⟩
end
theorem mapSeq_app (us vs:List Value) (e:Nat):∃ e',Obj.mapSeq (·++(⟨vs⟩:Array Value)) (listO us e) = listO (us++vs) e':=by
 have z:((⟨us⟩:Array Value)++(⟨vs⟩:Array Value)) = ⟨us++vs⟩:=by simp
 have k:∀ k,(⟨.type "list",none,.seq ((⟨us⟩:Array Value)++(⟨vs⟩:Array Value)) k,#[]⟩:Obj) = listO (us++vs) k:=fun k=>by rw [z]
 exact ⟨_,k _⟩
theorem extendWith_ok {X:Env0} {n t:Nat} {H G:Addr} {us vs:List Value} {e:Nat} {o:Obj} {res:Value} {A:Around} {h₀ h:Heap} {Q:PySem.Fin→Shared→Prop} {E:Value→Shared→Prop} {ni:Nat}
  (ho:h.get? G = some o) (hT:o.cls = .type "list"∨o.cls = .type "tuple") (hdt:o.data = .seq ⟨vs⟩ ni) (hs:us.length + vs.length≤1000) (Dh:Rep h₀ h ⟨[(H,listO us e)],n,t,[]⟩)
  (hQ:∀ (v:Nat) h',Rep h₀ h' ⟨[(H,listO (us++vs) v)],n,t,[]⟩→Q (.done (.ret res)) (X.sh h' t)):wpAny (model X.prog X.w) A (Builtin.List.listExtendWith (.ref H) (.ref G) res) Q E (X.sh h t):=by
 have hH:=Dh.mem.at 0 H (listO us e) rfl
 unfold Builtin.List.listExtendWith
 obtain ⟨T,hc,hTT⟩:∃ T:String,o.cls = .type T∧(T = "list"∨T = "tuple"):=by rcases hT with h | h <;> exact ⟨_,h,by simp⟩
 refine wpAny_bind (wpAny_typeOf ⟨o,ho,hc⟩ ?_)
 have h1:(Builtin.List.listSameRef (.ref H) (.ref G) || Value.type T == Value.type "list" || Value.type T == Value.type "tuple") = true:=by
  rcases hTT with rfl | rfl <;> simp
 simp only [h1,if_true]
 refine wpAny_bind ?_
 unfold Builtin.List.listItems
 refine wpAny_bind (wpAny_seqItems ho hdt (wpAny_pure ?_))
 refine wpAny_bind ?_
 refine wpAny_bind (wpAny_seqItems hH rfl (wpAny_pure ?_))
 have hl:Builtin.List.listTooLong ((⟨us⟩:Array Value).size + (⟨vs⟩:Array Value).size) = false:=by
  unfold Builtin.List.listTooLong
  rw [sizeLine_eq]
  simp
  omega
 rw [if_neg (by rw [hl]; simp)]
 show wpAny _ _ (updateSeq H (·++⟨vs⟩) >>= fun _=>ret res) _ _ _
 refine wpAny_bind (wpAny_updateSeq hH rfl ?_)
 obtain ⟨e',hm⟩:=mapSeq_app us vs e
 refine wpAny_pure (hQ e' _ ?_)
 refine ⟨?_,by rw [(Heap.SameBut.update ..).1]; exact Dh.size,fun _ hp=>(nomatch hp)⟩
 have:=Dh.mem.update (i:=0) (a:=H) (o:=listO us e) (f:=Obj.mapSeq (·++(⟨vs⟩:Array Value))) rfl (by rw [hm]; rfl)
 rw [hm] at this
 exact this
section
variable {X:Env0} {B:Heap→Prop} {D U:Nat} {hd:Hd} {n t:Nat} {H G:Addr} {us vs:List Value} {e e1:Nat}
theorem entry_iadd':entryFor table "list.__iadd__" = some Builtin.«list.__iadd__»:=entryFor_of_tree (by kernel_rfl)
theorem entry_ext':entryFor table "list.extend" = some Builtin.«list.extend»:=entryFor_of_tree (by kernel_rfl)
theorem iadd_ok (hs:us.length + vs.length≤1000):CutOk X B D U (.builtin "list.__iadd__" ⟨[.ref H,.ref G],[]⟩) hd [(H,listO us e)] [(G,listO vs e1)] n t Nat (fun _=>.ok (.ret (.ref H))) (fun _=>[]) (fun v=>[listO (us++vs) v]) (fun _=>n) (fun _=>t) (fun _=>[]):=by
 refine builtin_ok entry_iadd' (fun _ _ hp=>nomatch hp) (fun _=>rfl) fun h₀ h A IM hA Dh Q E hQ=>?_
 have hg:=IM (G,listO vs e1) (.head _)
 unfold Builtin.«list.__iadd__»
 refine wpAny_bind (m:=slotArgs _ _ _) (wpAny_pure ?_)
 exact extendWith_ok hg (.inl rfl) rfl hs Dh fun v h' D'=>hQ v h' D'
theorem iaddt_ok (hs:us.length + vs.length≤1000):CutOk X B D U (.builtin "list.__iadd__" ⟨[.ref H,.ref G],[]⟩) hd [(H,listO us e)] [(G,tupO vs)] n t Nat (fun _=>.ok (.ret (.ref H))) (fun _=>[]) (fun v=>[listO (us++vs) v]) (fun _=>n) (fun _=>t) (fun _=>[]):=by
 refine builtin_ok entry_iadd' (fun _ _ hp=>nomatch hp) (fun _=>rfl) fun h₀ h A IM hA Dh Q E hQ=>?_
 have hg:=IM (G,tupO vs) (.head _)
 unfold Builtin.«list.__iadd__»
 refine wpAny_bind (m:=slotArgs _ _ _) (wpAny_pure ?_)
 exact extendWith_ok hg (.inr rfl) rfl hs Dh fun v h' D'=>hQ v h' D'
theorem ext_ok (hs:us.length + vs.length≤1000):CutOk X B D U (.builtin "list.extend" ⟨[.ref H,.ref G],[]⟩) hd [(H,listO us e)] [(G,tupO vs)] n t Nat (fun _=>.ok (.ret .none)) (fun _=>[]) (fun v=>[listO (us++vs) v]) (fun _=>n) (fun _=>t) (fun _=>[]):=by
 refine builtin_ok entry_ext' (fun _ _ hp=>nomatch hp) (fun _=>rfl) fun h₀ h A IM hA Dh Q E hQ=>?_
 have hg:=IM (G,tupO vs) (.head _)
 unfold Builtin.«list.extend»
 refine wpAny_bind (m:=selfAndOne _ _) (wpAny_pure ?_)
 exact extendWith_ok hg (.inr rfl) rfl hs Dh fun v h' D'=>hQ v h' D'
end
noncomputable abbrev rgO (n:Int) (a b c:Tok):Obj:=⟨.type "range",none,.fields #[.int 0 a,.int n b,.int 1 c],#[]⟩
noncomputable abbrev rnO (v l:Int):Obj:=⟨.type "range_iterator",none,.fields #[.int v 0,.int l 0,.int 1 0],#[]⟩
theorem entry_riter:entryFor table "range.__iter__" = some Builtin.«range.__iter__»:=entryFor_of_tree (by kernel_rfl)
theorem entry_rnext:entryFor table "range_iterator.__next__" = some Builtin.«range_iterator.__next__»:=entryFor_of_tree (by kernel_rfl)
theorem rf_ok {M:Model} {A:Around} {R:Addr} {m:Int} {a b c:Tok} {s:Shared} {Q:Int × Int × Int→Shared→Prop} {E:Value→Shared→Prop} (ho:s.heap.get? R = some (rgO m a b c)) (h:Q (0,m,1) s):wpAny M A (Builtin.Range.rangeFields (.ref R)) Q E s:=by
 unfold Builtin.Range.rangeFields
 refine wpAny_bind (wpAny_field ho rfl (x:=.int 0 a) rfl ?_)
 refine wpAny_bind (wpAny_of_eq (a:=some 0) (by simp only [asInt?]) ?_)
 refine wpAny_bind (wpAny_field ho rfl (x:=.int m b) rfl ?_)
 refine wpAny_bind (wpAny_of_eq (a:=some m) (by simp only [asInt?]) ?_)
 refine wpAny_bind (wpAny_field ho rfl (x:=.int 1 c) rfl ?_)
 refine wpAny_bind (wpAny_of_eq (a:=some 1) (by simp only [asInt?]) ?_)
 exact wpAny_pure h
section
variable {X:Env0} {B:Heap→Prop} {D U:Nat} {hd:Hd} {n t:Nat} {I R:Addr}
theorem riter_ok {m:Nat} (hm:m≤1000) {a b c:Tok}:CutOk X B D U (.builtin "range.__iter__" ⟨[.ref R],[]⟩) hd [] [(R,rgO m a b c)] n t Unit (fun _=>.ok (.ret (.ref n))) (fun _=>[(n,rnO 0 m)]) (fun _=>[]) (fun _=>n+1) (fun _=>t) (fun _=>[]):=by
 refine builtin_ok entry_riter (fun _ p hp=>?_) (fun _=>rfl) fun h₀ h A IM hA Dh Q E hQ=>?_
 ·rcases List.mem_singleton.mp hp with rfl
  exact Nat.le_refl _
 have ho:=IM (R,rgO m a b c) (.head _)
 unfold Builtin.«range.__iter__»
 refine wpAny_bind (m:=slotArgs _ _ _) (wpAny_pure ?_)
 show wpAny _ _ (Builtin.Range.rangeFields (.ref R) >>= _) _ _ _
 refine wpAny_bind (rf_ok ho ?_)
 have hsz:Builtin.Range.rangeSize 0 m 1 = m:=by
  unfold Builtin.Range.rangeSize
  rw [if_pos (by decide)]
  split
  ·rw [Int.ediv_one]; omega
  ·omega
 dsimp only
 rw [hsz]
 have hf:∀ k:Int,-2000≤k→k≤2000→Builtin.Range.rangeFitsLong k = true:=fun k h1 h2=>by
  unfold Builtin.Range.rangeFitsLong
  simp
  omega
 have hr:((m:Int) == 0 || (if (1:Int) > 0 then Builtin.Range.rangeFitsLong (m + (1 - 1)) else Builtin.Range.rangeFitsLong (m + (1 + 1)))) = true:=by
  rw [if_pos (by decide),hf _ (by omega) (by omega),Bool.or_true]
 have hs:(Builtin.Range.rangeFitsLong 0 && Builtin.Range.rangeFitsLong m && Builtin.Range.rangeFitsLong 1 && Builtin.Range.rangeFitsLong m && ((m:Int) == 0 || (if (1:Int) > 0 then Builtin.Range.rangeFitsLong (m + (1 - 1)) else Builtin.Range.rangeFitsLong (m + (1 + 1))))) = true:=by
  rw [hr,hf 0 (by omega) (by omega),hf m (by omega) (by omega),hf 1 (by omega) (by omega)]; rfl
 rw [hs]
 rw [if_neg (by decide)]
 refine wpAny_bind ?_
 rw [if_pos rfl]
 unfold newFields
 refine wpAny_newObj_type (wpAny_pure ?_) (by size_fits)
 have m1:=Dh.mem.alloc (o:=rnO 0 m) rfl
 have e1:h.objs.size = n:=Dh.size
 rw [e1] at m1
 have key:=hQ () _ ⟨m1,by rw [Heap.size_push,e1],fun _ hp=>(nomatch hp)⟩
 show Q (.done (.ret (.ref h.objs.size))) _
 rw [e1]
 exact key
theorem rn_some {i m:Nat}:CutOk X B D U (.builtin "range_iterator.__next__" ⟨[.ref I],[]⟩) hd [(I,rnO i (m+1:Nat))] [] n t Unit (fun _=>.ok (.ret (.int i t))) (fun _=>[]) (fun _=>[rnO (i+1:Nat) m]) (fun _=>n) (fun _=>t+1) (fun _=>[]):=by
 refine builtin_ok entry_rnext (fun _ _ hp=>nomatch hp) (fun _=>rfl) fun h₀ h A IM hA Dh Q E hQ=>?_
 have ho:=Dh.mem.at 0 I (rnO i (m+1:Nat)) rfl
 unfold Builtin.«range_iterator.__next__»
 refine wpAny_bind (m:=slotArgs _ _ _) (wpAny_pure ?_)
 refine wpAny_bind (wpAny_field ho rfl (x:=.int i 0) rfl ?_)
 refine wpAny_bind (wpAny_field ho rfl (x:=.int (m+1:Nat) 0) rfl ?_)
 refine wpAny_bind (wpAny_field ho rfl (x:=.int 1 0) rfl ?_)
 dsimp only
 rw [if_neg (by omega)]
 have o1:((i:Int) + 1) = ((i+1:Nat):Int):=by omega
 have o2:(((m+1:Nat):Int) - 1) = (m:Int):=by omega
 rw [o1,o2]
 refine wpAny_bind (wpAny_setField ho rfl (by simp) ?_)
 have m1:=Dh.mem.update (i:=0) (a:=I) (o:=rnO i (m+1:Nat)) (f:=fun o=>o.mapFields fun ys=>ys.setIfInBounds 0 (rawInt (i+1:Nat))) rfl rfl
 have h1:=m1.at 0 I _ rfl
 refine wpAny_bind (wpAny_setField h1 rfl (by simp) ?_)
 have m2:=m1.update (i:=0) (a:=I) (f:=fun o=>o.mapFields fun ys=>ys.setIfInBounds 1 (rawInt m)) rfl rfl
 have key:=hQ () ((h.update I fun o=>o.mapFields fun ys=>ys.setIfInBounds 0 (rawInt (i+1:Nat))).update I fun o=>o.mapFields fun ys=>ys.setIfInBounds 1 (rawInt m)) ⟨m2,by rw [(Heap.SameBut.update ..).1,(Heap.SameBut.update ..).1]; exact Dh.size,fun _ hp=>(nomatch hp)⟩
 exact wpAny_bind (wpAny_mkInt (wpAny_pure key))
theorem rn_none {v:Int}:CutOk X B D U (.builtin "range_iterator.__next__" ⟨[.ref I],[]⟩) none [(I,rnO v 0)] [] n t Unit (fun _=>.error (.ref (n+1))) (fun _=>[(n+1,stopO n),(n,tupO [])]) (fun _=>[rnO v 0]) (fun _=>n+2) (fun _=>t) (fun _=>[]):=by
 refine builtin_ok entry_rnext (fun _ p hp=>?_) (fun _=>rfl) fun h₀ h A IM hA Dh Q E hQ=>?_
 ·simp only [List.mem_cons,List.not_mem_nil,or_false] at hp
  rcases hp with rfl | rfl
  ·exact Nat.le_succ n
  ·exact Nat.le_refl n
 have ho:=Dh.mem.at 0 I (rnO v 0) rfl
 unfold Builtin.«range_iterator.__next__»
 refine wpAny_bind (m:=slotArgs _ _ _) (wpAny_pure ?_)
 refine wpAny_bind (wpAny_field ho rfl (x:=.int v 0) rfl ?_)
 refine wpAny_bind (wpAny_field ho rfl (x:=.int 0 0) rfl ?_)
 refine wpAny_bind (wpAny_field ho rfl (x:=.int 1 0) rfl ?_)
 dsimp only
 rw [if_pos (by decide)]
 refine wpAny_bind (wpAny_rule ?_)
 refine wpAny_bind ?_
 show wpAny _ _ (newExc (.type "StopIteration") [] >>= _) _ _ _
 refine wpAny_bind ?_
 simp only [newExc,newTuple]
 refine wpAny_bind (wpAny_newObj_type ?_ (by size_fits))
 refine wpAny_bind (m:=firstArgMember _ _) (wpAny_of_eq (a:=Value.none) (by first | rfl | (simp only [firstArgMember]; rfl)) ?_)
 refine wpAny_newObj_type ?_ (by size_fits)
 simp only [raiseNew]
 refine wpAny_bind (wpAny_handled ?_)
 have hA':(A.handled:Option Value) = none:=hA
 rw [hA']
 refine wpAny_bind (wpAny_pure (wpAny_throw ?_))
 have z1:h.objs.size = n:=Dh.size
 have m2:=Dh.mem.alloc (o:=tupO []) rfl
 rw [z1] at m2
 have z2:(h.push (tupO [])).objs.size = n+1:=by rw [Heap.size_push,z1]
 have m3:=m2.alloc (o:=stopO n) rfl
 rw [z2] at m3
 have z3:((h.push (tupO [])).push (stopO n)).objs.size = n+2:=by rw [Heap.size_push,z2]
 have key:=hQ () _ ⟨m3,z3,fun _ hp=>(nomatch hp)⟩
 show E (.ref ((h.push (tupO [])).objs.size)) ⟨(h.push (tupO [])).push (stopO (h.objs.size)),X.g,X.d,t,X.os⟩
 rw [z2,z1]
 exact key
end
noncomputable abbrev en4 (h1 h2 h3 h4:Int) (u1 u2 u3 u4:Tok) (va vb vc vd:Value):List DictEntry:=[⟨h1,.str (⟨#[97]⟩:Str) u1,va⟩,⟨h2,.str (⟨#[98]⟩:Str) u2,vb⟩,⟨h3,.str (⟨#[99]⟩:Str) u3,vc⟩,⟨h4,.str (⟨#[100]⟩:Str) u4,vd⟩]
structure DiV where
 a:Tok
 b:Tok
 c:Tok
 d:Tok
 e:Nat
theorem entry_dinit:entryFor table "dict.__init__" = some Builtin.«dict.__init__»:=entryFor_of_tree (by kernel_rfl)
noncomputable def HashOk (X:Env0) (h1 h2 h3 h4:Int):Prop:=h1 = (strKind X.prog X.w).hash (⟨#[97]⟩:Str)∧h2 = (strKind X.prog X.w).hash (⟨#[98]⟩:Str)∧h3 = (strKind X.prog X.w).hash (⟨#[99]⟩:Str)∧h4 = (strKind X.prog X.w).hash (⟨#[100]⟩:Str)
theorem str_is {X:Env0} {k:Str} {v:Value} (h:(strKind X.prog X.w).is k v = true):∃ t,v = .str k t:=Value.isStrOf_shape h
theorem is_str {X:Env0} {k:Str} {t:Tok}:(strKind X.prog X.w).is k (.str k t) = true:=by show Value.isStrOf k (.str k t) = true; simp [Value.isStrOf]
theorem key_hash {X:Env0} {es:Array DictEntry} (hk:KeysOf (strKind X.prog X.w) es) {e:DictEntry} (he:e∈es) {k:Str} {t:Tok} (hkey:e.key = .str k t):e.hash = (strKind X.prog X.w).hash k:=by
 obtain ⟨k',h1,h2⟩:=hk e he
 obtain ⟨t',h3⟩:=str_is h1
 rw [hkey] at h3
 injection h3 with h3 _
 rw [h2,h3]
section
variable {X:Env0} {B:Heap→Prop} {D U:Nat} {hd:Hd} {n t:Nat} {H S:Addr}
theorem dinit_ok {h1 h2 h3 h4:Int} {u1 u2 u3 u4:Tok} {va vb vc vd:Value} {e0 e1:Nat} (hh:HashOk X h1 h2 h3 h4) (hS:(S == sysModules) = false) :
  CutOk X B D U (.builtin "dict.__init__" ⟨[.ref H,.ref S],[]⟩) hd [(H,dictO [] e0)] [(S,dictO (en4 h1 h2 h3 h4 u1 u2 u3 u4 va vb vc vd) e1)] n t DiV (fun _=>.ok (.ret .none)) (fun _=>[]) (fun v=>[dictO (en4 h1 h2 h3 h4 v.a v.b v.c v.d va vb vc vd) v.e]) (fun _=>n) (fun _=>t) (fun _=>[]):=by
 refine builtin_ok entry_dinit (fun _ p hp=>nomatch hp) (fun _=>rfl) fun h₀ h A IM hA Dh Q E hQ=>?_
 have hH:=Dh.mem.at 0 H (dictO [] e0) rfl
 have hs:=IM (S,dictO (en4 h1 h2 h3 h4 u1 u2 u3 u4 va vb vc vd) e1) (.head _)
 have hne:H≠S:=fun e=>by
  subst e
  rw [hs] at hH
  injection hH with hH
  injection hH with _ _ hH _
  injection hH with hH _
  injection hH with hH
  cases hH
 obtain ⟨g1,g2,g3,g4⟩:=hh
 have dS:(X.sh h t).heap.DictOf (strKind X.prog X.w) S [(⟨#[97]⟩,va),(⟨#[98]⟩,vb),(⟨#[99]⟩,vc),(⟨#[100]⟩,vd)]:=by
  refine ⟨_,_,_,hs,⟨rfl,rfl,rfl⟩,rfl,fun e he=>?_,.cons is_str rfl (.cons is_str rfl (.cons is_str rfl (.cons is_str rfl .nil))),(show ([⟨#[97]⟩,⟨#[98]⟩,⟨#[99]⟩,⟨#[100]⟩]:List Str).Nodup from by decide)⟩
  have he':e∈en4 h1 h2 h3 h4 u1 u2 u3 u4 va vb vc vd:=by simpa using he
  simp only [List.mem_cons,List.not_mem_nil,or_false] at he'
  rcases he' with rfl | rfl | rfl | rfl
  ·exact ⟨_,is_str,g1⟩
  ·exact ⟨_,is_str,g2⟩
  ·exact ⟨_,is_str,g3⟩
  ·exact ⟨_,is_str,g4⟩
 have dH:(X.sh h t).heap.DictOf (strKind X.prog X.w) H []:=⟨_,_,_,hH,⟨rfl,rfl,rfl⟩,rfl,fun e he=>(nomatch (show e∈([]:List DictEntry) from by simpa using he)),.nil,.nil⟩
 have hTH:(X.sh h t).TypeIs (.ref H) "dict":=⟨_,hH,rfl⟩
 have hTS:(X.sh h t).TypeIs (.ref S) "dict":=⟨_,hs,rfl⟩
 unfold Builtin.«dict.__init__»
 refine wpAny_bind ?_
 unfold Builtin.Dict.selfAndRest
 refine wpAny_bind (wpAny_notOrdered_dict hTH ?_)
 show wpAny _ _ (pure (H,[Value.ref S])) _ _ _
 refine wpAny_pure ?_
 show wpAny _ _ (Builtin.Dict.updateFrom "dict.__init__" H (.ref S) [] .none) _ _ _
 unfold Builtin.Dict.updateFrom
 refine wpAny_bind (wpAny_typeOf hTS ?_)
 rw [if_neg (by decide)]
 refine wpAny_bind ?_
 unfold Builtin.Dict.merge
 refine wpAny_bind ?_
 unfold Builtin.Dict.readDirectly
 refine wpAny_bind (wpAny_isInstance hTS isSubtype_dict_dict ?_)
 simp only [Bool.not_true,Bool.false_eq_true,if_false]
 refine wpAny_bind (wpAny_specialOf hTS PySem.F.slot_dict_iter.lookup (wpAny_pure ?_))
 simp only [beq_self_eq_true,if_true]
 refine wpAny_bind (wpAny_pure ?_)
 refine wpAny_mergeDict (hsz:=by simp; rw [sizeLine_eq]; omega) hne hS dH dS fun h' d1 d2 hs'=>?_
 show wpAny _ _ (Builtin.Dict.addKeywords H [] >>= _) _ _ _
 refine wpAny_bind (wpAny_pure (wpAny_pure ?_))
 obtain ⟨o,es,ep,ho,⟨c1,c2,c3⟩,hdt,hk,hp,_⟩:=d1
 have hm:merged [] [((⟨#[97]⟩:Str),va),(⟨#[98]⟩,vb),(⟨#[99]⟩,vc),(⟨#[100]⟩,vd)] = [(⟨#[97]⟩,va),(⟨#[98]⟩,vb),(⟨#[99]⟩,vc),(⟨#[100]⟩,vd)]:=by
  simp [merged,stored]
 rw [hm] at hp
 obtain ⟨l⟩:=es
 have hk':∀ e∈l,∀ k t,e.key = .str k t→e.hash = (strKind X.prog X.w).hash k:=fun e he k t hkt=>key_hash hk (by simpa using he) hkt
 have hp':Pairs (strKind X.prog X.w) l _:=hp
 cases hp' with
 | @cons a1 _ _ _ i1 w1 hp1 => cases hp1 with
  | @cons a2 _ _ _ i2 w2 hp2 => cases hp2 with
   | @cons a3 _ _ _ i3 w3 hp3 => cases hp3 with
    | @cons a4 _ _ _ i4 w4 hp4 => cases hp4 with
     | nil =>
      obtain ⟨t1,k1⟩:=str_is i1
      obtain ⟨t2,k2⟩:=str_is i2
      obtain ⟨t3,k3⟩:=str_is i3
      obtain ⟨t4,k4⟩:=str_is i4
      have q1:=hk' a1 (by simp) _ _ k1
      have q2:=hk' a2 (by simp) _ _ k2
      have q3:=hk' a3 (by simp) _ _ k3
      have q4:=hk' a4 (by simp) _ _ k4
      obtain ⟨_,_,_⟩:=a1
      obtain ⟨_,_,_⟩:=a2
      obtain ⟨_,_,_⟩:=a3
      obtain ⟨_,_,_⟩:=a4
      dsimp only at k1 k2 k3 k4 q1 q2 q3 q4 w1 w2 w3 w4
      subst k1 k2 k3 k4 w1 w2 w3 w4
      rw [← g1] at q1
      rw [← g2] at q2
      rw [← g3] at q3
      rw [← g4] at q4
      subst q1 q2 q3 q4
      refine hQ ⟨t1,t2,t3,t4,ep⟩ h' (rep_same (o':=dictO _ ep) Dh hs' ?_)
      obtain ⟨oc,od,odt,osl⟩:=o
      dsimp only at c1 c2 c3 hdt
      subst c1 c2 c3 hdt
      exact ho
end
section
variable {X:Env0} {B:Heap→Prop} {D U:Nat} {hd:Hd} {n t:Nat} {H G:Addr} {vs:List Value} {e e1:Nat}
theorem entry_linit':entryFor table "list.__init__" = some Builtin.«list.__init__»:=entryFor_of_tree (by kernel_rfl)
theorem mapSeq_nil (e:Nat):∃ e',Obj.mapSeq (fun _=>(#[]:Array Value)) (listO [] e) = listO [] e':=⟨_,rfl⟩
theorem linit_ok (hs:vs.length≤1000):CutOk X B D U (.builtin "list.__init__" ⟨[.ref H,.ref G],[]⟩) hd [(H,listO [] e)] [(G,listO vs e1)] n t Nat (fun _=>.ok (.ret .none)) (fun _=>[]) (fun v=>[listO vs v]) (fun _=>n) (fun _=>t) (fun _=>[]):=by
 refine builtin_ok entry_linit' (fun _ _ hp=>nomatch hp) (fun _=>rfl) fun h₀ h A IM hA Dh Q E hQ=>?_
 have hg:=IM (G,listO vs e1) (.head _)
 have hH:=Dh.mem.at 0 H (listO [] e) rfl
 show wpAny _ _ (do let old ← Builtin.List.listItems (.ref H); Builtin.List.listUpdate (.ref H) (fun _=>#[]); letGo old.toList.reverse; Builtin.List.listExtendWith (.ref H) (.ref G) .none) _ _ _
 refine wpAny_bind ?_
 unfold Builtin.List.listItems
 refine wpAny_bind (wpAny_seqItems hH rfl (wpAny_pure ?_))
 show wpAny _ _ (updateSeq H (fun _=>#[]) >>= fun _=>letGo (#[]:Array Value).toList.reverse >>= fun _=>Builtin.List.listExtendWith (.ref H) (.ref G) .none) _ _ _
 refine wpAny_bind (wpAny_updateSeq hH rfl ?_)
 refine wpAny_bind (wpAny_letGo ?_)
 obtain ⟨e',hm⟩:=mapSeq_nil e
 have m1:=Dh.mem.update (i:=0) (a:=H) (o:=listO [] e) (f:=Obj.mapSeq (fun _=>(#[]:Array Value))) rfl (by rw [hm]; rfl)
 rw [hm] at m1
 have D1:Rep h₀ (h.update H (Obj.mapSeq fun _=>(#[]:Array Value))) ⟨[(H,listO [] e')],n,t,[]⟩:=⟨m1,by rw [(Heap.SameBut.update ..).1]; exact Dh.size,fun _ hp=>(nomatch hp)⟩
 by_cases hgne:G = H
 ·subst hgne
  rw [show h.get? G = some (listO [] e) from hH] at hg
  injection hg with hg
  injection hg with _ _ hg _
  injection hg with hg _
  injection hg with hg
  subst hg
  have hg':=m1.at 0 G (listO [] e') rfl
  exact extendWith_ok (us:=[]) hg' (.inl rfl) rfl (by simp) D1 fun v h' D'=>hQ v h' D'
 ·have hg':(h.update H (Obj.mapSeq fun _=>(#[]:Array Value))).get? G = some (listO vs e1):=by rw [Heap.get?_update_other _ _ (Ne.symm hgne)]; exact hg
  exact extendWith_ok (us:=[]) hg' (.inl rfl) rfl (by simpa using hs) D1 fun v h' D'=>hQ v h' D'
theorem lnew_ok {a:Value}:CutOk X B D U (.call (.builtin "list.__new__") ⟨[.type "list",a],[]⟩) hd [] [] n t Unit (fun _=>.ok (.ret (.ref n))) (fun _=>[(n,listO [] 0)]) (fun _=>[]) (fun _=>n+1) (fun _=>t) (fun _=>[]):=by
 refine ⟨fun _ p hp=>?_,fun _=>rfl,fun h₀ BX IX A h1 h2 h3 h D' R hR=>?_⟩
 ·rcases List.mem_singleton.mp hp with rfl
  exact Nat.le_refl _
 have e1:h.objs.size = n:=D'.size
 have m1:=D'.mem.alloc (o:=listO [] 0) rfl
 rw [e1] at m1
 have key:=hR () _ ⟨m1,by rw [Heap.size_push,e1],fun _ hp=>(nomatch hp)⟩
 refine codeAny_mono (code_list_new (s:=X.sh h t) a (Q₁:=fun v s'=>v = .ref n∧s' = X.sh (h.push (listO [] 0)) t) (E:=fun _ _=>False) ⟨?_,rfl⟩) fun r s' hr=>?_
 ·show Value.ref h.objs.size = _
  rw [e1]
 ·cases r with
  | error e => exact hr.elim
  | ok f =>
   cases f with
   | ret v =>
    obtain ⟨rfl,rfl⟩:=hr
    exact key
   | _ => exact hr.elim
end
section
variable {X:Env0} {B:Heap→Prop} {D U:Nat} {hd:Hd} {n t:Nat} {G S:Addr}
theorem entry_dne':entryFor table "dict.__ne__" = some Builtin.«dict.__ne__»:=entryFor_of_tree (by kernel_rfl)
theorem en4_of {h:Heap} {S:Addr} {h1 h2 h3 h4:Int} {u1 u2 u3 u4:Tok} {va vb vc vd:Value} {e1:Nat} (hh:HashOk X h1 h2 h3 h4) (hs:h.get? S = some (dictO (en4 h1 h2 h3 h4 u1 u2 u3 u4 va vb vc vd) e1)) :
  h.DictOf (strKind X.prog X.w) S [(⟨#[97]⟩,va),(⟨#[98]⟩,vb),(⟨#[99]⟩,vc),(⟨#[100]⟩,vd)]:=by
 obtain ⟨g1,g2,g3,g4⟩:=hh
 refine ⟨_,_,_,hs,⟨rfl,rfl,rfl⟩,rfl,fun e he=>?_,.cons is_str rfl (.cons is_str rfl (.cons is_str rfl (.cons is_str rfl .nil))),(show ([⟨#[97]⟩,⟨#[98]⟩,⟨#[99]⟩,⟨#[100]⟩]:List Str).Nodup from by decide)⟩
 have he':e∈en4 h1 h2 h3 h4 u1 u2 u3 u4 va vb vc vd:=by simpa using he
 simp only [List.mem_cons,List.not_mem_nil,or_false] at he'
 rcases he' with rfl | rfl | rfl | rfl
 ·exact ⟨_,is_str,g1⟩
 ·exact ⟨_,is_str,g2⟩
 ·exact ⟨_,is_str,g3⟩
 ·exact ⟨_,is_str,g4⟩
theorem eqAt_int {A:Around} {s:Shared} {i:Int} {a b:Tok}:SeqAt.EqAt A s (.int i a) (.int i b) true:=fun prog w Q E h=>by
 exact wpAny_eqBool_int (by simpa using h)
theorem dne_ok {h1 h2 h3 h4 g1 g2 g3 g4:Int} {u1 u2 u3 u4 s1 s2 s3 s4 a1 a2 a3 a4 b1 b2 b3 b4:Tok} {ka kb kc kd ma mb mc md:Int} {e0 e1:Nat} (hh:HashOk X h1 h2 h3 h4) (hg:HashOk X g1 g2 g3 g4) (q1:ka = ma) (q2:kb = mb) (q3:kc = mc) (q4:kd = md) (hG:(G == sysModules) = false) (hS:(S == sysModules) = false) :
  CutOk X B D U (.builtin "dict.__ne__" ⟨[.ref G,.ref S],[]⟩) hd [] [(G,dictO (en4 h1 h2 h3 h4 u1 u2 u3 u4 (.int ka a1) (.int kb a2) (.int kc a3) (.int kd a4)) e0),(S,dictO (en4 g1 g2 g3 g4 s1 s2 s3 s4 (.int ma b1) (.int mb b2) (.int mc b3) (.int md b4)) e1)] n t Unit (fun _=>.ok (.ret (.bool false))) (fun _=>[]) (fun _=>[]) (fun _=>n) (fun _=>t) (fun _=>[]):=by
 subst q1 q2 q3 q4
 refine builtin_ok entry_dne' (fun _ p hp=>nomatch hp) (fun _=>rfl) fun h₀ h A IM hA Dh Q E hQ=>?_
 have hg':=IM _ (.head _)
 have hs':=IM _ (.tail _ (.head _))
 have hQ':=hQ () h ⟨Dh.mem,Dh.size,Dh.fz⟩
 have da:=en4_of hh hg'
 have db:=en4_of hg hs'
 show wpAny _ _ (Builtin.Dict.dictSlotArgs "__ne__" ⟨[.ref G,.ref S],[]⟩ >>= _) _ _ (X.sh h t)
 refine wpAny_bind ?_
 unfold Builtin.Dict.dictSlotArgs
 refine wpAny_bind (wpAny_notOrdered_dict (s:=X.sh h t) ⟨_,hg',rfl⟩ ?_)
 show wpAny _ _ (pure (Value.ref G,Value.ref S)) _ _ _
 refine wpAny_pure ?_
 refine wpAny_bind (wpAny_isInstance (T:="dict") (s:=X.sh h t) ⟨_,hs',rfl⟩ PySem.F.sub_dict_dict ?_)
 simp only [Bool.not_true,Bool.false_eq_true,if_false]
 refine wpAny_bind (wpAny_pure (wpAny_bind (wpAny_pure ?_)))
 refine wpAny_bind (keq_samePairs (s:=X.sh h t) (r:=true) hG hS da db (fun _=>?_) ?_)
 ·exact .hit (e:=true) (b:=true) rfl eqAt_int (.hit (e:=true) (b:=true) rfl eqAt_int (.hit (e:=true) (b:=true) rfl eqAt_int (.hit (e:=true) (b:=true) rfl eqAt_int .nil)))
 ·exact wpAny_pure hQ'
end
noncomputable def SameStr:List Value→List Value→Prop
 | [],[] => True
 | x :: xs,y :: ys => (∃ k t u,x = .str k t∧y = .str k u)∧SameStr xs ys
 | _,_ => False
theorem SameStr.length:∀ {xs ys:List Value},SameStr xs ys→xs.length = ys.length
 | [],[],_ => rfl
 | x :: xs,y :: ys,h => by rw [List.length_cons,List.length_cons,SameStr.length h.2]
 | [],_ :: _,h => h.elim
 | _ :: _,[],h => h.elim
theorem SameStr.at:∀ {xs ys:List Value},SameStr xs ys→∀ j (h1:j < xs.length) (h2:j < ys.length),∃ k t u,xs[j] = .str k t∧ys[j] = .str k u
 | x :: xs,y :: ys,h,0,_,_ => h.1
 | x :: xs,y :: ys,h,j+1,h1,h2 => SameStr.at h.2 j (by simpa using h1) (by simpa using h2)
 | [],_,_,_,h1,_ => absurd h1 (by simp)
 | _ :: _,[],h,_,_,_ => h.elim
theorem SameStr.refl {xs:List Value} (h:∀ v∈xs,∃ k t,v = .str k t):SameStr xs xs:=by
 induction xs with
 | nil => trivial
 | cons x xs ih =>
  obtain ⟨k,t,e⟩:=h x (.head _)
  exact ⟨⟨k,t,t,e,e⟩,ih fun v hv=>h v (List.mem_cons_of_mem _ hv)⟩
theorem eqAt_lists {A:Around} {s:Shared} {l b:Addr} {xs ys:List Value} {e1 e2:Nat} (hl:s.heap.get? l = some (listO xs e1)) (hb:s.heap.get? b = some (listO ys e2)) (h:SameStr xs ys) (hu:A.units < cLine):SeqAt.EqAt A s (.ref l) (.ref b) true:=by
 by_cases hne:l = b
 ·subst hne; exact SeqAt.EqAt.same _
 ·refine SeqAt.EqAt.of_refs hne ?_
  have hsz:(⟨xs⟩:Array Value).size = (⟨ys⟩:Array Value).size:=h.length
  have z:=SeqAt.RcAt.lists (e:=fun _=>true) (A:=A) (s:=s) (l:=l) (b:=b) ⟨_,hl,rfl,e1,rfl⟩ ⟨_,hb,rfl,e2,rfl⟩ hsz hu (fun j h1 h2=>by
   obtain ⟨k,t,u,q1,q2⟩:=h.at j h1 h2
   have:=SeqAt.EqAt.str_str (A:=A.in1) (s:=s) k t k u
   rw [beq_self_eq_true] at this
   show SeqAt.EqAt A.in1 s xs[j] ys[j] true
   rw [q1,q2]
   exact this)
  have ht:(List.range (⟨xs⟩:Array Value).size).all (fun _=>true) = true:=by simp
  rw [ht] at z
  exact z
section
variable {X:Env0} {B:Heap→Prop} {D U:Nat} {hd:Hd} {n t:Nat} {P Q0 a1 a2 a3 a4 b1 b2 b3 b4:Addr} {x1 x2 x3 x4 y1 y2 y3 y4:List Value} {e0 e1 f1 f2 f3 f4 g1 g2 g3 g4:Nat}
theorem entry_lne':entryFor table "list.__ne__" = some Builtin.«list.__ne__»:=entryFor_of_tree (by kernel_rfl)
theorem entry_leq':entryFor table "list.__eq__" = some Builtin.«list.__eq__»:=entryFor_of_tree (by kernel_rfl)
theorem lne4_ok (hU:U+10 < 9900) (q1:SameStr x1 y1) (q2:SameStr x2 y2) (q3:SameStr x3 y3) (q4:SameStr x4 y4) :
  CutOk X B D U (.builtin "list.__ne__" ⟨[.ref P,.ref Q0],[]⟩) hd [] [(P,listO [.ref a1,.ref a2,.ref a3,.ref a4] e0),(Q0,listO [.ref b1,.ref b2,.ref b3,.ref b4] e1),(a1,listO x1 f1),(a2,listO x2 f2),(a3,listO x3 f3),(a4,listO x4 f4),(b1,listO y1 g1),(b2,listO y2 g2),(b3,listO y3 g3),(b4,listO y4 g4)] n t Unit (fun _=>.ok (.ret (.bool false))) (fun _=>[]) (fun _=>[]) (fun _=>n) (fun _=>t) (fun _=>[]):=by
 refine ⟨fun _ _ hp=>(nomatch hp),fun _=>rfl,fun h₀ BX IX A h1 h2 h3 h D' R hR=>codeAny_builtin entry_lne' ?_⟩
 rw [Around.under_plainId (by decide +kernel)]
 have k:=fun p (hp:p∈[(P,listO [.ref a1,.ref a2,.ref a3,.ref a4] e0),(Q0,listO [.ref b1,.ref b2,.ref b3,.ref b4] e1),(a1,listO x1 f1),(a2,listO x2 f2),(a3,listO x3 f3),(a4,listO x4 f4),(b1,listO y1 g1),(b2,listO y2 g2),(b3,listO y3 g3),(b4,listO y4 g4)]) => D'.mem.keep _ _ (IX p hp) (by simp [away])
 have hu:A.in1.units < cLine:=by show A.units+1 < 9900; omega
 have c1:=eqAt_lists (A:=A.in1) (s:=X.sh h t) (k (a1,listO x1 f1) (by simp)) (k (b1,listO y1 g1) (by simp)) q1 hu
 have c2:=eqAt_lists (A:=A.in1) (s:=X.sh h t) (k (a2,listO x2 f2) (by simp)) (k (b2,listO y2 g2) (by simp)) q2 hu
 have c3:=eqAt_lists (A:=A.in1) (s:=X.sh h t) (k (a3,listO x3 f3) (by simp)) (k (b3,listO y3 g3) (by simp)) q3 hu
 have c4:=eqAt_lists (A:=A.in1) (s:=X.sh h t) (k (a4,listO x4 f4) (by simp)) (k (b4,listO y4 g4) (by simp)) q4 hu
 refine SeqAt.list_neAt P Q0 ⟨[.ref a1,.ref a2,.ref a3,.ref a4]⟩ ⟨[.ref b1,.ref b2,.ref b3,.ref b4]⟩ e0 e1 none none #[] #[] rfl (fun _=>true) X.prog X.w A R (X.sh h t) ⟨k _ (.head _),k _ (.tail _ (.head _)),fun j j1 j2=>?_,?_⟩
 ·have hj:j < 4:=j1
  match j,hj with
  | 0,_ => exact c1
  | 1,_ => exact c2
  | 2,_ => exact c3
  | 3,_ => exact c4
 ·exact hR () h ⟨D'.mem,D'.size,D'.fz⟩
theorem leq4_ok (hU:U+10 < 9900) (q1:SameStr x1 y1) (q2:SameStr x2 y2) (q3:SameStr x3 y3) (q4:SameStr x4 y4) :
  CutOk X B D U (.builtin "list.__eq__" ⟨[.ref P,.ref Q0],[]⟩) hd [] [(P,listO [.ref a1,.ref a2,.ref a3,.ref a4] e0),(Q0,listO [.ref b1,.ref b2,.ref b3,.ref b4] e1),(a1,listO x1 f1),(a2,listO x2 f2),(a3,listO x3 f3),(a4,listO x4 f4),(b1,listO y1 g1),(b2,listO y2 g2),(b3,listO y3 g3),(b4,listO y4 g4)] n t Unit (fun _=>.ok (.ret (.bool true))) (fun _=>[]) (fun _=>[]) (fun _=>n) (fun _=>t) (fun _=>[]):=by
 refine ⟨fun _ _ hp=>(nomatch hp),fun _=>rfl,fun h₀ BX IX A h1 h2 h3 h D' R hR=>codeAny_builtin entry_leq' ?_⟩
 rw [Around.under_plainId (by decide +kernel)]
 have k:=fun p (hp:p∈[(P,listO [.ref a1,.ref a2,.ref a3,.ref a4] e0),(Q0,listO [.ref b1,.ref b2,.ref b3,.ref b4] e1),(a1,listO x1 f1),(a2,listO x2 f2),(a3,listO x3 f3),(a4,listO x4 f4),(b1,listO y1 g1),(b2,listO y2 g2),(b3,listO y3 g3),(b4,listO y4 g4)]) => D'.mem.keep _ _ (IX p hp) (by simp [away])
 have hu:A.in1.units < cLine:=by show A.units+1 < 9900; omega
 have c1:=eqAt_lists (A:=A.in1) (s:=X.sh h t) (k (a1,listO x1 f1) (by simp)) (k (b1,listO y1 g1) (by simp)) q1 hu
 have c2:=eqAt_lists (A:=A.in1) (s:=X.sh h t) (k (a2,listO x2 f2) (by simp)) (k (b2,listO y2 g2) (by simp)) q2 hu
 have c3:=eqAt_lists (A:=A.in1) (s:=X.sh h t) (k (a3,listO x3 f3) (by simp)) (k (b3,listO y3 g3) (by simp)) q3 hu
 have c4:=eqAt_lists (A:=A.in1) (s:=X.sh h t) (k (a4,listO x4 f4) (by simp)) (k (b4,listO y4 g4) (by simp)) q4 hu
 refine SeqAt.list_eqAt P Q0 ⟨[.ref a1,.ref a2,.ref a3,.ref a4]⟩ ⟨[.ref b1,.ref b2,.ref b3,.ref b4]⟩ e0 e1 none none #[] #[] rfl (fun _=>true) X.prog X.w A R (X.sh h t) ⟨k _ (.head _),k _ (.tail _ (.head _)),fun j j1 j2=>?_,?_⟩
 ·have hj:j < 4:=j1
  match j,hj with
  | 0,_ => exact c1
  | 1,_ => exact c2
  | 2,_ => exact c3
  | 3,_ => exact c4
 ·exact hR () h ⟨D'.mem,D'.size,D'.fz⟩
end
section
variable {tk:Tok} {n t:Nat}
include MB hB in
theorem up_a (hD:Lim D U 50)  :
  CutOk (XX w r g d os) B D U (.builtin "str.upper" ⟨[(.str (⟨#[97]⟩:Str) tk)],[]⟩) none [] [] (n) (t) (Unit) (fun v=>.ok (.ret (.str (⟨#[65]⟩:Str) t))) (fun v=>[]) (fun v=>[]) (fun v=>n) (fun v=>t+1) (fun v=>[]):=by
 refine .of_q MB hB hD.lo 0 0 ?_
 intro S₀
 let P₀:Rows→Pk (XX w r g d os) B D U S₀ []:=fun x₀=>(.f [] [] ())
 exact ⟨P₀,by intro x; kernel_rfl⟩
include MB hB in
theorem up_b (hD:Lim D U 50)  :
  CutOk (XX w r g d os) B D U (.builtin "str.upper" ⟨[(.str (⟨#[98]⟩:Str) tk)],[]⟩) none [] [] (n) (t) (Unit) (fun v=>.ok (.ret (.str (⟨#[66]⟩:Str) t))) (fun v=>[]) (fun v=>[]) (fun v=>n) (fun v=>t+1) (fun v=>[]):=by
 refine .of_q MB hB hD.lo 0 0 ?_
 intro S₀
 let P₀:Rows→Pk (XX w r g d os) B D U S₀ []:=fun x₀=>(.f [] [] ())
 exact ⟨P₀,by intro x; kernel_rfl⟩
include MB hB in
theorem up_c (hD:Lim D U 50)  :
  CutOk (XX w r g d os) B D U (.builtin "str.upper" ⟨[(.str (⟨#[99]⟩:Str) tk)],[]⟩) none [] [] (n) (t) (Unit) (fun v=>.ok (.ret (.str (⟨#[67]⟩:Str) t))) (fun v=>[]) (fun v=>[]) (fun v=>n) (fun v=>t+1) (fun v=>[]):=by
 refine .of_q MB hB hD.lo 0 0 ?_
 intro S₀
 let P₀:Rows→Pk (XX w r g d os) B D U S₀ []:=fun x₀=>(.f [] [] ())
 exact ⟨P₀,by intro x; kernel_rfl⟩
include MB hB in
theorem up_d (hD:Lim D U 50)  :
  CutOk (XX w r g d os) B D U (.builtin "str.upper" ⟨[(.str (⟨#[100]⟩:Str) tk)],[]⟩) none [] [] (n) (t) (Unit) (fun v=>.ok (.ret (.str (⟨#[68]⟩:Str) t))) (fun v=>[]) (fun v=>[]) (fun v=>n) (fun v=>t+1) (fun v=>[]):=by
 refine .of_q MB hB hD.lo 0 0 ?_
 intro S₀
 let P₀:Rows→Pk (XX w r g d os) B D U S₀ []:=fun x₀=>(.f [] [] ())
 exact ⟨P₀,by intro x; kernel_rfl⟩
noncomputable def up (k:Str):Str:=if k = sa then uA else if k = sb then uB else if k = sc then uC else uD
theorem low_up {p:Str} (h:Let p):low (up p) = p:=by
 rcases h with rfl | rfl | rfl | rfl <;> simp [low,up] <;> decide
theorem arg_up {p:Str} (h:Let p):Arg (up p):=by
 rcases h with rfl | rfl | rfl | rfl <;> simp [up,Arg,Key] <;> decide
theorem let_arg {p:Str} (h:Let p):Arg p:=by
 rcases h with rfl | rfl | rfl | rfl <;> simp [Arg,Key]
theorem let_key {p:Str} (h:Let p):p = sa∨Key p:=by
 rcases h with rfl | rfl | rfl | rfl <;> simp [Key]
theorem low_let {p:Str} (h:Let p):low p = p:=by
 rcases h with rfl | rfl | rfl | rfl <;> simp [low] <;> decide
include MB hB in
theorem upper_ok (hD:Lim D U 50) {p:Str} (hp:Let p) {tk:Tok} {n t:Nat} :
  CutOk (XX w r g d os) B D U (.builtin "str.upper" ⟨[.str p tk],[]⟩) none [] [] n t Unit (fun _=>.ok (.ret (.str (up p) t))) (fun _=>[]) (fun _=>[]) (fun _=>n) (fun _=>t+1) (fun _=>[]):=by
 rcases hp with rfl | rfl | rfl | rfl
 ·exact up_a MB hB hD
 ·exact up_b MB hB hD
 ·exact up_c MB hB hD
 ·exact up_d MB hB hD
include MB hB in
theorem get_p_ok (hD:Lim D U 60) {es:List Ent} (hes:0 < es.length∧es.length≤1000) (hks:∀ x∈es,Key x.k) (hp:∀ h,B h→PairsIn es h) {k p:Str} (hk:Arg k) (hkp:low k = p) {tk:Tok} {T dT H e N t:Nat} {h1:Int} {t1:Tok} :
  CutOk (XX w r g d os) B D U (.call (.ref 121) ⟨[.ref (T+355),.str k tk],[]⟩) none [] [(T+355,hdrO dT),(dT+355,hdrD h1 t1 H),(H+355,listO (es.map Ent.v) e)] (N+355) t
   {v:Pl // N≤v.n} (fun _=>.ok (.ret (.ref (N+359)))) (fun v=>[(N+359,listO (hits p es) v.1.e)]) (fun _=>[]) (fun v=>v.1.n+355) (fun v=>v.1.t) (fun _=>[]):=by
 subst hkp
 exact get_all_ok MB hB hD hes hks hp hk
include MB hB in
theorem del_p_ok (hD:Lim D U 60) {es:List Ent} (hes:0 < es.length∧es.length≤1000) (hks:∀ x∈es,Key x.k) (hp:∀ h,B h→PairsIn es h) {p:Str} (hk:Let p) {tk:Tok} {T dT H e N t:Nat} {h1:Int} {t1:Tok} (hH:H < N) :
  CutOk (XX w r g d os) B D U (.call (.ref 102) ⟨[.ref (T+355),.str p tk],[]⟩) none [(H+355,listO (es.map Ent.v) e)] [(T+355,hdrO dT),(dT+355,hdrD h1 t1 H)] (N+355) t
   {v:Pl // N≤v.n} (fun _=>.ok (.ret .none)) (fun _=>[]) (fun v=>[listO ((keepE p es).map Ent.v) v.1.e]) (fun v=>v.1.n+355) (fun v=>v.1.t) (fun _=>[]):=by
 have:=delitem_ok (g:=g) (d:=d) (os:=os) MB hB hD hes hks hp (let_arg hk) (tk:=tk) (T:=T) (dT:=dT) (H:=H) (e:=e) (N:=N) (t:=t) (h1:=h1) (t1:=t1) hH
 rw [low_let hk] at this
 exact this
include MB hB in
theorem leq_c {H G e e2 n t:Nat} {v:Value} {vs:List Value} (hD:Lim D U 50)  :
  CutOk (XX w r g d os) B D U (.builtin "list.__eq__" ⟨[.ref H,.ref G],[]⟩) none [] [(H,listO (v :: vs) e),(G,listO [] e2)] (n) (t) (Unit) (fun v=>.ok (.ret (.bool false))) (fun v=>[]) (fun v=>[]) (fun v=>n) (fun v=>t) (fun v=>[]):=by
 refine .of_q MB hB hD.lo 0 0 ?_
 intro S₀
 let P₀:Rows→Pk (XX w r g d os) B D U S₀ []:=fun x₀=>(.f [4,2,4] (ixL [G,H] [0,1,0]) ())
 exact ⟨P₀,by intro x; kernel_rfl⟩
variable {H G e e2:Nat}
include MB hB in
theorem leq_n (hD:Lim D U 50)  :
  CutOk (XX w r g d os) B D U (.builtin "list.__eq__" ⟨[.ref H,.ref G],[]⟩) none [] [(H,listO [] e),(G,listO [] e2)] (n) (t) (Unit) (fun v=>.ok (.ret (.bool true))) (fun v=>[]) (fun v=>[]) (fun v=>n) (fun v=>t) (fun v=>[]):=by
 refine .of_q MB hB hD.lo 0 0 ?_
 intro S₀
 let P₀:Rows→Pk (XX w r g d os) B D U S₀ []:=fun x₀=>(.f (d6 8 0x42421424) (ix [G,H] 7 0x101010) ())
 exact ⟨P₀,by intro x; kernel_rfl⟩
include MB hB in
theorem lne_c {H G e e2 n t:Nat} {v:Value} {vs:List Value} (hD:Lim D U 50)  :
  CutOk (XX w r g d os) B D U (.builtin "list.__ne__" ⟨[.ref H,.ref G],[]⟩) none [] [(H,listO (v :: vs) e),(G,listO [] e2)] (n) (t) (Unit) (fun v=>.ok (.ret (.bool true))) (fun v=>[]) (fun v=>[]) (fun v=>n) (fun v=>t) (fun v=>[]):=by
 refine .of_q MB hB hD.lo 0 0 ?_
 intro S₀
 let P₀:Rows→Pk (XX w r g d os) B D U S₀ []:=fun x₀=>(.f [4,2,4] (ixL [G,H] [0,1,0]) ())
 exact ⟨P₀,by intro x; kernel_rfl⟩
include MB hB in
theorem lne_n (hD:Lim D U 50)  :
  CutOk (XX w r g d os) B D U (.builtin "list.__ne__" ⟨[.ref H,.ref G],[]⟩) none [] [(H,listO [] e),(G,listO [] e2)] (n) (t) (Unit) (fun v=>.ok (.ret (.bool false))) (fun v=>[]) (fun v=>[]) (fun v=>n) (fun v=>t) (fun v=>[]):=by
 refine .of_q MB hB hD.lo 0 0 ?_
 intro S₀
 let P₀:Rows→Pk (XX w r g d os) B D U S₀ []:=fun x₀=>(.f (d6 8 0x42421424) (ix [G,H] 7 0x101010) ())
 exact ⟨P₀,by intro x; kernel_rfl⟩
end
section
noncomputable abbrev stpCode (w:World) (r:Rows) (I F0:Nat):Code:=.forLoop (forT (nthS (fnBody (KF (pr w r)) 334) 3)) (.ref (I+355)) (forB (nthS (fnBody (KF (pr w r)) 334) 3)) (forO (nthS (fnBody (KF (pr w r)) 334) 3)) { scope:=fnScope (KF (pr w r)) 334,locals:=F0+355,globals:=3,cells:=[],qual:=(⟨#[95,108,97,119,95,115,116,101,112,46,60,108,111,99,97,108,115,62,46]⟩:Str),func:=some 334,code:=.ref 333,frame:=some (F0+355),builtins:=0 }
noncomputable abbrev stp0 (T R:Nat) (h1 h2 h3:Int) (u1 u2 u3:Tok) (p:Str) (tp:Tok):List DictEntry:=[dE h1 (⟨#[116,97,98,108,101]⟩:Str) u1 (.ref (T+355)),dE h2 (⟨#[112,108,97,99,101]⟩:Str) u2 (.str p tp),dE h3 (⟨#[114,111,119]⟩:Str) u3 (.ref (R+355))]
noncomputable abbrev stp1 (T R:Nat) (h1 h2 h3 h4:Int) (u1 u2 u3 u4:Tok) (p:Str) (tp:Tok) (c:Value):List DictEntry:=[dE h1 (⟨#[116,97,98,108,101]⟩:Str) u1 (.ref (T+355)),dE h2 (⟨#[112,108,97,99,101]⟩:Str) u2 (.str p tp),dE h3 (⟨#[114,111,119]⟩:Str) u3 (.ref (R+355)),dE h4 (⟨#[99,111,109,101,115]⟩:Str) u4 c]
structure StV where
 news:List Ent
 fh:Int
 fu:Tok
 fc:Value
 fe:Nat
 i:Nat
 e:Nat
 n:Nat
 t:Nat
noncomputable def Ent.pair (x:Ent):Addr × Obj:=(x.P+355,tupO [.str x.k x.tk,x.x])
noncomputable def News (p:Str) (l:List Value) (news:List Ent):Prop:=news.map (fun e=>(e.k,e.x)) = l.map (fun x=>(p,x))
noncomputable def IsV3 (v:Value):Prop:=∃ y ty,Val3 y∧v = .str y ty
variable {I F0 T R dT H G i e eg ep N t:Nat} {h1 h2 h3 k1:Int} {u1 u2 u3 s1:Tok} {p y:Str} {tp ty:Tok} {vs ls:List Value}
include MB hB in
theorem stp_t0 (hD:Lim D U 70) (hp:Let p) (hy:Val3 y) (hl:vs.length≤900) (hi:ls[i]? = some (.str y ty)) (hd:ls.drop i = .str y ty :: ls.drop (i+1)) (IH:∀ (h41:Int) (u41:Tok) (c1:Value) (ep1 e1 N1 t1:Nat) (vs1:List Value),vs1.length≤vs.length+1→N≤N1→CutOk (XX w r g d os) B D U (stpCode w r I F0) none [(I+355,iterO (G+355) (i+1)),(F0+355,frO (stp1 T R h1 h2 h3 h41 u1 u2 u3 u41 p tp c1) ep1),(H+355,listO vs1 e1)] [(G+355,listO ls eg),(T+355,hdrO dT),(dT+355,hdrD k1 s1 H)] (N1+355) t1 ({v:StV // N1≤v.n∧News p (ls.drop (i+1)) v.news}) (fun _=>.ok .next) (fun _=>[]) (fun v=>[iterE v.1.i,frO (stp1 T R h1 h2 h3 v.1.fh u1 u2 u3 v.1.fu p tp v.1.fc) v.1.fe,listO (vs1++v.1.news.map Ent.v) v.1.e]) (fun v=>v.1.n+355) (fun v=>v.1.t) (fun v=>(v.1.news.map Ent.pair).reverse)) :
  CutOk (XX w r g d os) B D U (stpCode w r I F0) none [(I+355,iterO (G+355) i),(F0+355,frO (stp0 T R h1 h2 h3 u1 u2 u3 p tp) ep),(H+355,listO vs e)] [(G+355,listO ls eg),(T+355,hdrO dT),(dT+355,hdrD k1 s1 H)] (N+355) (t) ({v:StV // N≤v.n∧News p (ls.drop (i)) v.news}) (fun v=>.ok .next) (fun v=>[]) (fun v=>[iterE v.1.i,frO (stp1 T R h1 h2 h3 v.1.fh u1 u2 u3 v.1.fu p tp v.1.fc) v.1.fe,listO (vs++v.1.news.map Ent.v) v.1.e]) (fun v=>v.1.n+355) (fun v=>v.1.t) (fun v=>(v.1.news.map Ent.pair).reverse):=by
 refine .of_q MB hB hD.lo 7 0 ?_
 k_data
 let P₀:Rows→Pk (XX w r g d os) B D U S₀ []:=fun x₀=>(.a [1,1,1] [I+355,I+355] 1 0 0 0 [] [0] (next_some (hd:=none) (I:=I+355) (H:=G+355) (i:=i) (e:=eg) (n:=N+355) (t:=t) (vs:=ls) (v:=.str y ty) hi) fun _=>(.a (d6 21 0x33640000400040004333) (ix [F0+355,dT+355,T+355] 10 0x2222100) 4 0 0 0 [] [2,4] (addh_ok (k:=p) (x:=y) (tk:=tp) (tx:=ty) (T:=T) (dT:=dT) (H:=H) (e:=e) (N:=N) (t:=t+1) (h1:=k1) (t1:=s1) (vs:=vs) MB1 hB1 hD.up (let_key hp) hy (by omega)) fun _=>(.o [] [] 7 0 0 0 [] [0,2,4] (IH (h41:=kh w r ⟨#[99,111,109,101,115]⟩) (u41:=t) (c1:=.str y ty) (ep1:=ep+1) (e1:=e+1) (N1:=N+10) (t1:=t+17) (vs1:=vs++[(.ref (N+364))]) (by simp) (by omega)) fun v2=>(.h (r':=(.ok .next)) (l':=[((I+355),iterE v2.1.i),((F0+355),frO [dE h1 ⟨#[116,97,98,108,101]⟩ u1 (.ref (T+355)),dE h2 ⟨#[112,108,97,99,101]⟩ u2 (.str p tp),dE h3 ⟨#[114,111,119]⟩ u3 (.ref (R+355)),dE v2.1.fh ⟨#[99,111,109,101,115]⟩ v2.1.fu v2.1.fc] v2.1.fe),((H+355),listO (vs++[(.ref (N+364))]++List.map Ent.v v2.1.news) v2.1.e)]) (m':=(v2.1.n+355)) (k':=v2.1.t) (z':=([]++((List.map Ent.pair v2.1.news).reverse++[((N+364),⟨(.type "tuple"),none,.seq ⟨[(.str p tp),(.str y ty)]⟩ 0,⟨[]⟩⟩)]))) ⟨⟨⟨⟨N+9,p,tp,.str y ty⟩ :: v2.1.news,v2.1.fh,v2.1.fu,v2.1.fc,v2.1.fe,v2.1.i,v2.1.e,v2.1.n,v2.1.t⟩,by have:=v2.2.1; show N≤v2.1.n; omega,by have:=v2.2.2; unfold News at *; rw [hd]; simp [this]⟩,rfl,(by simp [S₀,setO,Ent.v]),rfl,rfl,(by simp [S₀,Ent.pair])⟩))))
 exact ⟨P₀,by intro x; kernel_rfl⟩
variable {h4:Int} {u4:Tok} {c:Value}
include MB hB in
theorem stp_t1 (hD:Lim D U 70) (hp:Let p) (hy:Val3 y) (hl:vs.length≤900) (hi:ls[i]? = some (.str y ty)) (hd:ls.drop i = .str y ty :: ls.drop (i+1)) (IH:∀ (h41:Int) (u41:Tok) (c1:Value) (ep1 e1 N1 t1:Nat) (vs1:List Value),vs1.length≤vs.length+1→N≤N1→CutOk (XX w r g d os) B D U (stpCode w r I F0) none [(I+355,iterO (G+355) (i+1)),(F0+355,frO (stp1 T R h1 h2 h3 h41 u1 u2 u3 u41 p tp c1) ep1),(H+355,listO vs1 e1)] [(G+355,listO ls eg),(T+355,hdrO dT),(dT+355,hdrD k1 s1 H)] (N1+355) t1 ({v:StV // N1≤v.n∧News p (ls.drop (i+1)) v.news}) (fun _=>.ok .next) (fun _=>[]) (fun v=>[iterE v.1.i,frO (stp1 T R h1 h2 h3 v.1.fh u1 u2 u3 v.1.fu p tp v.1.fc) v.1.fe,listO (vs1++v.1.news.map Ent.v) v.1.e]) (fun v=>v.1.n+355) (fun v=>v.1.t) (fun v=>(v.1.news.map Ent.pair).reverse)) :
  CutOk (XX w r g d os) B D U (stpCode w r I F0) none [(I+355,iterO (G+355) i),(F0+355,frO (stp1 T R h1 h2 h3 h4 u1 u2 u3 u4 p tp c) ep),(H+355,listO vs e)] [(G+355,listO ls eg),(T+355,hdrO dT),(dT+355,hdrD k1 s1 H)] (N+355) (t) ({v:StV // N≤v.n∧News p (ls.drop (i)) v.news}) (fun v=>.ok .next) (fun v=>[]) (fun v=>[iterE v.1.i,frO (stp1 T R h1 h2 h3 v.1.fh u1 u2 u3 v.1.fu p tp v.1.fc) v.1.fe,listO (vs++v.1.news.map Ent.v) v.1.e]) (fun v=>v.1.n+355) (fun v=>v.1.t) (fun v=>(v.1.news.map Ent.pair).reverse):=by
 refine .of_q MB hB hD.lo 7 0 ?_
 k_data
 let P₀:Rows→Pk (XX w r g d os) B D U S₀ []:=fun x₀=>(.a [1,1,1] [I+355,I+355] 1 0 0 0 [] [0] (next_some (hd:=none) (I:=I+355) (H:=G+355) (i:=i) (e:=eg) (n:=N+355) (t:=t) (vs:=ls) (v:=.str y ty) hi) fun _=>(.a (d6 21 0x33640000400040004333) (ix [F0+355,dT+355,T+355] 10 0x2222100) 4 0 0 0 [] [2,4] (addh_ok (k:=p) (x:=y) (tk:=tp) (tx:=ty) (T:=T) (dT:=dT) (H:=H) (e:=e) (N:=N) (t:=t+1) (h1:=k1) (t1:=s1) (vs:=vs) MB1 hB1 hD.up (let_key hp) hy (by omega)) fun _=>(.o [] [] 7 0 0 0 [] [0,2,4] (IH (h41:=h4) (u41:=u4) (c1:=.str y ty) (ep1:=ep) (e1:=e+1) (N1:=N+10) (t1:=t+17) (vs1:=vs++[(.ref (N+364))]) (by simp) (by omega)) fun v2=>(.h (r':=(.ok .next)) (l':=[((I+355),iterE v2.1.i),((F0+355),frO [dE h1 ⟨#[116,97,98,108,101]⟩ u1 (.ref (T+355)),dE h2 ⟨#[112,108,97,99,101]⟩ u2 (.str p tp),dE h3 ⟨#[114,111,119]⟩ u3 (.ref (R+355)),dE v2.1.fh ⟨#[99,111,109,101,115]⟩ v2.1.fu v2.1.fc] v2.1.fe),((H+355),listO (vs++[(.ref (N+364))]++List.map Ent.v v2.1.news) v2.1.e)]) (m':=(v2.1.n+355)) (k':=v2.1.t) (z':=([]++((List.map Ent.pair v2.1.news).reverse++[((N+364),⟨(.type "tuple"),none,.seq ⟨[(.str p tp),(.str y ty)]⟩ 0,⟨[]⟩⟩)]))) ⟨⟨⟨⟨N+9,p,tp,.str y ty⟩ :: v2.1.news,v2.1.fh,v2.1.fu,v2.1.fc,v2.1.fe,v2.1.i,v2.1.e,v2.1.n,v2.1.t⟩,by have:=v2.2.1; show N≤v2.1.n; omega,by have:=v2.2.2; unfold News at *; rw [hd]; simp [this]⟩,rfl,(by simp [S₀,setO,Ent.v]),rfl,rfl,(by simp [S₀,Ent.pair])⟩))))
 exact ⟨P₀,by intro x; kernel_rfl⟩
include MB hB in
theorem stp_end (hD:Lim D U 70) (hi:ls[i]? = none) :
  CutOk (XX w r g d os) B D U (stpCode w r I F0) none [(I+355,iterO (G+355) i),(F0+355,frO (stp1 T R h1 h2 h3 h4 u1 u2 u3 u4 p tp c) ep),(H+355,listO vs e)] [(G+355,listO ls eg)] (N+355) (t) ({v:StV // N≤v.n∧News p (ls.drop (i)) v.news}) (fun v=>.ok .next) (fun v=>[]) (fun v=>[iterE v.1.i,frO (stp1 T R h1 h2 h3 v.1.fh u1 u2 u3 v.1.fu p tp v.1.fc) v.1.fe,listO (vs++v.1.news.map Ent.v) v.1.e]) (fun v=>v.1.n+355) (fun v=>v.1.t) (fun v=>(v.1.news.map Ent.pair).reverse):=by
 refine .of_q MB hB hD.lo 28 0 ?_
 intro S₀
 let P₀:Rows→Pk (XX w r g d os) B D U S₀ []:=fun x₀=>(.a [1,1,1] [I+355,I+355] 1 0 0 0 [] [0] (next_none (I:=I+355) (H:=G+355) (i:=i) (e:=eg) (n:=N+355) (t:=t) (vs:=ls) hi) fun _=>(.k [1,1] [N+356] (r':=(.ok .next)) (l':=[((I+355),iterE i),((F0+355),frO [dE h1 ⟨#[116,97,98,108,101]⟩ u1 (.ref (T+355)),dE h2 ⟨#[112,108,97,99,101]⟩ u2 (.str p tp),dE h3 ⟨#[114,111,119]⟩ u3 (.ref (R+355)),dE h4 ⟨#[99,111,109,101,115]⟩ u4 c] ep),((H+355),listO vs e)]) (m':=(N+357)) (k':=t) (z':=[]) ⟨⟨⟨[],h4,u4,c,ep,i,e,N+2,t⟩,by show N≤N+2; omega,by unfold News; rw [List.drop_of_length_le (by simpa using hi)]; rfl⟩,rfl,(by simp [S₀,setO]),rfl,rfl,rfl⟩))
 exact ⟨P₀,by intro x; kernel_rfl⟩
section
variable {w:World} {r:Rows} {g:Array GenState} {d:Drawn} {os:OsState} {B:Heap→Prop} {D U:Nat}
theorem getV {ls:List Value} {i m:Nat} (h:ls.length = i + (m+1)):∃ x,ls[i]? = some x∧x∈ls∧ls.drop i = x :: ls.drop (i+1):=by
 have hlt:i < ls.length:=by omega
 exact ⟨ls[i],List.getElem?_eq_getElem hlt,List.getElem_mem hlt,List.drop_eq_getElem_cons hlt⟩
theorem stp_loop1 (MB:Mono B) (hB:∀ h,B h→(KF (pr w r)).In h) (hD:Lim D U 70) {I F0 T R dT H G eg:Nat} {h1 h2 h3 k1:Int} {u1 u2 u3 s1:Tok} {p:Str} {tp:Tok} {ls:List Value} (hp:Let p) (hls:∀ x∈ls,IsV3 x) :
  ∀ (m i:Nat),ls.length = i + m→∀ (h4:Int) (u4:Tok) (c:Value) (ep e N t:Nat) (vs:List Value),vs.length + m≤900 →
  CutOk (XX w r g d os) B D U (stpCode w r I F0) none [(I+355,iterO (G+355) i),(F0+355,frO (stp1 T R h1 h2 h3 h4 u1 u2 u3 u4 p tp c) ep),(H+355,listO vs e)] [(G+355,listO ls eg),(T+355,hdrO dT),(dT+355,hdrD k1 s1 H)] (N+355) t ({v:StV // N≤v.n∧News p (ls.drop i) v.news}) (fun _=>.ok .next) (fun _=>[]) (fun v=>[iterE v.1.i,frO (stp1 T R h1 h2 h3 v.1.fh u1 u2 u3 v.1.fu p tp v.1.fc) v.1.fe,listO (vs++v.1.news.map Ent.v) v.1.e]) (fun v=>v.1.n+355) (fun v=>v.1.t) (fun v=>(v.1.news.map Ent.pair).reverse):=by
 intro m
 induction m with
 | zero =>
  intro i hi h4 u4 c ep e N t vs hv
  exact CutOk.wk (fun h b i=>⟨b,.cons (i.nth 0 rfl) .nil⟩) (stp_end MB hB hD (by simp; omega))
 | succ m ih =>
  intro i hi h4 u4 c ep e N t vs hv
  obtain ⟨x,hx,hm,hd⟩:=getV hi
  obtain ⟨y,ty,hy,rfl⟩:=hls x hm
  exact stp_t1 MB hB hD hp hy (by omega) hx hd (fun h41 u41 c1 ep1 e1 N1 t1 vs1 q _=>ih (i+1) (by omega) h41 u41 c1 ep1 e1 N1 t1 vs1 (by omega))
theorem stp_loop0 (MB:Mono B) (hB:∀ h,B h→(KF (pr w r)).In h) (hD:Lim D U 70) {I F0 T R dT H G eg:Nat} {h1 h2 h3 k1:Int} {u1 u2 u3 s1:Tok} {p:Str} {tp:Tok} {ls:List Value} (hp:Let p) (hls:∀ x∈ls,IsV3 x) {ep e N t:Nat} {vs:List Value} (hv:vs.length + ls.length≤900) (h0:0 < ls.length) :
  CutOk (XX w r g d os) B D U (stpCode w r I F0) none [(I+355,iterO (G+355) 0),(F0+355,frO (stp0 T R h1 h2 h3 u1 u2 u3 p tp) ep),(H+355,listO vs e)] [(G+355,listO ls eg),(T+355,hdrO dT),(dT+355,hdrD k1 s1 H)] (N+355) t ({v:StV // N≤v.n∧News p (ls.drop 0) v.news}) (fun _=>.ok .next) (fun _=>[]) (fun v=>[iterE v.1.i,frO (stp1 T R h1 h2 h3 v.1.fh u1 u2 u3 v.1.fu p tp v.1.fc) v.1.fe,listO (vs++v.1.news.map Ent.v) v.1.e]) (fun v=>v.1.n+355) (fun v=>v.1.t) (fun v=>(v.1.news.map Ent.pair).reverse):=by
 obtain ⟨x,hx,hm,hd⟩:=getV (ls:=ls) (i:=0) (m:=ls.length - 1) (by omega)
 obtain ⟨y,ty,hy,rfl⟩:=hls x hm
 exact stp_t0 (i:=0) MB hB hD hp hy (by omega) hx hd (fun h41 u41 c1 ep1 e1 N1 t1 vs1 q _=>stp_loop1 MB hB hD hp hls (ls.length - 1) (0 + 1) (by omega) h41 u41 c1 ep1 e1 N1 t1 vs1 (by omega))
end
end
section
section
variable {w:World} {r:Rows} {g:Array GenState} {d:Drawn} {os:OsState} {B:Heap→Prop} {D U:Nat}
theorem leqF (MB:Mono B) (hB:∀ h,B h→(KF (pr w r)).In h) (hD:Lim D U 50) {H G e e2 n t:Nat} {vs:List Value} (h:vs≠[]) :
  CutOk (XX w r g d os) B D U (.builtin "list.__eq__" ⟨[.ref H,.ref G],[]⟩) none [] [(H,listO vs e),(G,listO [] e2)] n t Unit (fun _=>.ok (.ret (.bool false))) (fun _=>[]) (fun _=>[]) (fun _=>n) (fun _=>t) (fun _=>[]):=by
 cases vs with
 | nil => exact absurd rfl h
 | cons => exact leq_c MB hB hD
theorem leqT (MB:Mono B) (hB:∀ h,B h→(KF (pr w r)).In h) (hD:Lim D U 50) {H G e e2 n t:Nat} {vs:List Value} (h:vs = []) :
  CutOk (XX w r g d os) B D U (.builtin "list.__eq__" ⟨[.ref H,.ref G],[]⟩) none [] [(H,listO vs e),(G,listO [] e2)] n t Unit (fun _=>.ok (.ret (.bool true))) (fun _=>[]) (fun _=>[]) (fun _=>n) (fun _=>t) (fun _=>[]):=by
 subst h; exact leq_n MB hB hD
theorem lneT (MB:Mono B) (hB:∀ h,B h→(KF (pr w r)).In h) (hD:Lim D U 50) {H G e e2 n t:Nat} {vs:List Value} (h:vs≠[]) :
  CutOk (XX w r g d os) B D U (.builtin "list.__ne__" ⟨[.ref H,.ref G],[]⟩) none [] [(H,listO vs e),(G,listO [] e2)] n t Unit (fun _=>.ok (.ret (.bool true))) (fun _=>[]) (fun _=>[]) (fun _=>n) (fun _=>t) (fun _=>[]):=by
 cases vs with
 | nil => exact absurd rfl h
 | cons => exact lne_c MB hB hD
theorem lneF (MB:Mono B) (hB:∀ h,B h→(KF (pr w r)).In h) (hD:Lim D U 50) {H G e e2 n t:Nat} {vs:List Value} (h:vs = []) :
  CutOk (XX w r g d os) B D U (.builtin "list.__ne__" ⟨[.ref H,.ref G],[]⟩) none [] [(H,listO vs e),(G,listO [] e2)] n t Unit (fun _=>.ok (.ret (.bool false))) (fun _=>[]) (fun _=>[]) (fun _=>n) (fun _=>t) (fun _=>[]):=by
 subst h; exact lne_n MB hB hD
end
structure StpV where
 news:List Ent
 e:Nat
 n:Nat
 t:Nat
theorem hits_v3 {p:Str} {es:List Ent} (hg:∀ x∈es,Good x):∀ v∈hits p es,IsV3 v:=by
 intro v hv
 unfold hits at hv
 obtain ⟨x,hx,rfl⟩:=List.mem_map.mp hv
 obtain ⟨_,y,ty,hy,he⟩:=hg x (List.mem_filter.mp hx |>.1)
 exact ⟨y,ty,hy,he⟩
theorem hits_len {p:Str} {es:List Ent}:(hits p es).length≤es.length:=by
 unfold hits
 rw [List.length_map]
 exact List.length_filter_le _ _
theorem keepE_len {p:Str} {es:List Ent}:(keepE p es).length + (hits p es).length = es.length:=by
 unfold keepE hits
 rw [List.length_map]
 induction es with
 | nil => rfl
 | cons x l ih =>
  by_cases h:low x.k = p <;> simp [h] at ih ⊢ <;> omega
variable {T dT H e N t:Nat} {k1:Int} {s1 tp:Tok} {p:Str} {es:List Ent}
include MB hB in
theorem step_nil (hD:Lim D U 90) (hp:Let p) (hes:0 < es.length∧es.length≤400) (hg:∀ x∈es,Good x) (hpr:∀ h,B h→PairsIn es h) (hH:H < N) (hn:hits p es = []) :
  CutOk (XX w r g d os) B D U (.call (.ref 334) ⟨[.ref (T+355),.str p tp],[]⟩) none [(H+355,listO (es.map Ent.v) e)] [(T+355,hdrO dT),(dT+355,hdrD k1 s1 H)] (N+355) (t) ({v:Pl // N≤v.n}) (fun v=>.ok (.ret (.str ⟨#[]⟩ v.1.t))) (fun v=>[]) (fun v=>[listO (es.map Ent.v) e]) (fun v=>v.1.n+355) (fun v=>v.1.t+1) (fun v=>[]):=by
 refine .of_q MB hB hD.lo 8 0 ?_
 k_data
 let P₀:Rows→Pk (XX w r g d os) B D U S₀ []:=fun x₀=>(.a (d6 26 0x11420000200020002110111100) (ix [N+355,dT+355,T+355] 11 0x222210) 0 0 1 3 [] [] (upper_ok (p:=p) (tk:=tp) (n:=N+356) (t:=t+2) MB1 hB1 hD.up hp) fun _=>(.a [0] [] 0 2 1 3 [2] [0,2,1] (get_p_ok (es:=es) (k:=up p) (p:=p) (tk:=t+2) (T:=T) (dT:=dT) (H:=H) (e:=e) (N:=N+1) (t:=t+3) (h1:=k1) (t1:=s1) MB1 hB1 hD.up ⟨hes.1,by omega⟩ (fun x h=>(hg x h).1) (fun h b=>hpr h b.1) (arg_up hp) (low_up hp)) fun v1=>(.a (d6 8 0x31313333) (ix [N+360,v1.1.n+355,N+355] 7 0x2220100) 0 3 1 3 [1,0] [3,1] (leqT (H:=N+360) (G:=v1.1.n+355) (e:=v1.1.e) (e2:=0) (n:=v1.1.n+356) (t:=v1.1.t+1) (vs:=hits p es) MB1 hB1 hD.up hn) fun _=>(.k [] [] (r':=(.ok (.ret (.str ⟨#[]⟩ (v1.1.t+1))))) (l':=[((H+355),listO (List.map Ent.v es) e)]) (m':=(v1.1.n+356)) (k':=(v1.1.t+2)) (z':=[]) ⟨⟨⟨0,v1.1.n+1,v1.1.t+1⟩,by have:=v1.2; show N≤v1.1.n+1; omega⟩,(by k_end),(by k_end),(by k_end),(by k_end),(by k_end)⟩))))
 exact ⟨P₀,by intro ⟨x1,x2,x3,x4⟩; cases x2 <;> kernel_rfl⟩
variable {ty:Tok} {y:Str} {rest:List Value}
include MB hB in
theorem step_cons (hD:Lim D U 90) (hp:Let p) (hes:0 < es.length∧es.length≤400) (hg:∀ x∈es,Good x) (hpr:∀ h,B h→PairsIn es h) (hH:H < N) (hn:hits p es = .str y ty :: rest) :
  CutOk (XX w r g d os) B D U (.call (.ref 334) ⟨[.ref (T+355),.str p tp],[]⟩) none [(H+355,listO (es.map Ent.v) e)] [(T+355,hdrO dT),(dT+355,hdrD k1 s1 H)] (N+355) (t) ({v:StpV // N≤v.n∧News p (rest++[.str y ty]) v.news}) (fun v=>.ok (.ret (.str y ty))) (fun v=>[]) (fun v=>[listO ((keepE p es++v.1.news).map Ent.v) v.1.e]) (fun v=>v.1.n+355) (fun v=>v.1.t) (fun v=>(v.1.news.map Ent.pair).reverse):=by
 refine .of_q MB hB hD.lo 512 0 ?_
 k_data
 let P₀:Rows→Pk (XX w r g d os) B D U S₀ []:=fun x₀=>(.a (d6 26 0x11420000200020002110111100) (ix [N+355,dT+355,T+355] 11 0x222210) 0 0 1 3 [] [] (upper_ok (p:=p) (tk:=tp) (n:=N+356) (t:=t+2) MB1 hB1 hD.up hp) fun _=>(.a [0] [] 0 2 1 3 [2] [0,2,1] (get_p_ok (es:=es) (k:=up p) (p:=p) (tk:=t+2) (T:=T) (dT:=dT) (H:=H) (e:=e) (N:=N+1) (t:=t+3) (h1:=k1) (t1:=s1) MB1 hB1 hD.up ⟨hes.1,by omega⟩ (fun x h=>(hg x h).1) (fun h b=>hpr h b.1) (arg_up hp) (low_up hp)) fun v1=>(.a (d6 8 0x31313333) (ix [N+360,v1.1.n+355,N+355] 7 0x2220100) 0 3 1 3 [1,0] [3,1] (leqF (H:=N+360) (G:=v1.1.n+355) (e:=v1.1.e) (e2:=0) (n:=v1.1.n+356) (t:=v1.1.t+1) (vs:=hits p es) MB1 hB1 hD.up (by rw [hn]; simp)) fun _=>(.a (d6 9 0x20255) (ixL [T+355,N+355] [0,0,1,1]) 8 0 1 3 [] [0,2] (del_p_ok (es:=es) (p:=p) (tk:=tp) (T:=T) (dT:=dT) (H:=H) (e:=e) (N:=v1.1.n+1) (t:=v1.1.t+1) (h1:=k1) (t1:=s1) MB1 hB1 hD.up ⟨hes.1,by omega⟩ (fun x h=>(hg x h).1) (fun h b=>hpr h b.1) hp (by omega)) fun v3=>(.a (d6 6 0x515555) (ixL [N+360,N+355] [0,0,0,0,1]) 0 5 1 3 [1,0] [3,1] (from_ok (hd:=none) (H:=N+360) (S:=v3.1.n+355) (e:=v1.1.e) (n:=v3.1.n+356) (t:=v3.1.t+1) (a:=1) (ta:=v3.1.t) (vs:=hits p es) (by have:=hits_len (p:=p) (es:=es); omega)) fun _=>(.a (d6 6 0x919999) (ixL [N+360,N+355] [0,0,0,0,1]) 0 17 1 3 [1,0] [3,1] (upto_ok (hd:=none) (H:=N+360) (S:=v3.1.n+357) (e:=v1.1.e) (n:=v3.1.n+358) (t:=v3.1.t+2) (a:=1) (ta:=v3.1.t+1) (vs:=hits p es) (by have:=hits_len (p:=p) (es:=es); omega)) fun _=>(.a [5,1,5,1,5] (ixL [v3.1.n+356,v3.1.n+358] [0,0,1,0]) 0 5 1 3 [1,0] [3,1] (ladd_ok (hd:=none) (n:=v3.1.n+359) (t:=v3.1.t+2) (H:=v3.1.n+356) (G:=v3.1.n+358) (vs:=List.drop 1 (hits p es)) (ws:=List.take 1 (hits p es)) (e:=0) (e':=0) (by have:=hits_len (p:=p) (es:=es); simp only [List.length_drop,List.length_take]; omega)) fun _=>(.a (d6 6 0x111111) (ixL [v3.1.n+360,v3.1.n+359] [0,1,1,1]) 769 2 1 3 [0] [1,0,2] (stp_loop0 (I:=v3.1.n+5) (F0:=N) (T:=T) (R:=N+5) (dT:=dT) (H:=H) (G:=v3.1.n+4) (eg:=0) (h1:=kh w r ⟨#[116,97,98,108,101]⟩) (h2:=kh w r ⟨#[112,108,97,99,101]⟩) (h3:=kh w r ⟨#[114,111,119]⟩) (k1:=k1) (u1:=t) (u2:=t+1) (u3:=v1.1.t) (s1:=s1) (p:=p) (tp:=tp) (ls:=List.drop 1 (hits p es)++List.take 1 (hits p es)) (ep:=3) (e:=v3.1.e) (N:=v3.1.n+6) (t:=v3.1.t+2) (vs:=List.map Ent.v (keepE p es)) MB1 hB1 hD.up hp (fun x hx=>hits_v3 hg x (by rcases List.mem_append.mp hx with h | h; exact List.mem_of_mem_drop h; exact List.mem_of_mem_take h)) (by have:=keepE_len (p:=p) (es:=es); simp only [List.length_map,List.length_append,List.length_drop,List.length_take]; omega) (by rw [hn]; simp)) fun v7=>(.a (d8 6 0xf010f0f0f11) (ixL [N+360,N+355] [0,0,0,0,1]) 0 128 1 3 [0] [1] (lget_ok (hd:=none) (n:=v7.1.n+355) (t:=v7.1.t+1) (k:=0) (H:=N+360) (vs:=hits p es) (e:=v1.1.e) (tk:=v7.1.t) (x:=.str y ty) (by rw [hn]; rfl) (by decide)) fun _=>(.k [] [] (r':=(.ok (.ret (.str y ty)))) (l':=[((H+355),listO (List.map Ent.v (keepE p es)++List.map Ent.v v7.1.news) v7.1.e)]) (m':=(v7.1.n+355)) (k':=(v7.1.t+1)) (z':=([]++((List.map Ent.pair v7.1.news).reverse++[]))) ⟨⟨⟨v7.1.news,v7.1.e,v7.1.n,v7.1.t+1⟩,by have h1:=v1.2; have h3:=v3.2; have h7:=v7.2.1; show N≤v7.1.n; omega,by have h2:=v7.2.2; simpa [hn] using h2⟩,rfl,(by simp [S₀,setO]),rfl,rfl,(by simp [S₀])⟩))))))))))
 exact ⟨P₀,by intro ⟨x1,x2,x3,x4⟩; cases x2 <;> kernel_rfl⟩
end
section
noncomputable abbrev whCode (w:World) (r:Rows) (F0:Nat):Code:=.whileLoop (whT (nthS (forB (nthS (fnBody (KF (pr w r)) 339) 1)) 1)) (whB (nthS (forB (nthS (fnBody (KF (pr w r)) 339) 1)) 1)) (whO (nthS (forB (nthS (fnBody (KF (pr w r)) 339) 1)) 1)) { scope:=fnScope (KF (pr w r)) 339,locals:=F0+355,globals:=3,cells:=[],qual:=(⟨#[95,108,97,119,95,111,110,101,95,98,121,95,111,110,101,46,60,108,111,99,97,108,115,62,46]⟩:Str),func:=some 339,code:=.ref 338,frame:=some (F0+355),builtins:=0 }
structure Cnt where
 a:Int
 b:Int
 c:Int
 d:Int
structure CT where
 a:Tok
 b:Tok
 c:Tok
 d:Tok
structure CH where
 a:Int
 b:Int
 c:Int
 d:Int
noncomputable def sE:Str:=⟨#[]⟩
noncomputable def Cnt.inc (k:Cnt) (p:Str):Cnt:=if p = sa then { k with a:=k.a+1 } else if p = sb then { k with b:=k.b+1 } else if p = sc then { k with c:=k.c+1 } else { k with d:=k.d+1 }
noncomputable abbrev cntO (h:CH) (kt:CT) (ia ib ic id:Int) (ua ub uc ud:Tok) (ep:Nat):Obj:=⟨.type "dict",none,.dict ⟨[⟨h.a,.str ⟨#[97]⟩ kt.a,.int ia ua⟩,⟨h.b,.str ⟨#[98]⟩ kt.b,.int ib ub⟩,⟨h.c,.str ⟨#[99]⟩ kt.c,.int ic uc⟩,⟨h.d,.str ⟨#[100]⟩ kt.d,.int id ud⟩]⟩ ep,#[]⟩
noncomputable abbrev ob1 (T S Vd:Nat) (h1 h2 h3 h4 h5:Int) (u1 u2 u3 u4 u5:Tok) (st pl:Value):List DictEntry:=[dE h1 (⟨#[116,97,98,108,101]⟩:Str) u1 (.ref (T+355)),dE h2 (⟨#[115,116,97,114,116,115]⟩:Str) u2 (.ref (S+355)),dE h3 (⟨#[118,105,115,105,116,115]⟩:Str) u3 (.ref (Vd+355)),dE h4 (⟨#[115,116,97,114,116]⟩:Str) u4 st,dE h5 (⟨#[112,108,97,99,101]⟩:Str) u5 pl]
structure WhV where
 es:List Ent
 news:List Ent
 k:Cnt
 u:CT
 pt:Tok
 e:Nat
 n:Nat
 t:Nat
noncomputable def rk (p:Str):Nat:=if p = sa then 1 else if p = sb then 2 else if p = sc then 3 else if p = sd then 4 else 0
noncomputable def Dwn (e:Ent):Prop:=Key e.k∧∃ y ty,Let y∧rk y < rk (low e.k)∧e.x = .str y ty
inductive Walk:List Ent→Cnt→Str→List Ent→Cnt→Prop
 | stop (es:List Ent) (k:Cnt):Walk es k sE es k
 | last (es:List Ent) (k:Cnt) (p:Str):Let p→hits p es = []→Walk es k p es (k.inc p)
 | more (es:List Ent) (k:Cnt) (p y:Str) (ty:Tok) (rest:List Value) (news es':List Ent) (k':Cnt):Let p→hits p es = .str y ty :: rest→News p (rest++[.str y ty]) news→Walk (keepE p es++news) (k.inc p) y es' k'→Walk es k p es' k'
noncomputable def WhOut (es:List Ent) (k:Cnt) (p:Str) (N:Nat) (v:WhV):Prop:=N≤v.n∧Walk es k p v.es v.k∧(∀ x∈v.es,x∈es∨x∈v.news)
theorem dwn_good {e:Ent} (h:Dwn e):Good e:=by
 obtain ⟨hk,y,ty,hy,hr,hx⟩:=h
 refine ⟨hk,y,ty,?_,hx⟩
 rcases hy with rfl | rfl | rfl | rfl
 ·exact .inl rfl
 ·exact .inr (.inl rfl)
 ·exact .inr (.inr rfl)
 ·exfalso
  rcases hk with h | h | h | h | h | h <;> rw [h] at hr <;> revert hr <;> decide
variable {F0 T S Vd H e ep pe N t:Nat} {h1 h2 h3 h4 h5:Int} {u1 u2 u3 u4 u5:Tok} {ch:CH} {kt u:CT} {k:Cnt} {st:Value} {tq:Tok} {es:List Ent}
include MB hB in
theorem wh_end (hD:Lim D U 100)  :
  CutOk (XX w r g d os) B D U (whCode w r F0) none [(Vd+355,cntO ch kt k.a k.b k.c k.d u.a u.b u.c u.d ep),(F0+355,frO (ob1 T S Vd h1 h2 h3 h4 h5 u1 u2 u3 u4 u5 st (.str ⟨#[]⟩ tq)) pe),(H+355,listO (es.map Ent.v) e)] [] (N+355) (t) ({v:WhV // WhOut es k sE N v}) (fun v=>.ok .next) (fun v=>[]) (fun v=>[cntO ch kt v.1.k.a v.1.k.b v.1.k.c v.1.k.d v.1.u.a v.1.u.b v.1.u.c v.1.u.d ep,frO (ob1 T S Vd h1 h2 h3 h4 h5 u1 u2 u3 u4 u5 st (.str ⟨#[]⟩ v.1.pt)) pe,listO (v.1.es.map Ent.v) v.1.e]) (fun v=>v.1.n+355) (fun v=>v.1.t) (fun v=>(v.1.news.map Ent.pair).reverse):=by
 refine .of_q MB hB hD.lo 7 0 ?_
 intro S₀
 let P₀:Rows→Pk (XX w r g d os) B D U S₀ []:=fun x₀=>(.f [3,1,1] [F0+355] ⟨⟨es,[],k,u,tq,e,N,t+1⟩,Nat.le_refl N,.stop es k,fun x h=>.inl h⟩)
 exact ⟨P₀,by intro ⟨x1,x2,x3,x4⟩; cases x2 <;> kernel_rfl⟩
theorem key_of_hit {q:Str} {es:List Ent} (hg:∀ x∈es,Dwn x) {v:Value} (hv:v∈hits q es):∃ x∈es,low x.k = q∧v = x.x:=by
 unfold hits at hv
 obtain ⟨x,hx,rfl⟩:=List.mem_map.mp hv
 obtain ⟨h1,h2⟩:=List.mem_filter.mp hx
 exact ⟨x,h1,by simpa using h2,rfl⟩
theorem low_low {k:Str} (h:Key k):low (low k) = low k∧Key (low k):=by
 rcases h with rfl | rfl | rfl | rfl | rfl | rfl <;> simp [low,Key] <;> decide
theorem news_dwn {q:Str} {es news:List Ent} {l:List Value} (hg:∀ x∈es,Dwn x) (hl:∀ v∈l,v∈hits q es) (hn:News q l news):∀ x∈news,Dwn x:=by
 intro x hx
 have h1:(x.k,x.x)∈news.map (fun e=>(e.k,e.x)):=List.mem_map_of_mem hx
 unfold News at hn
 rw [hn] at h1
 obtain ⟨v,hv,he⟩:=List.mem_map.mp h1
 have e1:q = x.k:=congrArg Prod.fst he
 have e2:v = x.x:=congrArg Prod.snd he
 obtain ⟨x',hx',hlow,hx2⟩:=key_of_hit hg (hl v hv)
 obtain ⟨hk,y,ty,hy,hr,hxx⟩:=hg x' hx'
 obtain ⟨g1,g2⟩:=low_low hk
 rw [hlow] at g1 g2 hr
 refine ⟨e1 ▸ g2,y,ty,hy,?_,by rw [← e2,hx2,hxx]⟩
 rw [← e1,g1]; exact hr
theorem step_dwn {q y:Str} {ty:Tok} {es news:List Ent} {rest:List Value} (hg:∀ x∈es,Dwn x) (hn:hits q es = .str y ty :: rest) (hw:News q (rest++[.str y ty]) news) :
  (keepE q es++news).length = es.length∧(∀ x∈keepE q es++news,Dwn x)∧(∀ x∈keepE q es++news,x∈es∨x∈news):=by
 refine ⟨?_,fun x hx=>?_,fun x hx=>?_⟩
 ·have h1:=keepE_len (p:=q) (es:=es)
  have h2:=congrArg List.length hw
  rw [hn] at h1
  simp at h1 h2 ⊢
  omega
 ·rcases List.mem_append.mp hx with h | h
  ·exact hg x (List.mem_filter.mp h).1
  ·refine news_dwn hg (fun v hv=>?_) hw x h
   rw [hn]
   simp at hv ⊢
   exact hv.symm
 ·rcases List.mem_append.mp hx with h | h
  ·exact .inl (List.mem_filter.mp h).1
  ·exact .inr h
theorem pairs_step {B:Heap→Prop} {es es1 news:List Ent} {im:List (Addr × Obj)} {h:Heap} (hp:PairsIn es h) (hi:ImIn im h) (hsub:∀ x∈news,x.pair∈im) (hm:∀ x∈es1,x∈es∨x∈news):PairsIn es1 h:=fun x hx=>by
 rcases hm x hx with h1 | h1
 ·exact hp x h1
 ·exact hi _ (hsub x h1)
noncomputable abbrev A_13 (ch:CH) (kt:CT) (k:Cnt) (u:CT):List DictEntry:=[dE ch.a ⟨#[97]⟩ kt.a (.int k.a u.a),dE ch.b ⟨#[98]⟩ kt.b (.int k.b u.b),dE ch.c ⟨#[99]⟩ kt.c (.int k.c u.c),dE ch.d ⟨#[100]⟩ kt.d (.int k.d u.d)]
variable {dT:Nat} {k1:Int} {s1:Tok}
include MB hB in
theorem wh_nil_a (hD:Lim D U 100) (hes:0 < es.length∧es.length≤400) (hg:∀ x∈es,Dwn x) (hpr:∀ h,B h→PairsIn es h) (hH:H < N) (hn:hits sa es = []) :
  CutOk (XX w r g d os) B D U (whCode w r F0) none [(Vd+355,cntO ch kt k.a k.b k.c k.d u.a u.b u.c u.d ep),(F0+355,frO (ob1 T S Vd h1 h2 h3 h4 h5 u1 u2 u3 u4 u5 st (.str ⟨#[97]⟩ tq)) pe),(H+355,listO (es.map Ent.v) e)] [(T+355,hdrO dT),(dT+355,hdrD k1 s1 H)] (N+355) (t) ({v:WhV // WhOut es k sa N v}) (fun v=>.ok .next) (fun v=>[]) (fun v=>[cntO ch kt v.1.k.a v.1.k.b v.1.k.c v.1.k.d v.1.u.a v.1.u.b v.1.u.c v.1.u.d ep,frO (ob1 T S Vd h1 h2 h3 h4 h5 u1 u2 u3 u4 u5 st (.str ⟨#[]⟩ v.1.pt)) pe,listO (v.1.es.map Ent.v) v.1.e]) (fun v=>v.1.n+355) (fun v=>v.1.t) (fun v=>(v.1.news.map Ent.pair).reverse):=by
 refine .of_q MB hB hD.lo 7 0 ?_
 k_data
 let P₀:Rows→Pk (XX w r g d os) B D U S₀ []:=fun x₀=>(.a (d6 10 0x1111133113) (ix [Vd+355,F0+355] 7 0x1110000) 0 1 0 0 [0] [1] (dget_ok (hd:=none) (n:=N+355) (t:=t+1) (H:=Vd+355) (es:=(A_13 ch kt k u)) (ep:=ep) (k:=⟨#[97]⟩) (tk:=tq) rfl rfl) fun _=>(.a (d6 8 0x11113311) (ixL [Vd+355,F0+355] [0,0,0,1,1]) 1 0 0 0 [] [] (dset_ok (hd:=none) (n:=N+355) (t:=t+4) (H:=Vd+355) (es:=(A_13 ch kt k u)) (ep:=ep) (k:=⟨#[97]⟩) (tk:=tq) (v:=.int (k.a+1) (t+3)) rfl rfl) fun _=>(.a [0,3,3,0] [F0+355,F0+355] 4 0 0 0 [] [0,2] (step_nil (T:=T) (dT:=dT) (H:=H) (e:=e) (N:=N) (t:=t+5) (k1:=k1) (s1:=s1) (tp:=tq) (p:=⟨#[97]⟩) (es:=es) MB1 hB1 hD.up (.inl rfl) hes (fun x h=>dwn_good (hg x h)) (fun h b=>hpr h b.1) (by omega) hn) fun v2=>(.f (d6 6 0x113133) (ixL [F0+355] [0,0,0]) ⟨⟨es,[],k.inc sa,⟨t+3,u.b,u.c,u.d⟩,v2.1.t,e,v2.1.n,v2.1.t+3⟩,by have:=v2.2; show N≤v2.1.n; omega,.last es k sa (.inl rfl) hn,fun x h=>.inl h⟩))))
 exact ⟨P₀,by intro ⟨x1,x2,x3,x4⟩; cases x2 <;> kernel_rfl⟩
include MB hB in
theorem wh_nil_b (hD:Lim D U 100) (hes:0 < es.length∧es.length≤400) (hg:∀ x∈es,Dwn x) (hpr:∀ h,B h→PairsIn es h) (hH:H < N) (hn:hits sb es = []) :
  CutOk (XX w r g d os) B D U (whCode w r F0) none [(Vd+355,cntO ch kt k.a k.b k.c k.d u.a u.b u.c u.d ep),(F0+355,frO (ob1 T S Vd h1 h2 h3 h4 h5 u1 u2 u3 u4 u5 st (.str ⟨#[98]⟩ tq)) pe),(H+355,listO (es.map Ent.v) e)] [(T+355,hdrO dT),(dT+355,hdrD k1 s1 H)] (N+355) (t) ({v:WhV // WhOut es k sb N v}) (fun v=>.ok .next) (fun v=>[]) (fun v=>[cntO ch kt v.1.k.a v.1.k.b v.1.k.c v.1.k.d v.1.u.a v.1.u.b v.1.u.c v.1.u.d ep,frO (ob1 T S Vd h1 h2 h3 h4 h5 u1 u2 u3 u4 u5 st (.str ⟨#[]⟩ v.1.pt)) pe,listO (v.1.es.map Ent.v) v.1.e]) (fun v=>v.1.n+355) (fun v=>v.1.t) (fun v=>(v.1.news.map Ent.pair).reverse):=by
 refine .of_q MB hB hD.lo 7 0 ?_
 k_data
 let P₀:Rows→Pk (XX w r g d os) B D U S₀ []:=fun x₀=>(.a (d6 10 0x1111133113) (ix [Vd+355,F0+355] 7 0x1110000) 0 1 0 0 [0] [1] (dget_ok (hd:=none) (n:=N+355) (t:=t+1) (H:=Vd+355) (es:=(A_13 ch kt k u)) (ep:=ep) (k:=⟨#[98]⟩) (tk:=tq) rfl rfl) fun _=>(.a (d6 8 0x11113311) (ixL [Vd+355,F0+355] [0,0,0,1,1]) 1 0 0 0 [] [] (dset_ok (hd:=none) (n:=N+355) (t:=t+4) (H:=Vd+355) (es:=(A_13 ch kt k u)) (ep:=ep) (k:=⟨#[98]⟩) (tk:=tq) (v:=.int (k.b+1) (t+3)) rfl rfl) fun _=>(.a [0,3,3,0] [F0+355,F0+355] 4 0 0 0 [] [0,2] (step_nil (T:=T) (dT:=dT) (H:=H) (e:=e) (N:=N) (t:=t+5) (k1:=k1) (s1:=s1) (tp:=tq) (p:=⟨#[98]⟩) (es:=es) MB1 hB1 hD.up (.inr (.inl rfl)) hes (fun x h=>dwn_good (hg x h)) (fun h b=>hpr h b.1) (by omega) hn) fun v2=>(.k (d6 6 0x113133) (ixL [F0+355] [0,0,0]) (r':=(.ok .next)) (l':=[((Vd+355),dictO [dE ch.a ⟨#[97]⟩ kt.a (.int k.a u.a),dE ch.b ⟨#[98]⟩ kt.b (.int (k.b+1) (t+3)),dE ch.c ⟨#[99]⟩ kt.c (.int k.c u.c),dE ch.d ⟨#[100]⟩ kt.d (.int k.d u.d)] ep),((F0+355),frO [dE h1 ⟨#[116,97,98,108,101]⟩ u1 (.ref (T+355)),dE h2 ⟨#[115,116,97,114,116,115]⟩ u2 (.ref (S+355)),dE h3 ⟨#[118,105,115,105,116,115]⟩ u3 (.ref (Vd+355)),dE h4 ⟨#[115,116,97,114,116]⟩ u4 st,dE h5 ⟨#[112,108,97,99,101]⟩ u5 (.str ⟨#[]⟩ v2.1.t)] pe),((H+355),listO (List.map Ent.v es) e)]) (m':=(v2.1.n+355)) (k':=(v2.1.t+3)) (z':=[]) ⟨⟨⟨es,[],k.inc sb,⟨u.a,t+3,u.c,u.d⟩,v2.1.t,e,v2.1.n,v2.1.t+3⟩,by have:=v2.2; show N≤v2.1.n; omega,.last es k sb (.inr (.inl rfl)) hn,fun x h=>.inl h⟩,(by k_end),(by k_end),(by k_end),(by k_end),(by k_end)⟩))))
 exact ⟨P₀,by intro ⟨x1,x2,x3,x4⟩; cases x2 <;> kernel_rfl⟩
noncomputable abbrev A_17 (w:World) (r:Rows) (es:List Ent) (H:Nat) (g:Array GenState) (d:Drawn) (os:OsState) (D U F0 Vd:Nat) (ch:CH) (kt:CT) (ep T S:Nat) (h1 h2 h3 h4 h5:Int) (u1 u2 u3 u4 u5:Tok) (st:Value) (y:Str) (pe dT:Nat) (k1:Int) (s1:Tok):Prop:=∀ {B':Heap→Prop},Mono B'→(∀ h,B' h→(KF (pr w r)).In h)→∀ (es1:List Ent) (ia ib ic id:Int) (ua ub uc ud ty1:Tok) (e1 N1 t1:Nat),es1.length = es.length→(∀ x∈es1,Dwn x)→(∀ h,B' h→PairsIn es1 h)→H < N1→CutOk (XX w r g d os) B' D U (whCode w r F0) none [(Vd+355,cntO ch kt ia ib ic id ua ub uc ud ep),(F0+355,frO (ob1 T S Vd h1 h2 h3 h4 h5 u1 u2 u3 u4 u5 st (.str y ty1)) pe),(H+355,listO (es1.map Ent.v) e1)] [(T+355,hdrO dT),(dT+355,hdrD k1 s1 H)] (N1+355) t1 ({v:WhV // WhOut es1 ⟨ia,ib,ic,id⟩ y N1 v}) (fun _=>.ok .next) (fun _=>[]) (fun v=>[cntO ch kt v.1.k.a v.1.k.b v.1.k.c v.1.k.d v.1.u.a v.1.u.b v.1.u.c v.1.u.d ep,frO (ob1 T S Vd h1 h2 h3 h4 h5 u1 u2 u3 u4 u5 st (.str ⟨#[]⟩ v.1.pt)) pe,listO (v.1.es.map Ent.v) v.1.e]) (fun v=>v.1.n+355) (fun v=>v.1.t) (fun v=>(v.1.news.map Ent.pair).reverse)
variable {y:Str} {ty:Tok} {rest:List Value}
include MB hB in
theorem wh_cons_b (hD:Lim D U 100) (hes:0 < es.length∧es.length≤400) (hg:∀ x∈es,Dwn x) (hpr:∀ h,B h→PairsIn es h) (hH:H < N) (hn:hits sb es = .str y ty :: rest) (IH:A_17 w r es H g d os D U F0 Vd ch kt ep T S h1 h2 h3 h4 h5 u1 u2 u3 u4 u5 st y pe dT k1 s1) :
  CutOk (XX w r g d os) B D U (whCode w r F0) none [(Vd+355,cntO ch kt k.a k.b k.c k.d u.a u.b u.c u.d ep),(F0+355,frO (ob1 T S Vd h1 h2 h3 h4 h5 u1 u2 u3 u4 u5 st (.str ⟨#[98]⟩ tq)) pe),(H+355,listO (es.map Ent.v) e)] [(T+355,hdrO dT),(dT+355,hdrD k1 s1 H)] (N+355) (t) ({v:WhV // WhOut es k sb N v}) (fun v=>.ok .next) (fun v=>[]) (fun v=>[cntO ch kt v.1.k.a v.1.k.b v.1.k.c v.1.k.d v.1.u.a v.1.u.b v.1.u.c v.1.u.d ep,frO (ob1 T S Vd h1 h2 h3 h4 h5 u1 u2 u3 u4 u5 st (.str ⟨#[]⟩ v.1.pt)) pe,listO (v.1.es.map Ent.v) v.1.e]) (fun v=>v.1.n+355) (fun v=>v.1.t) (fun v=>(v.1.news.map Ent.pair).reverse):=by
 refine .of_q MB hB hD.lo 7 0 ?_
 k_data
 let P₀:Rows→Pk (XX w r g d os) B D U S₀ []:=fun x₀=>(.a (d6 10 0x1111133113) (ix [Vd+355,F0+355] 7 0x1110000) 0 1 0 0 [0] [1] (dget_ok (hd:=none) (n:=N+355) (t:=t+1) (H:=Vd+355) (es:=(A_13 ch kt k u)) (ep:=ep) (k:=⟨#[98]⟩) (tk:=tq) rfl rfl) fun _=>(.a (d6 8 0x11113311) (ixL [Vd+355,F0+355] [0,0,0,1,1]) 1 0 0 0 [] [] (dset_ok (hd:=none) (n:=N+355) (t:=t+4) (H:=Vd+355) (es:=(A_13 ch kt k u)) (ep:=ep) (k:=⟨#[98]⟩) (tk:=tq) (v:=.int (k.b+1) (t+3)) rfl rfl) fun _=>(.a [0,3,3,0] [F0+355,F0+355] 4 0 0 0 [] [0,2] (step_cons (T:=T) (dT:=dT) (H:=H) (e:=e) (N:=N) (t:=t+5) (k1:=k1) (s1:=s1) (tp:=tq) (ty:=ty) (p:=⟨#[98]⟩) (y:=y) (es:=es) (rest:=rest) MB1 hB1 hD.up (.inr (.inl rfl)) hes (fun x h=>dwn_good (hg x h)) (fun h b=>hpr h b.1) (by omega) hn) fun v2=>(.i [3,3] [F0+355,F0+355] 7 0 0 0 [] [0,2] (IH (es1:=keepE sb es++v2.1.news) (ia:=k.a) (ib:=k.b+1) (ic:=k.c) (id:=k.d) (ua:=u.a) (ub:=t+3) (uc:=u.c) (ud:=u.d) (ty1:=ty) (e1:=v2.1.e) (N1:=v2.1.n) (t1:=v2.1.t+1) (MB1.bi _) (fun h b=>hB1 h b.1) (step_dwn hg hn v2.2.2).1 (step_dwn hg hn v2.2.2).2.1 (fun h b=>pairs_step (B:=B) (hpr h b.1.1) b.2 (fun x hx=>by simp; exact ⟨x,hx,rfl⟩) (step_dwn hg hn v2.2.2).2.2) (by have:=v2.2.1; omega)) fun v3=>(.h (r':=(.ok .next)) (l':=[((Vd+355),dictO [dE ch.a ⟨#[97]⟩ kt.a (.int v3.1.k.a v3.1.u.a),dE ch.b ⟨#[98]⟩ kt.b (.int v3.1.k.b v3.1.u.b),dE ch.c ⟨#[99]⟩ kt.c (.int v3.1.k.c v3.1.u.c),dE ch.d ⟨#[100]⟩ kt.d (.int v3.1.k.d v3.1.u.d)] ep),((F0+355),frO [dE h1 ⟨#[116,97,98,108,101]⟩ u1 (.ref (T+355)),dE h2 ⟨#[115,116,97,114,116,115]⟩ u2 (.ref (S+355)),dE h3 ⟨#[118,105,115,105,116,115]⟩ u3 (.ref (Vd+355)),dE h4 ⟨#[115,116,97,114,116]⟩ u4 st,dE h5 ⟨#[112,108,97,99,101]⟩ u5 (.str ⟨#[]⟩ v3.1.pt)] pe),((H+355),listO (List.map Ent.v v3.1.es) v3.1.e)]) (m':=(v3.1.n+355)) (k':=v3.1.t) (z':=([]++((List.map Ent.pair v3.1.news).reverse++((List.map Ent.pair v2.1.news).reverse++[])))) ⟨⟨⟨v3.1.es,v2.1.news++v3.1.news,v3.1.k,v3.1.u,v3.1.pt,v3.1.e,v3.1.n,v3.1.t⟩,by have h2:=v2.2.1; have h3:=v3.2.1; show N≤v3.1.n; omega,.more es k sb y ty rest v2.1.news v3.1.es v3.1.k (.inr (.inl rfl)) hn v2.2.2 v3.2.2.1,fun x h=>by rcases v3.2.2.2 x h with h | h; rcases (step_dwn hg hn v2.2.2).2.2 x h with h | h; exact .inl h; exact .inr (List.mem_append_left _ h); exact .inr (List.mem_append_right _ h)⟩,rfl,(by simp [S₀,setO]),rfl,rfl,(by simp [S₀])⟩)))))
 exact ⟨P₀,by intro ⟨x1,x2,x3,x4⟩; cases x2 <;> kernel_rfl⟩
include MB hB in
theorem wh_nil_c (hD:Lim D U 100) (hes:0 < es.length∧es.length≤400) (hg:∀ x∈es,Dwn x) (hpr:∀ h,B h→PairsIn es h) (hH:H < N) (hn:hits sc es = []) :
  CutOk (XX w r g d os) B D U (whCode w r F0) none [(Vd+355,cntO ch kt k.a k.b k.c k.d u.a u.b u.c u.d ep),(F0+355,frO (ob1 T S Vd h1 h2 h3 h4 h5 u1 u2 u3 u4 u5 st (.str ⟨#[99]⟩ tq)) pe),(H+355,listO (es.map Ent.v) e)] [(T+355,hdrO dT),(dT+355,hdrD k1 s1 H)] (N+355) (t) ({v:WhV // WhOut es k sc N v}) (fun v=>.ok .next) (fun v=>[]) (fun v=>[cntO ch kt v.1.k.a v.1.k.b v.1.k.c v.1.k.d v.1.u.a v.1.u.b v.1.u.c v.1.u.d ep,frO (ob1 T S Vd h1 h2 h3 h4 h5 u1 u2 u3 u4 u5 st (.str ⟨#[]⟩ v.1.pt)) pe,listO (v.1.es.map Ent.v) v.1.e]) (fun v=>v.1.n+355) (fun v=>v.1.t) (fun v=>(v.1.news.map Ent.pair).reverse):=by
 refine .of_q MB hB hD.lo 7 0 ?_
 k_data
 let P₀:Rows→Pk (XX w r g d os) B D U S₀ []:=fun x₀=>(.a (d6 10 0x1111133113) (ix [Vd+355,F0+355] 7 0x1110000) 0 1 0 0 [0] [1] (dget_ok (hd:=none) (n:=N+355) (t:=t+1) (H:=Vd+355) (es:=(A_13 ch kt k u)) (ep:=ep) (k:=⟨#[99]⟩) (tk:=tq) rfl rfl) fun _=>(.a (d6 8 0x11113311) (ixL [Vd+355,F0+355] [0,0,0,1,1]) 1 0 0 0 [] [] (dset_ok (hd:=none) (n:=N+355) (t:=t+4) (H:=Vd+355) (es:=(A_13 ch kt k u)) (ep:=ep) (k:=⟨#[99]⟩) (tk:=tq) (v:=.int (k.c+1) (t+3)) rfl rfl) fun _=>(.a [0,3,3,0] [F0+355,F0+355] 4 0 0 0 [] [0,2] (step_nil (T:=T) (dT:=dT) (H:=H) (e:=e) (N:=N) (t:=t+5) (k1:=k1) (s1:=s1) (tp:=tq) (p:=⟨#[99]⟩) (es:=es) MB1 hB1 hD.up (.inr (.inr (.inl rfl))) hes (fun x h=>dwn_good (hg x h)) (fun h b=>hpr h b.1) (by omega) hn) fun v2=>(.k (d6 6 0x113133) (ixL [F0+355] [0,0,0]) (r':=(.ok .next)) (l':=[((Vd+355),dictO [dE ch.a ⟨#[97]⟩ kt.a (.int k.a u.a),dE ch.b ⟨#[98]⟩ kt.b (.int k.b u.b),dE ch.c ⟨#[99]⟩ kt.c (.int (k.c+1) (t+3)),dE ch.d ⟨#[100]⟩ kt.d (.int k.d u.d)] ep),((F0+355),frO [dE h1 ⟨#[116,97,98,108,101]⟩ u1 (.ref (T+355)),dE h2 ⟨#[115,116,97,114,116,115]⟩ u2 (.ref (S+355)),dE h3 ⟨#[118,105,115,105,116,115]⟩ u3 (.ref (Vd+355)),dE h4 ⟨#[115,116,97,114,116]⟩ u4 st,dE h5 ⟨#[112,108,97,99,101]⟩ u5 (.str ⟨#[]⟩ v2.1.t)] pe),((H+355),listO (List.map Ent.v es) e)]) (m':=(v2.1.n+355)) (k':=(v2.1.t+3)) (z':=[]) ⟨⟨⟨es,[],k.inc sc,⟨u.a,u.b,t+3,u.d⟩,v2.1.t,e,v2.1.n,v2.1.t+3⟩,by have:=v2.2; show N≤v2.1.n; omega,.last es k sc (.inr (.inr (.inl rfl))) hn,fun x h=>.inl h⟩,(by k_end),(by k_end),(by k_end),(by k_end),(by k_end)⟩))))
 exact ⟨P₀,by intro ⟨x1,x2,x3,x4⟩; cases x2 <;> kernel_rfl⟩
include MB hB in
theorem wh_cons_c (hD:Lim D U 100) (hes:0 < es.length∧es.length≤400) (hg:∀ x∈es,Dwn x) (hpr:∀ h,B h→PairsIn es h) (hH:H < N) (hn:hits sc es = .str y ty :: rest) (IH:A_17 w r es H g d os D U F0 Vd ch kt ep T S h1 h2 h3 h4 h5 u1 u2 u3 u4 u5 st y pe dT k1 s1) :
  CutOk (XX w r g d os) B D U (whCode w r F0) none [(Vd+355,cntO ch kt k.a k.b k.c k.d u.a u.b u.c u.d ep),(F0+355,frO (ob1 T S Vd h1 h2 h3 h4 h5 u1 u2 u3 u4 u5 st (.str ⟨#[99]⟩ tq)) pe),(H+355,listO (es.map Ent.v) e)] [(T+355,hdrO dT),(dT+355,hdrD k1 s1 H)] (N+355) (t) ({v:WhV // WhOut es k sc N v}) (fun v=>.ok .next) (fun v=>[]) (fun v=>[cntO ch kt v.1.k.a v.1.k.b v.1.k.c v.1.k.d v.1.u.a v.1.u.b v.1.u.c v.1.u.d ep,frO (ob1 T S Vd h1 h2 h3 h4 h5 u1 u2 u3 u4 u5 st (.str ⟨#[]⟩ v.1.pt)) pe,listO (v.1.es.map Ent.v) v.1.e]) (fun v=>v.1.n+355) (fun v=>v.1.t) (fun v=>(v.1.news.map Ent.pair).reverse):=by
 refine .of_q MB hB hD.lo 7 0 ?_
 k_data
 let P₀:Rows→Pk (XX w r g d os) B D U S₀ []:=fun x₀=>(.a (d6 10 0x1111133113) (ix [Vd+355,F0+355] 7 0x1110000) 0 1 0 0 [0] [1] (dget_ok (hd:=none) (n:=N+355) (t:=t+1) (H:=Vd+355) (es:=(A_13 ch kt k u)) (ep:=ep) (k:=⟨#[99]⟩) (tk:=tq) rfl rfl) fun _=>(.a (d6 8 0x11113311) (ixL [Vd+355,F0+355] [0,0,0,1,1]) 1 0 0 0 [] [] (dset_ok (hd:=none) (n:=N+355) (t:=t+4) (H:=Vd+355) (es:=(A_13 ch kt k u)) (ep:=ep) (k:=⟨#[99]⟩) (tk:=tq) (v:=.int (k.c+1) (t+3)) rfl rfl) fun _=>(.a [0,3,3,0] [F0+355,F0+355] 4 0 0 0 [] [0,2] (step_cons (T:=T) (dT:=dT) (H:=H) (e:=e) (N:=N) (t:=t+5) (k1:=k1) (s1:=s1) (tp:=tq) (ty:=ty) (p:=⟨#[99]⟩) (y:=y) (es:=es) (rest:=rest) MB1 hB1 hD.up (.inr (.inr (.inl rfl))) hes (fun x h=>dwn_good (hg x h)) (fun h b=>hpr h b.1) (by omega) hn) fun v2=>(.i [3,3] [F0+355,F0+355] 7 0 0 0 [] [0,2] (IH (es1:=keepE sc es++v2.1.news) (ia:=k.a) (ib:=k.b) (ic:=k.c+1) (id:=k.d) (ua:=u.a) (ub:=u.b) (uc:=t+3) (ud:=u.d) (ty1:=ty) (e1:=v2.1.e) (N1:=v2.1.n) (t1:=v2.1.t+1) (MB1.bi _) (fun h b=>hB1 h b.1) (step_dwn hg hn v2.2.2).1 (step_dwn hg hn v2.2.2).2.1 (fun h b=>pairs_step (B:=B) (hpr h b.1.1) b.2 (fun x hx=>by simp; exact ⟨x,hx,rfl⟩) (step_dwn hg hn v2.2.2).2.2) (by have:=v2.2.1; omega)) fun v3=>(.h (r':=(.ok .next)) (l':=[((Vd+355),dictO [dE ch.a ⟨#[97]⟩ kt.a (.int v3.1.k.a v3.1.u.a),dE ch.b ⟨#[98]⟩ kt.b (.int v3.1.k.b v3.1.u.b),dE ch.c ⟨#[99]⟩ kt.c (.int v3.1.k.c v3.1.u.c),dE ch.d ⟨#[100]⟩ kt.d (.int v3.1.k.d v3.1.u.d)] ep),((F0+355),frO [dE h1 ⟨#[116,97,98,108,101]⟩ u1 (.ref (T+355)),dE h2 ⟨#[115,116,97,114,116,115]⟩ u2 (.ref (S+355)),dE h3 ⟨#[118,105,115,105,116,115]⟩ u3 (.ref (Vd+355)),dE h4 ⟨#[115,116,97,114,116]⟩ u4 st,dE h5 ⟨#[112,108,97,99,101]⟩ u5 (.str ⟨#[]⟩ v3.1.pt)] pe),((H+355),listO (List.map Ent.v v3.1.es) v3.1.e)]) (m':=(v3.1.n+355)) (k':=v3.1.t) (z':=([]++((List.map Ent.pair v3.1.news).reverse++((List.map Ent.pair v2.1.news).reverse++[])))) ⟨⟨⟨v3.1.es,v2.1.news++v3.1.news,v3.1.k,v3.1.u,v3.1.pt,v3.1.e,v3.1.n,v3.1.t⟩,by have h2:=v2.2.1; have h3:=v3.2.1; show N≤v3.1.n; omega,.more es k sc y ty rest v2.1.news v3.1.es v3.1.k (.inr (.inr (.inl rfl))) hn v2.2.2 v3.2.2.1,fun x h=>by rcases v3.2.2.2 x h with h | h; rcases (step_dwn hg hn v2.2.2).2.2 x h with h | h; exact .inl h; exact .inr (List.mem_append_left _ h); exact .inr (List.mem_append_right _ h)⟩,rfl,(by simp [S₀,setO]),rfl,rfl,(by simp [S₀])⟩)))))
 exact ⟨P₀,by intro ⟨x1,x2,x3,x4⟩; cases x2 <;> kernel_rfl⟩
include MB hB in
theorem wh_nil_d (hD:Lim D U 100) (hes:0 < es.length∧es.length≤400) (hg:∀ x∈es,Dwn x) (hpr:∀ h,B h→PairsIn es h) (hH:H < N) (hn:hits sd es = []) :
  CutOk (XX w r g d os) B D U (whCode w r F0) none [(Vd+355,cntO ch kt k.a k.b k.c k.d u.a u.b u.c u.d ep),(F0+355,frO (ob1 T S Vd h1 h2 h3 h4 h5 u1 u2 u3 u4 u5 st (.str ⟨#[100]⟩ tq)) pe),(H+355,listO (es.map Ent.v) e)] [(T+355,hdrO dT),(dT+355,hdrD k1 s1 H)] (N+355) (t) ({v:WhV // WhOut es k sd N v}) (fun v=>.ok .next) (fun v=>[]) (fun v=>[cntO ch kt v.1.k.a v.1.k.b v.1.k.c v.1.k.d v.1.u.a v.1.u.b v.1.u.c v.1.u.d ep,frO (ob1 T S Vd h1 h2 h3 h4 h5 u1 u2 u3 u4 u5 st (.str ⟨#[]⟩ v.1.pt)) pe,listO (v.1.es.map Ent.v) v.1.e]) (fun v=>v.1.n+355) (fun v=>v.1.t) (fun v=>(v.1.news.map Ent.pair).reverse):=by
 refine .of_q MB hB hD.lo 7 0 ?_
 k_data
 let P₀:Rows→Pk (XX w r g d os) B D U S₀ []:=fun x₀=>(.a (d6 10 0x1111133113) (ix [Vd+355,F0+355] 7 0x1110000) 0 1 0 0 [0] [1] (dget_ok (hd:=none) (n:=N+355) (t:=t+1) (H:=Vd+355) (es:=(A_13 ch kt k u)) (ep:=ep) (k:=⟨#[100]⟩) (tk:=tq) rfl rfl) fun _=>(.a (d6 8 0x11113311) (ixL [Vd+355,F0+355] [0,0,0,1,1]) 1 0 0 0 [] [] (dset_ok (hd:=none) (n:=N+355) (t:=t+4) (H:=Vd+355) (es:=(A_13 ch kt k u)) (ep:=ep) (k:=⟨#[100]⟩) (tk:=tq) (v:=.int (k.d+1) (t+3)) rfl rfl) fun _=>(.a [0,3,3,0] [F0+355,F0+355] 4 0 0 0 [] [0,2] (step_nil (T:=T) (dT:=dT) (H:=H) (e:=e) (N:=N) (t:=t+5) (k1:=k1) (s1:=s1) (tp:=tq) (p:=⟨#[100]⟩) (es:=es) MB1 hB1 hD.up (.inr (.inr (.inr rfl))) hes (fun x h=>dwn_good (hg x h)) (fun h b=>hpr h b.1) (by omega) hn) fun v2=>(.k (d6 6 0x113133) (ixL [F0+355] [0,0,0]) (r':=(.ok .next)) (l':=[((Vd+355),dictO [dE ch.a ⟨#[97]⟩ kt.a (.int k.a u.a),dE ch.b ⟨#[98]⟩ kt.b (.int k.b u.b),dE ch.c ⟨#[99]⟩ kt.c (.int k.c u.c),dE ch.d ⟨#[100]⟩ kt.d (.int (k.d+1) (t+3))] ep),((F0+355),frO [dE h1 ⟨#[116,97,98,108,101]⟩ u1 (.ref (T+355)),dE h2 ⟨#[115,116,97,114,116,115]⟩ u2 (.ref (S+355)),dE h3 ⟨#[118,105,115,105,116,115]⟩ u3 (.ref (Vd+355)),dE h4 ⟨#[115,116,97,114,116]⟩ u4 st,dE h5 ⟨#[112,108,97,99,101]⟩ u5 (.str ⟨#[]⟩ v2.1.t)] pe),((H+355),listO (List.map Ent.v es) e)]) (m':=(v2.1.n+355)) (k':=(v2.1.t+3)) (z':=[]) ⟨⟨⟨es,[],k.inc sd,⟨u.a,u.b,u.c,t+3⟩,v2.1.t,e,v2.1.n,v2.1.t+3⟩,by have:=v2.2; show N≤v2.1.n; omega,.last es k sd (.inr (.inr (.inr rfl))) hn,fun x h=>.inl h⟩,(by k_end),(by k_end),(by k_end),(by k_end),(by k_end)⟩))))
 exact ⟨P₀,by intro ⟨x1,x2,x3,x4⟩; cases x2 <;> kernel_rfl⟩
include MB hB in
theorem wh_cons_d (hD:Lim D U 100) (hes:0 < es.length∧es.length≤400) (hg:∀ x∈es,Dwn x) (hpr:∀ h,B h→PairsIn es h) (hH:H < N) (hn:hits sd es = .str y ty :: rest) (IH:A_17 w r es H g d os D U F0 Vd ch kt ep T S h1 h2 h3 h4 h5 u1 u2 u3 u4 u5 st y pe dT k1 s1) :
  CutOk (XX w r g d os) B D U (whCode w r F0) none [(Vd+355,cntO ch kt k.a k.b k.c k.d u.a u.b u.c u.d ep),(F0+355,frO (ob1 T S Vd h1 h2 h3 h4 h5 u1 u2 u3 u4 u5 st (.str ⟨#[100]⟩ tq)) pe),(H+355,listO (es.map Ent.v) e)] [(T+355,hdrO dT),(dT+355,hdrD k1 s1 H)] (N+355) (t) ({v:WhV // WhOut es k sd N v}) (fun v=>.ok .next) (fun v=>[]) (fun v=>[cntO ch kt v.1.k.a v.1.k.b v.1.k.c v.1.k.d v.1.u.a v.1.u.b v.1.u.c v.1.u.d ep,frO (ob1 T S Vd h1 h2 h3 h4 h5 u1 u2 u3 u4 u5 st (.str ⟨#[]⟩ v.1.pt)) pe,listO (v.1.es.map Ent.v) v.1.e]) (fun v=>v.1.n+355) (fun v=>v.1.t) (fun v=>(v.1.news.map Ent.pair).reverse):=by
 refine .of_q MB hB hD.lo 7 0 ?_
 k_data
 let P₀:Rows→Pk (XX w r g d os) B D U S₀ []:=fun x₀=>(.a (d6 10 0x1111133113) (ix [Vd+355,F0+355] 7 0x1110000) 0 1 0 0 [0] [1] (dget_ok (hd:=none) (n:=N+355) (t:=t+1) (H:=Vd+355) (es:=(A_13 ch kt k u)) (ep:=ep) (k:=⟨#[100]⟩) (tk:=tq) rfl rfl) fun _=>(.a (d6 8 0x11113311) (ixL [Vd+355,F0+355] [0,0,0,1,1]) 1 0 0 0 [] [] (dset_ok (hd:=none) (n:=N+355) (t:=t+4) (H:=Vd+355) (es:=(A_13 ch kt k u)) (ep:=ep) (k:=⟨#[100]⟩) (tk:=tq) (v:=.int (k.d+1) (t+3)) rfl rfl) fun _=>(.a [0,3,3,0] [F0+355,F0+355] 4 0 0 0 [] [0,2] (step_cons (T:=T) (dT:=dT) (H:=H) (e:=e) (N:=N) (t:=t+5) (k1:=k1) (s1:=s1) (tp:=tq) (ty:=ty) (p:=⟨#[100]⟩) (y:=y) (es:=es) (rest:=rest) MB1 hB1 hD.up (.inr (.inr (.inr rfl))) hes (fun x h=>dwn_good (hg x h)) (fun h b=>hpr h b.1) (by omega) hn) fun v2=>(.i [3,3] [F0+355,F0+355] 7 0 0 0 [] [0,2] (IH (es1:=keepE sd es++v2.1.news) (ia:=k.a) (ib:=k.b) (ic:=k.c) (id:=k.d+1) (ua:=u.a) (ub:=u.b) (uc:=u.c) (ud:=t+3) (ty1:=ty) (e1:=v2.1.e) (N1:=v2.1.n) (t1:=v2.1.t+1) (MB1.bi _) (fun h b=>hB1 h b.1) (step_dwn hg hn v2.2.2).1 (step_dwn hg hn v2.2.2).2.1 (fun h b=>pairs_step (B:=B) (hpr h b.1.1) b.2 (fun x hx=>by simp; exact ⟨x,hx,rfl⟩) (step_dwn hg hn v2.2.2).2.2) (by have:=v2.2.1; omega)) fun v3=>(.h (r':=(.ok .next)) (l':=[((Vd+355),dictO [dE ch.a ⟨#[97]⟩ kt.a (.int v3.1.k.a v3.1.u.a),dE ch.b ⟨#[98]⟩ kt.b (.int v3.1.k.b v3.1.u.b),dE ch.c ⟨#[99]⟩ kt.c (.int v3.1.k.c v3.1.u.c),dE ch.d ⟨#[100]⟩ kt.d (.int v3.1.k.d v3.1.u.d)] ep),((F0+355),frO [dE h1 ⟨#[116,97,98,108,101]⟩ u1 (.ref (T+355)),dE h2 ⟨#[115,116,97,114,116,115]⟩ u2 (.ref (S+355)),dE h3 ⟨#[118,105,115,105,116,115]⟩ u3 (.ref (Vd+355)),dE h4 ⟨#[115,116,97,114,116]⟩ u4 st,dE h5 ⟨#[112,108,97,99,101]⟩ u5 (.str ⟨#[]⟩ v3.1.pt)] pe),((H+355),listO (List.map Ent.v v3.1.es) v3.1.e)]) (m':=(v3.1.n+355)) (k':=v3.1.t) (z':=([]++((List.map Ent.pair v3.1.news).reverse++((List.map Ent.pair v2.1.news).reverse++[])))) ⟨⟨⟨v3.1.es,v2.1.news++v3.1.news,v3.1.k,v3.1.u,v3.1.pt,v3.1.e,v3.1.n,v3.1.t⟩,by have h2:=v2.2.1; have h3:=v3.2.1; show N≤v3.1.n; omega,.more es k sd y ty rest v2.1.news v3.1.es v3.1.k (.inr (.inr (.inr rfl))) hn v2.2.2 v3.2.2.1,fun x h=>by rcases v3.2.2.2 x h with h | h; rcases (step_dwn hg hn v2.2.2).2.2 x h with h | h; exact .inl h; exact .inr (List.mem_append_left _ h); exact .inr (List.mem_append_right _ h)⟩,rfl,(by simp [S₀,setO]),rfl,rfl,(by simp [S₀])⟩)))))
 exact ⟨P₀,by intro ⟨x1,x2,x3,x4⟩; cases x2 <;> kernel_rfl⟩
section
variable {w:World} {r:Rows} {g:Array GenState} {d:Drawn} {os:OsState} {D U:Nat}
theorem hit_str {q:Str} {es:List Ent} (hg:∀ x∈es,Dwn x) {v:Value} {rest:List Value} (h:hits q es = v :: rest):∃ y ty,v = .str y ty∧Let y∧rk y < rk q∧(q = sb∨q = sc∨q = sd):=by
 obtain ⟨x,hx,hl,hv⟩:=key_of_hit hg (v:=v) (q:=q) (by rw [h]; exact .head _)
 obtain ⟨hk,y,ty,hy,hr,hxx⟩:=hg x hx
 rw [hl] at hr
 refine ⟨y,ty,by rw [hv,hxx],hy,hr,?_⟩
 rw [← hl]
 rcases hk with h | h | h | h | h | h <;> rw [h] <;> simp [low] <;> decide
theorem wh_loop (hD:Lim D U 100) {F0 T S Vd dT H ep pe:Nat} {h1 h2 h3 h4 h5 k1:Int} {u1 u2 u3 u4 u5 s1:Tok} {ch:CH} {kt:CT} {st:Value}:∀ (m:Nat) (q:Str),rk q≤m→(q = sE∨Let q)→∀ {B:Heap→Prop},Mono B→(∀ h,B h→(KF (pr w r)).In h)→∀ (es:List Ent) (ia ib ic id:Int) (ua ub uc ud tq:Tok) (e N t:Nat),
  (0 < es.length∧es.length≤400)→(∀ x∈es,Dwn x)→(∀ h,B h→PairsIn es h)→H < N →
  CutOk (XX w r g d os) B D U (whCode w r F0) none [(Vd+355,cntO ch kt ia ib ic id ua ub uc ud ep),(F0+355,frO (ob1 T S Vd h1 h2 h3 h4 h5 u1 u2 u3 u4 u5 st (.str q tq)) pe),(H+355,listO (es.map Ent.v) e)] [(T+355,hdrO dT),(dT+355,hdrD k1 s1 H)] (N+355) t ({v:WhV // WhOut es ⟨ia,ib,ic,id⟩ q N v}) (fun _=>.ok .next) (fun _=>[]) (fun v=>[cntO ch kt v.1.k.a v.1.k.b v.1.k.c v.1.k.d v.1.u.a v.1.u.b v.1.u.c v.1.u.d ep,frO (ob1 T S Vd h1 h2 h3 h4 h5 u1 u2 u3 u4 u5 st (.str ⟨#[]⟩ v.1.pt)) pe,listO (v.1.es.map Ent.v) v.1.e]) (fun v=>v.1.n+355) (fun v=>v.1.t) (fun v=>(v.1.news.map Ent.pair).reverse):=by
 intro m
 induction m with
 | zero =>
  intro q hq hl B MB hB es ia ib ic id ua ub uc ud tq e N t hes hg hpr hH
  rcases hl with rfl | hl
  ·exact CutOk.wk (fun h b i=>⟨b,.nil⟩) (wh_end (k:=⟨ia,ib,ic,id⟩) (u:=⟨ua,ub,uc,ud⟩) MB hB hD)
  ·exfalso
   rcases hl with rfl | rfl | rfl | rfl <;> revert hq <;> decide
 | succ m ih =>
  intro q hq hl B MB hB es ia ib ic id ua ub uc ud tq e N t hes hg hpr hH
  rcases hl with rfl | hl
  ·exact CutOk.wk (fun h b i=>⟨b,.nil⟩) (wh_end (k:=⟨ia,ib,ic,id⟩) (u:=⟨ua,ub,uc,ud⟩) MB hB hD)
  ·cases hh:hits q es with
   | nil =>
    rcases hl with rfl | rfl | rfl | rfl
    ·exact wh_nil_a (k:=⟨ia,ib,ic,id⟩) (u:=⟨ua,ub,uc,ud⟩) MB hB hD hes hg hpr hH hh
    ·exact wh_nil_b (k:=⟨ia,ib,ic,id⟩) (u:=⟨ua,ub,uc,ud⟩) MB hB hD hes hg hpr hH hh
    ·exact wh_nil_c (k:=⟨ia,ib,ic,id⟩) (u:=⟨ua,ub,uc,ud⟩) MB hB hD hes hg hpr hH hh
    ·exact wh_nil_d (k:=⟨ia,ib,ic,id⟩) (u:=⟨ua,ub,uc,ud⟩) MB hB hD hes hg hpr hH hh
   | cons v rest =>
    obtain ⟨y,ty,rfl,hy,hr,hb⟩:=hit_str hg hh
    have IH:=fun {B':Heap→Prop} (MB':Mono B') (hB':∀ h,B' h→(KF (pr w r)).In h) (es1:List Ent) (ia ib ic id:Int) (ua ub uc ud ty1:Tok) (e1 N1 t1:Nat) (hl1:es1.length = es.length) => ih y (by omega) (.inr hy) MB' hB' es1 ia ib ic id ua ub uc ud ty1 e1 N1 t1 (by omega)
    rcases hb with rfl | rfl | rfl
    ·exact wh_cons_b (k:=⟨ia,ib,ic,id⟩) (u:=⟨ua,ub,uc,ud⟩) MB hB hD hes hg hpr hH hh IH
    ·exact wh_cons_c (k:=⟨ia,ib,ic,id⟩) (u:=⟨ua,ub,uc,ud⟩) MB hB hD hes hg hpr hH hh IH
    ·exact wh_cons_d (k:=⟨ia,ib,ic,id⟩) (u:=⟨ua,ub,uc,ud⟩) MB hB hD hes hg hpr hH hh IH
end
end
section
noncomputable abbrev obCode (w:World) (r:Rows) (I F0:Nat):Code:=.forLoop (forT (nthS (fnBody (KF (pr w r)) 339) 1)) (.ref (I+355)) (forB (nthS (fnBody (KF (pr w r)) 339) 1)) (forO (nthS (fnBody (KF (pr w r)) 339) 1)) { scope:=fnScope (KF (pr w r)) 339,locals:=F0+355,globals:=3,cells:=[],qual:=(⟨#[95,108,97,119,95,111,110,101,95,98,121,95,111,110,101,46,60,108,111,99,97,108,115,62,46]⟩:Str),func:=some 339,code:=.ref 338,frame:=some (F0+355),builtins:=0 }
noncomputable abbrev ob0 (T S Vd:Nat) (h1 h2 h3:Int) (u1 u2 u3:Tok):List DictEntry:=[dE h1 (⟨#[116,97,98,108,101]⟩:Str) u1 (.ref (T+355)),dE h2 (⟨#[115,116,97,114,116,115]⟩:Str) u2 (.ref (S+355)),dE h3 (⟨#[118,105,115,105,116,115]⟩:Str) u3 (.ref (Vd+355))]
noncomputable def sOf:Value→Str
 | .str s _ => s
 | _ => sE
inductive Runs:List Ent→Cnt→List Str→List Ent→Cnt→Prop
 | nil (es:List Ent) (k:Cnt):Runs es k [] es k
 | cons (es es1 es2:List Ent) (k k1 k2:Cnt) (q:Str) (qs:List Str):Walk es k q es1 k1→Runs es1 k1 qs es2 k2→Runs es k (q :: qs) es2 k2
structure ObV where
 es:List Ent
 news:List Ent
 k:Cnt
 u:CT
 fh:Int
 fg:Int
 fu:Tok
 fv:Tok
 fs:Value
 fp:Value
 fe:Nat
 i:Nat
 e:Nat
 n:Nat
 t:Nat
noncomputable def ObOut (es:List Ent) (k:Cnt) (qs:List Str) (N:Nat) (v:ObV):Prop:=N≤v.n∧Runs es k qs v.es v.k∧(∀ x∈v.es,x∈es∨x∈v.news)
theorem walk_keep {es es':List Ent} {k k':Cnt} {q:Str} (h:Walk es k q es' k'):(∀ x∈es,Dwn x)→es'.length = es.length∧∀ x∈es',Dwn x:=by
 induction h with
 | stop => exact fun h=>⟨rfl,h⟩
 | last => exact fun h=>⟨rfl,h⟩
 | more es k p y ty rest news es' k' hl hh hn hw ih =>
  intro hg
  obtain ⟨a,b,_⟩:=step_dwn hg hh hn
  obtain ⟨c,d⟩:=ih b
  exact ⟨by omega,d⟩
include MB hB in
theorem ob_t0 {I F0 T S Vd dT H e es0 ep pe i N t:Nat} {h1 h2 h3 k1:Int} {u1 u2 u3 s1:Tok} {ch:CH} {kt:CT} {ia ib ic id:Int} {ua ub uc ud:Tok} {q:Str} {tq:Tok} {es:List Ent} {ss:List Value} (hD:Lim D U 110) (hes:0 < es.length∧es.length≤400) (hg:∀ x∈es,Dwn x) (hpr:∀ h,B h→PairsIn es h) (hH:H < N) (hq:Let q) (hi:ss[i]? = some (.str q tq)) (hd:ss.drop i = .str q tq :: ss.drop (i+1)) (IH:∀ {B':Heap→Prop},Mono B'→(∀ h,B' h→(KF (pr w r)).In h)→∀ (es1:List Ent) (ia1 ib1 ic1 id1:Int) (ua1 ub1 uc1 ud1:Tok) (h41 h51:Int) (u41 u51:Tok) (st1 pl1:Value) (pe1 e1 N1 t1:Nat),es1.length = es.length→(∀ x∈es1,Dwn x)→(∀ h,B' h→PairsIn es1 h)→H < N1→CutOk (XX w r g d os) B' D U (obCode w r I F0) none [(I+355,iterO (S+355) (i+1)),(Vd+355,cntO ch kt ia1 ib1 ic1 id1 ua1 ub1 uc1 ud1 ep),(F0+355,frO (ob1 T S Vd h1 h2 h3 h41 h51 u1 u2 u3 u41 u51 st1 pl1) pe1),(H+355,listO (es1.map Ent.v) e1)] [(T+355,hdrO dT),(dT+355,hdrD k1 s1 H),(S+355,listO ss es0)] (N1+355) t1 ({v:ObV // ObOut es1 ⟨ia1,ib1,ic1,id1⟩ ((ss.drop (i+1)).map sOf) N1 v}) (fun _=>.ok .next) (fun _=>[]) (fun v=>[iterE v.1.i,cntO ch kt v.1.k.a v.1.k.b v.1.k.c v.1.k.d v.1.u.a v.1.u.b v.1.u.c v.1.u.d ep,frO (ob1 T S Vd h1 h2 h3 v.1.fh v.1.fg u1 u2 u3 v.1.fu v.1.fv v.1.fs v.1.fp) v.1.fe,listO (v.1.es.map Ent.v) v.1.e]) (fun v=>v.1.n+355) (fun v=>v.1.t) (fun v=>(v.1.news.map Ent.pair).reverse)) :
  CutOk (XX w r g d os) B D U (obCode w r I F0) none [(I+355,iterO (S+355) i),(Vd+355,cntO ch kt ia ib ic id ua ub uc ud ep),(F0+355,frO (ob0 T S Vd h1 h2 h3 u1 u2 u3) pe),(H+355,listO (es.map Ent.v) e)] [(T+355,hdrO dT),(dT+355,hdrD k1 s1 H),(S+355,listO ss es0)] (N+355) (t) ({v:ObV // ObOut es ⟨ia,ib,ic,id⟩ ((ss.drop (i)).map sOf) N v}) (fun v=>.ok .next) (fun v=>[]) (fun v=>[iterE v.1.i,cntO ch kt v.1.k.a v.1.k.b v.1.k.c v.1.k.d v.1.u.a v.1.u.b v.1.u.c v.1.u.d ep,frO (ob1 T S Vd h1 h2 h3 v.1.fh v.1.fg u1 u2 u3 v.1.fu v.1.fv v.1.fs v.1.fp) v.1.fe,listO (v.1.es.map Ent.v) v.1.e]) (fun v=>v.1.n+355) (fun v=>v.1.t) (fun v=>(v.1.news.map Ent.pair).reverse):=by
 refine .of_q MB hB hD.lo 15 0 ?_
 k_data
 let P₀:Rows→Pk (XX w r g d os) B D U S₀ []:=fun x₀=>(.a [1,1,1] [I+355,I+355] 1 0 0 0 [] [4] (next_some (hd:=none) (I:=I+355) (H:=S+355) (i:=i) (e:=es0) (n:=N+355) (t:=t) (vs:=ss) (v:=.str q tq) hi) fun _=>(.a [5,5,5,5,5] (ixL [F0+355] [0,0,0,0,0]) 14 0 0 0 [] [0,2] (wh_loop (F0:=F0) (T:=T) (S:=S) (Vd:=Vd) (dT:=dT) (H:=H) (ep:=ep) (pe:=pe+2) (h1:=h1) (h2:=h2) (h3:=h3) (h4:=kh w r ⟨#[115,116,97,114,116]⟩) (h5:=kh w r ⟨#[112,108,97,99,101]⟩) (k1:=k1) (u1:=u1) (u2:=u2) (u3:=u3) (u4:=t) (u5:=t+1) (s1:=s1) (ch:=ch) (kt:=kt) (st:=.str q tq) (ia:=ia) (ib:=ib) (ic:=ic) (id:=id) (ua:=ua) (ub:=ub) (uc:=uc) (ud:=ud) (tq:=tq) (e:=e) (N:=N) (t:=t+2) (by omega) 4 q (by rcases hq with rfl | rfl | rfl | rfl <;> decide) (.inr hq) MB1 hB1 es hes hg (fun h b=>hpr h b.1) (by omega)) fun v1=>(.i [] [] 15 0 0 0 [] [0,2,4] (IH (es1:=v1.1.es) (ia1:=v1.1.k.a) (ib1:=v1.1.k.b) (ic1:=v1.1.k.c) (id1:=v1.1.k.d) (ua1:=v1.1.u.a) (ub1:=v1.1.u.b) (uc1:=v1.1.u.c) (ud1:=v1.1.u.d) (h41:=kh w r ⟨#[115,116,97,114,116]⟩) (h51:=kh w r ⟨#[112,108,97,99,101]⟩) (u41:=t) (u51:=t+1) (st1:=.str q tq) (pl1:=.str ⟨#[]⟩ v1.1.pt) (pe1:=pe+2) (e1:=v1.1.e) (N1:=v1.1.n) (t1:=v1.1.t) (MB1.bi _) (fun h b=>hB1 h b.1) (walk_keep v1.2.2.1 hg).1 (walk_keep v1.2.2.1 hg).2 (fun h b=>pairs_step (B:=B) (hpr h b.1.1) b.2 (fun x hx=>by simp; exact ⟨x,hx,rfl⟩) v1.2.2.2) (by have:=v1.2.1; omega)) fun v2=>(.h (r':=(.ok .next)) (l':=[((I+355),iterE v2.1.i),((Vd+355),dictO [dE ch.a ⟨#[97]⟩ kt.a (.int v2.1.k.a v2.1.u.a),dE ch.b ⟨#[98]⟩ kt.b (.int v2.1.k.b v2.1.u.b),dE ch.c ⟨#[99]⟩ kt.c (.int v2.1.k.c v2.1.u.c),dE ch.d ⟨#[100]⟩ kt.d (.int v2.1.k.d v2.1.u.d)] ep),((F0+355),frO [dE h1 ⟨#[116,97,98,108,101]⟩ u1 (.ref (T+355)),dE h2 ⟨#[115,116,97,114,116,115]⟩ u2 (.ref (S+355)),dE h3 ⟨#[118,105,115,105,116,115]⟩ u3 (.ref (Vd+355)),dE v2.1.fh ⟨#[115,116,97,114,116]⟩ v2.1.fu v2.1.fs,dE v2.1.fg ⟨#[112,108,97,99,101]⟩ v2.1.fv v2.1.fp] v2.1.fe),((H+355),listO (List.map Ent.v v2.1.es) v2.1.e)]) (m':=(v2.1.n+355)) (k':=v2.1.t) (z':=([]++((List.map Ent.pair v2.1.news).reverse++((List.map Ent.pair v1.1.news).reverse++[])))) ⟨⟨⟨v2.1.es,v1.1.news++v2.1.news,v2.1.k,v2.1.u,v2.1.fh,v2.1.fg,v2.1.fu,v2.1.fv,v2.1.fs,v2.1.fp,v2.1.fe,v2.1.i,v2.1.e,v2.1.n,v2.1.t⟩,by have h2:=v1.2.1; have h3:=v2.2.1; show N≤v2.1.n; omega,by rw [hd]; exact .cons es v1.1.es v2.1.es _ v1.1.k v2.1.k q _ v1.2.2.1 v2.2.2.1,fun x h=>by rcases v2.2.2.2 x h with h | h; rcases v1.2.2.2 x h with h | h; exact .inl h; exact .inr (List.mem_append_left _ h); exact .inr (List.mem_append_right _ h)⟩,rfl,rfl,rfl,rfl,(by simp [S₀])⟩))))
 exact ⟨P₀,by intro x; kernel_rfl⟩
include MB hB in
theorem ob_t1 {I F0 T S Vd dT H e es0 ep pe i N t:Nat} {h1 h2 h3 h4 h5 k1:Int} {u1 u2 u3 u4 u5 s1:Tok} {ch:CH} {kt:CT} {ia ib ic id:Int} {ua ub uc ud:Tok} {st pl:Value} {q:Str} {tq:Tok} {es:List Ent} {ss:List Value} (hD:Lim D U 110) (hes:0 < es.length∧es.length≤400) (hg:∀ x∈es,Dwn x) (hpr:∀ h,B h→PairsIn es h) (hH:H < N) (hq:Let q) (hi:ss[i]? = some (.str q tq)) (hd:ss.drop i = .str q tq :: ss.drop (i+1)) (IH:∀ {B':Heap→Prop},Mono B'→(∀ h,B' h→(KF (pr w r)).In h)→∀ (es1:List Ent) (ia1 ib1 ic1 id1:Int) (ua1 ub1 uc1 ud1:Tok) (h41 h51:Int) (u41 u51:Tok) (st1 pl1:Value) (pe1 e1 N1 t1:Nat),es1.length = es.length→(∀ x∈es1,Dwn x)→(∀ h,B' h→PairsIn es1 h)→H < N1→CutOk (XX w r g d os) B' D U (obCode w r I F0) none [(I+355,iterO (S+355) (i+1)),(Vd+355,cntO ch kt ia1 ib1 ic1 id1 ua1 ub1 uc1 ud1 ep),(F0+355,frO (ob1 T S Vd h1 h2 h3 h41 h51 u1 u2 u3 u41 u51 st1 pl1) pe1),(H+355,listO (es1.map Ent.v) e1)] [(T+355,hdrO dT),(dT+355,hdrD k1 s1 H),(S+355,listO ss es0)] (N1+355) t1 ({v:ObV // ObOut es1 ⟨ia1,ib1,ic1,id1⟩ ((ss.drop (i+1)).map sOf) N1 v}) (fun _=>.ok .next) (fun _=>[]) (fun v=>[iterE v.1.i,cntO ch kt v.1.k.a v.1.k.b v.1.k.c v.1.k.d v.1.u.a v.1.u.b v.1.u.c v.1.u.d ep,frO (ob1 T S Vd h1 h2 h3 v.1.fh v.1.fg u1 u2 u3 v.1.fu v.1.fv v.1.fs v.1.fp) v.1.fe,listO (v.1.es.map Ent.v) v.1.e]) (fun v=>v.1.n+355) (fun v=>v.1.t) (fun v=>(v.1.news.map Ent.pair).reverse)) :
  CutOk (XX w r g d os) B D U (obCode w r I F0) none [(I+355,iterO (S+355) i),(Vd+355,cntO ch kt ia ib ic id ua ub uc ud ep),(F0+355,frO (ob1 T S Vd h1 h2 h3 h4 h5 u1 u2 u3 u4 u5 st pl) pe),(H+355,listO (es.map Ent.v) e)] [(T+355,hdrO dT),(dT+355,hdrD k1 s1 H),(S+355,listO ss es0)] (N+355) (t) ({v:ObV // ObOut es ⟨ia,ib,ic,id⟩ ((ss.drop (i)).map sOf) N v}) (fun v=>.ok .next) (fun v=>[]) (fun v=>[iterE v.1.i,cntO ch kt v.1.k.a v.1.k.b v.1.k.c v.1.k.d v.1.u.a v.1.u.b v.1.u.c v.1.u.d ep,frO (ob1 T S Vd h1 h2 h3 v.1.fh v.1.fg u1 u2 u3 v.1.fu v.1.fv v.1.fs v.1.fp) v.1.fe,listO (v.1.es.map Ent.v) v.1.e]) (fun v=>v.1.n+355) (fun v=>v.1.t) (fun v=>(v.1.news.map Ent.pair).reverse):=by
 refine .of_q MB hB hD.lo 15 0 ?_
 k_data
 let P₀:Rows→Pk (XX w r g d os) B D U S₀ []:=fun x₀=>(.a [1,1,1] [I+355,I+355] 1 0 0 0 [] [4] (next_some (hd:=none) (I:=I+355) (H:=S+355) (i:=i) (e:=es0) (n:=N+355) (t:=t) (vs:=ss) (v:=.str q tq) hi) fun _=>(.a [5,5,5,5,5] (ixL [F0+355] [0,0,0,0,0]) 14 0 0 0 [] [0,2] (wh_loop (F0:=F0) (T:=T) (S:=S) (Vd:=Vd) (dT:=dT) (H:=H) (ep:=ep) (pe:=pe) (h1:=h1) (h2:=h2) (h3:=h3) (h4:=h4) (h5:=h5) (k1:=k1) (u1:=u1) (u2:=u2) (u3:=u3) (u4:=u4) (u5:=u5) (s1:=s1) (ch:=ch) (kt:=kt) (st:=.str q tq) (ia:=ia) (ib:=ib) (ic:=ic) (id:=id) (ua:=ua) (ub:=ub) (uc:=uc) (ud:=ud) (tq:=tq) (e:=e) (N:=N) (t:=t+2) (by omega) 4 q (by rcases hq with rfl | rfl | rfl | rfl <;> decide) (.inr hq) MB1 hB1 es hes hg (fun h b=>hpr h b.1) (by omega)) fun v1=>(.i [] [] 15 0 0 0 [] [0,2,4] (IH (es1:=v1.1.es) (ia1:=v1.1.k.a) (ib1:=v1.1.k.b) (ic1:=v1.1.k.c) (id1:=v1.1.k.d) (ua1:=v1.1.u.a) (ub1:=v1.1.u.b) (uc1:=v1.1.u.c) (ud1:=v1.1.u.d) (h41:=h4) (h51:=h5) (u41:=u4) (u51:=u5) (st1:=.str q tq) (pl1:=.str ⟨#[]⟩ v1.1.pt) (pe1:=pe) (e1:=v1.1.e) (N1:=v1.1.n) (t1:=v1.1.t) (MB1.bi _) (fun h b=>hB1 h b.1) (walk_keep v1.2.2.1 hg).1 (walk_keep v1.2.2.1 hg).2 (fun h b=>pairs_step (B:=B) (hpr h b.1.1) b.2 (fun x hx=>by simp; exact ⟨x,hx,rfl⟩) v1.2.2.2) (by have:=v1.2.1; omega)) fun v2=>(.h (r':=(.ok .next)) (l':=[((I+355),iterE v2.1.i),((Vd+355),dictO [dE ch.a ⟨#[97]⟩ kt.a (.int v2.1.k.a v2.1.u.a),dE ch.b ⟨#[98]⟩ kt.b (.int v2.1.k.b v2.1.u.b),dE ch.c ⟨#[99]⟩ kt.c (.int v2.1.k.c v2.1.u.c),dE ch.d ⟨#[100]⟩ kt.d (.int v2.1.k.d v2.1.u.d)] ep),((F0+355),frO [dE h1 ⟨#[116,97,98,108,101]⟩ u1 (.ref (T+355)),dE h2 ⟨#[115,116,97,114,116,115]⟩ u2 (.ref (S+355)),dE h3 ⟨#[118,105,115,105,116,115]⟩ u3 (.ref (Vd+355)),dE v2.1.fh ⟨#[115,116,97,114,116]⟩ v2.1.fu v2.1.fs,dE v2.1.fg ⟨#[112,108,97,99,101]⟩ v2.1.fv v2.1.fp] v2.1.fe),((H+355),listO (List.map Ent.v v2.1.es) v2.1.e)]) (m':=(v2.1.n+355)) (k':=v2.1.t) (z':=([]++((List.map Ent.pair v2.1.news).reverse++((List.map Ent.pair v1.1.news).reverse++[])))) ⟨⟨⟨v2.1.es,v1.1.news++v2.1.news,v2.1.k,v2.1.u,v2.1.fh,v2.1.fg,v2.1.fu,v2.1.fv,v2.1.fs,v2.1.fp,v2.1.fe,v2.1.i,v2.1.e,v2.1.n,v2.1.t⟩,by have h2:=v1.2.1; have h3:=v2.2.1; show N≤v2.1.n; omega,by rw [hd]; exact .cons es v1.1.es v2.1.es _ v1.1.k v2.1.k q _ v1.2.2.1 v2.2.2.1,fun x h=>by rcases v2.2.2.2 x h with h | h; rcases v1.2.2.2 x h with h | h; exact .inl h; exact .inr (List.mem_append_left _ h); exact .inr (List.mem_append_right _ h)⟩,rfl,rfl,rfl,rfl,(by simp [S₀])⟩))))
 exact ⟨P₀,by intro x; kernel_rfl⟩
variable {I F0 T S Vd H e es0 ep pe i N t:Nat} {h1 h2 h3 h4 h5:Int} {u1 u2 u3 u4 u5:Tok} {ch:CH} {kt:CT} {ia ib ic id:Int} {ua ub uc ud:Tok} {st pl:Value} {es:List Ent} {ss:List Value}
include MB hB in
theorem ob_end (hD:Lim D U 110) (hi:ss[i]? = none) :
  CutOk (XX w r g d os) B D U (obCode w r I F0) none [(I+355,iterO (S+355) i),(Vd+355,cntO ch kt ia ib ic id ua ub uc ud ep),(F0+355,frO (ob1 T S Vd h1 h2 h3 h4 h5 u1 u2 u3 u4 u5 st pl) pe),(H+355,listO (es.map Ent.v) e)] [(S+355,listO ss es0)] (N+355) (t) ({v:ObV // ObOut es ⟨ia,ib,ic,id⟩ ((ss.drop (i)).map sOf) N v}) (fun v=>.ok .next) (fun v=>[]) (fun v=>[iterE v.1.i,cntO ch kt v.1.k.a v.1.k.b v.1.k.c v.1.k.d v.1.u.a v.1.u.b v.1.u.c v.1.u.d ep,frO (ob1 T S Vd h1 h2 h3 v.1.fh v.1.fg u1 u2 u3 v.1.fu v.1.fv v.1.fs v.1.fp) v.1.fe,listO (v.1.es.map Ent.v) v.1.e]) (fun v=>v.1.n+355) (fun v=>v.1.t) (fun v=>(v.1.news.map Ent.pair).reverse):=by
 refine .of_q MB hB hD.lo 60 0 ?_
 intro S₀
 let P₀:Rows→Pk (XX w r g d os) B D U S₀ []:=fun x₀=>(.a [1,1,1] [I+355,I+355] 1 0 0 0 [] [0] (next_none (I:=I+355) (H:=S+355) (i:=i) (e:=es0) (n:=N+355) (t:=t) (vs:=ss) hi) fun _=>(.f [1,1] [N+356] ⟨⟨es,[],⟨ia,ib,ic,id⟩,⟨ua,ub,uc,ud⟩,h4,h5,u4,u5,st,pl,pe,i,e,N+2,t⟩,by show N≤N+2; omega,by rw [List.drop_of_length_le (by simpa using hi)]; exact .nil es _,fun x h=>.inl h⟩))
 exact ⟨P₀,by intro x; kernel_rfl⟩
section
variable {w:World} {r:Rows} {g:Array GenState} {d:Drawn} {os:OsState} {D U:Nat}
theorem ob_loop1 (hD:Lim D U 110) {I F0 T S Vd dT H es0 ep:Nat} {h1 h2 h3 k1:Int} {u1 u2 u3 s1:Tok} {ch:CH} {kt:CT} {ss:List Value} (hss:∀ v∈ss,∃ q tq,v = .str q tq∧Let q):∀ (m i:Nat),ss.length = i + m→∀ {B:Heap→Prop},Mono B→(∀ h,B h→(KF (pr w r)).In h)→∀ (es:List Ent) (ia ib ic id:Int) (ua ub uc ud:Tok) (h4 h5:Int) (u4 u5:Tok) (st pl:Value) (pe e N t:Nat),
  (0 < es.length∧es.length≤400)→(∀ x∈es,Dwn x)→(∀ h,B h→PairsIn es h)→H < N →
  CutOk (XX w r g d os) B D U (obCode w r I F0) none [(I+355,iterO (S+355) i),(Vd+355,cntO ch kt ia ib ic id ua ub uc ud ep),(F0+355,frO (ob1 T S Vd h1 h2 h3 h4 h5 u1 u2 u3 u4 u5 st pl) pe),(H+355,listO (es.map Ent.v) e)] [(T+355,hdrO dT),(dT+355,hdrD k1 s1 H),(S+355,listO ss es0)] (N+355) t ({v:ObV // ObOut es ⟨ia,ib,ic,id⟩ ((ss.drop i).map sOf) N v}) (fun _=>.ok .next) (fun _=>[]) (fun v=>[iterE v.1.i,cntO ch kt v.1.k.a v.1.k.b v.1.k.c v.1.k.d v.1.u.a v.1.u.b v.1.u.c v.1.u.d ep,frO (ob1 T S Vd h1 h2 h3 v.1.fh v.1.fg u1 u2 u3 v.1.fu v.1.fv v.1.fs v.1.fp) v.1.fe,listO (v.1.es.map Ent.v) v.1.e]) (fun v=>v.1.n+355) (fun v=>v.1.t) (fun v=>(v.1.news.map Ent.pair).reverse):=by
 intro m
 induction m with
 | zero =>
  intro i hi B MB hB es ia ib ic id ua ub uc ud h4 h5 u4 u5 st pl pe e N t hes hg hpr hH
  exact CutOk.wk (fun h b i=>⟨b,.cons (i.nth 2 rfl) .nil⟩) (ob_end MB hB hD (by simp; omega))
 | succ m ih =>
  intro i hi B MB hB es ia ib ic id ua ub uc ud h4 h5 u4 u5 st pl pe e N t hes hg hpr hH
  obtain ⟨x,hx,hm,hd⟩:=getV hi
  obtain ⟨q,tq,rfl,hq⟩:=hss x hm
  exact ob_t1 MB hB hD hes hg hpr hH hq hx hd (fun {B'} MB' hB' es1 ia ib ic id ua ub uc ud h4 h5 u4 u5 st pl pe e N t hl => ih (i+1) (by omega) MB' hB' es1 ia ib ic id ua ub uc ud h4 h5 u4 u5 st pl pe e N t (by omega))
theorem ob_loop0 (hD:Lim D U 110) {I F0 T S Vd dT H es0 ep:Nat} {h1 h2 h3 k1:Int} {u1 u2 u3 s1:Tok} {ch:CH} {kt:CT} {ss:List Value} (hss:∀ v∈ss,∃ q tq,v = .str q tq∧Let q) (h0:0 < ss.length) {B:Heap→Prop} (MB:Mono B) (hB:∀ h,B h→(KF (pr w r)).In h) {es:List Ent} {ia ib ic id:Int} {ua ub uc ud:Tok} {pe e N t:Nat}
  (hes:0 < es.length∧es.length≤400) (hg:∀ x∈es,Dwn x) (hpr:∀ h,B h→PairsIn es h) (hH:H < N) :
  CutOk (XX w r g d os) B D U (obCode w r I F0) none [(I+355,iterO (S+355) 0),(Vd+355,cntO ch kt ia ib ic id ua ub uc ud ep),(F0+355,frO (ob0 T S Vd h1 h2 h3 u1 u2 u3) pe),(H+355,listO (es.map Ent.v) e)] [(T+355,hdrO dT),(dT+355,hdrD k1 s1 H),(S+355,listO ss es0)] (N+355) t ({v:ObV // ObOut es ⟨ia,ib,ic,id⟩ ((ss.drop 0).map sOf) N v}) (fun _=>.ok .next) (fun _=>[]) (fun v=>[iterE v.1.i,cntO ch kt v.1.k.a v.1.k.b v.1.k.c v.1.k.d v.1.u.a v.1.u.b v.1.u.c v.1.u.d ep,frO (ob1 T S Vd h1 h2 h3 v.1.fh v.1.fg u1 u2 u3 v.1.fu v.1.fv v.1.fs v.1.fp) v.1.fe,listO (v.1.es.map Ent.v) v.1.e]) (fun v=>v.1.n+355) (fun v=>v.1.t) (fun v=>(v.1.news.map Ent.pair).reverse):=by
 obtain ⟨x,hx,hm,hd⟩:=getV (ls:=ss) (i:=0) (m:=ss.length - 1) (by omega)
 obtain ⟨q,tq,rfl,hq⟩:=hss x hm
 exact ob_t0 (i:=0) MB hB hD hes hg hpr hH hq hx hd (fun {B'} MB' hB' es1 ia ib ic id ua ub uc ud h4 h5 u4 u5 st pl pe e N t hl => ob_loop1 hD hss (ss.length - 1) (0 + 1) (by omega) MB' hB' es1 ia ib ic id ua ub uc ud h4 h5 u4 u5 st pl pe e N t (by omega))
end
noncomputable abbrev cH (w:World) (r:Rows):CH:=⟨kh w r ⟨#[97]⟩,kh w r ⟨#[98]⟩,kh w r ⟨#[99]⟩,kh w r ⟨#[100]⟩⟩
noncomputable abbrev cT (t:Nat):CT:=⟨t+3,t+7,t+11,t+15⟩
variable {dT:Nat} {k1:Int} {s1:Tok}
include MB hB in
theorem one_ok (hD:Lim D U 120) (hes:0 < es.length∧es.length≤400) (hg:∀ x∈es,Dwn x) (hpr:∀ h,B h→PairsIn es h) (hH:H < N) (hss:∀ v∈ss,∃ q tq,v = .str q tq∧Let q) (h0:0 < ss.length) :
  CutOk (XX w r g d os) B D U (.call (.ref 339) ⟨[.ref (T+355),.ref (S+355)],[]⟩) none [(H+355,listO (es.map Ent.v) e)] [(T+355,hdrO dT),(dT+355,hdrD k1 s1 H),(S+355,listO ss es0)] (N+355) (t) ({v:ObV // ObOut es ⟨0,0,0,0⟩ (ss.map sOf) N v}) (fun v=>.ok (.ret (.ref (N+357)))) (fun v=>[(N+357,cntO (cH w r) (cT t) v.1.k.a v.1.k.b v.1.k.c v.1.k.d v.1.u.a v.1.u.b v.1.u.c v.1.u.d 4)]) (fun v=>[listO (v.1.es.map Ent.v) v.1.e]) (fun v=>v.1.n+355) (fun v=>v.1.t) (fun v=>(v.1.news.map Ent.pair).reverse):=by
 refine CutOk.of_pk MB hB hD.lo (by intro v p hp; simp only [List.mem_cons,List.not_mem_nil,or_false] at hp; rcases hp with rfl; dsimp only; omega) (fun _=>rfl) 144 0 ?_
 k_data
 let P₀:Rows→Pk (XX w r g d os) B D U S₀ []:=fun x₀=>(.a (cond x₀.a (d6 106 0x116166b555bb1555515151333311111555515151333311111555515151333311111555515151333311111555515151111110111100) (d6 112 0x116166b555bb1555515151333311111555515151333311111555515151333311111555515151333311111555515151515155111110111100)) (cond x₀.a (ix [N+361,S+355,N+355,N+358,N+360,N+356,N+357] 74 0x22225555555333666655555533366665555553336666555555333666655555542233321110) (ix [N+361,S+355,N+355,N+358,N+360,N+356,N+357] 78 0x222255555555555333666655555533366665555553336666555555333666655555542233321110)) 209 0 1 3 [] [0,2,4] (ob_loop0 (I:=N+6) (F0:=N) (T:=T) (S:=S) (Vd:=N+2) (dT:=dT) (H:=H) (es0:=es0) (ep:=4) (h1:=kh w r ⟨#[116,97,98,108,101]⟩) (h2:=kh w r ⟨#[115,116,97,114,116,115]⟩) (h3:=kh w r ⟨#[118,105,115,105,116,115]⟩) (k1:=k1) (u1:=t) (u2:=t+1) (u3:=t+19) (s1:=s1) (ss:=ss) (es:=es) (ia:=0) (ib:=0) (ic:=0) (id:=0) (ua:=t+5) (ub:=t+9) (uc:=t+13) (ud:=t+17) (pe:=3) (e:=e) (N:=N+7) (t:=t+20) (ch:=cH w r) (kt:=cT t) (by omega) hss h0 MB1 hB1 hes hg (fun h b=>hpr h b.1) (by omega)) fun v0=>(.k [13] [N+355] (r':=(.ok (.ret (.ref (N+357))))) (l':=[((N+357),dictO [dE (kh w r ⟨#[97]⟩) ⟨#[97]⟩ (t+3) (.int v0.1.k.a v0.1.u.a),dE (kh w r ⟨#[98]⟩) ⟨#[98]⟩ (t+7) (.int v0.1.k.b v0.1.u.b),dE (kh w r ⟨#[99]⟩) ⟨#[99]⟩ (t+11) (.int v0.1.k.c v0.1.u.c),dE (kh w r ⟨#[100]⟩) ⟨#[100]⟩ (t+15) (.int v0.1.k.d v0.1.u.d)] 4),((H+355),listO (List.map Ent.v v0.1.es) v0.1.e)]) (m':=(v0.1.n+355)) (k':=v0.1.t) (z':=([]++((List.map Ent.pair v0.1.news).reverse++[]))) ⟨⟨v0.1,by have h2:=v0.2.1; omega,by simpa using v0.2.2.1,v0.2.2.2⟩,rfl,rfl,rfl,rfl,(by simp [S₀])⟩))
 exact ⟨P₀,by intro ⟨x1,x2,x3,x4⟩; cases x1 <;> cases x2 <;> kernel_rfl⟩
end
noncomputable def cntV (q:Str) (l:List Value):Nat:=(l.filter fun v=>decide (sOf v = q)).length
theorem entry_cl:entryFor table "list.count.loop" = some Builtin.«list.count.loop»:=entryFor_of_tree (by kernel_rfl)
theorem count_loop {X:Env0} {B:Heap→Prop} {D U:Nat} {hd:Hd} {n t:Nat} {H:Addr} {e:Nat} {vs:List Value} {q:Str} {tq:Tok} (hvs:∀ v∈vs,∃ x tx,v = .str x tx) :
  ∀ (m i f:Nat),vs.length = i + m→CutOk X B D U (.builtin "list.count.loop" ⟨[.ref H,.str q tq,.int (i:Nat) 0,.int (f:Nat) 0],[]⟩) hd [] [(H,listO vs e)] n t Unit (fun _=>.ok (.ret (.int ((f + cntV q (vs.drop i):Nat):Int) t))) (fun _=>[]) (fun _=>[]) (fun _=>n) (fun _=>t+1) (fun _=>[]):=by
 intro m
 induction m with
 | zero =>
  intro i f hi
  refine builtin_ok entry_cl (fun _ p hp=>nomatch hp) (fun _=>rfl) fun h₀ h A IM hA Dh Q E hQ=>?_
  have ho:=IM (H,listO vs e) (.head _)
  have hQ':=hQ () h ⟨Dh.mem,Dh.size,Dh.fz⟩
  unfold Builtin.«list.count.loop»
  dsimp only
  unfold Builtin.List.listItems
  refine wpAny_bind (wpAny_bind (wpAny_seqItems ho rfl (wpAny_pure ?_)))
  have e0:(⟨vs⟩:Array Value)[((i:Nat):Int).toNat]? = none:=by simp; omega
  rw [e0]
  have e1:cntV q (vs.drop i) = 0:=by rw [List.drop_of_length_le (by omega)]; rfl
  rw [e1] at hQ'
  exact wpAny_bind (wpAny_mkInt (wpAny_pure hQ'))
 | succ m ih =>
  intro i f hi
  refine ⟨(fun _ p hp=>nomatch hp),(fun _=>rfl),fun h₀ BX IX A h1 h2 h3 h D' R hR=>?_⟩
  have ho:h.get? H = some (listO vs e):=D'.mem.keep _ _ (IX (H,listO vs e) (.head _)) (by simp [away])
  obtain ⟨x,hx,hm,hdr⟩:=getV hi
  obtain ⟨y,ty,rfl⟩:=hvs x hm
  refine codeAny_builtin entry_cl ?_
  unfold Builtin.«list.count.loop»
  dsimp only
  unfold Builtin.List.listItems
  refine wpAny_bind (wpAny_bind (wpAny_seqItems (s:=X.sh h t) ho rfl (wpAny_pure ?_)))
  have e0:(⟨vs⟩:Array Value)[((i:Nat):Int).toNat]? = some (.str y ty):=by simpa using hx
  rw [e0]
  refine wpAny_bind (wpAny_eqBool_str (s:=X.sh h t) ?_)
  have key:∀ f':Nat,f' = (if y = q then f+1 else f)→codeAny (model X.prog X.w) A (.builtin "list.count.loop" ⟨[.ref H,.str q tq,rawInt ((i:Int) + 1),rawInt (f':Int)],[]⟩) R (X.sh h t):=fun f' hf=>by
   have:=(ih (i+1) f' (by omega)).2.2 h₀ BX IX A h1 h2 h3 h D' R (fun v h' D''=>by
    have z:=hR v h' D''
    have e2:f + cntV q (vs.drop i) = f' + cntV q (vs.drop (i+1)):=by
     rw [hdr]
     unfold cntV
     by_cases hy:y = q
     ·rw [hf,if_pos hy]; simp [sOf,hy]; omega
     ·rw [hf,if_neg hy]; simp [sOf,hy]
    rw [← e2]; exact z)
   exact this
  by_cases hy:y = q
  ·have k1:=key (f+1) (by rw [if_pos hy])
   rw [decide_eq_true hy]
   exact wpAny_pure ⟨Code.quiet_builtin _ (by decide +kernel),k1⟩
  ·have k1:=key f (by rw [if_neg hy])
   rw [decide_eq_false hy]
   exact wpAny_pure ⟨Code.quiet_builtin _ (by decide +kernel),k1⟩
section
noncomputable abbrev bfCode (w:World) (r:Rows) (I F0 C:Nat):Code:=.forLoop (forT (nthS (whB (nthS (fnBody (KF (pr w r)) 344) 2)) 0)) (.ref (I+355)) (forB (nthS (whB (nthS (fnBody (KF (pr w r)) 344) 2)) 0)) (forO (nthS (whB (nthS (fnBody (KF (pr w r)) 344) 2)) 0)) { scope:=fnScope (KF (pr w r)) 344,locals:=F0+355,globals:=3,cells:=[((⟨#[116,97,98,108,101]⟩:Str),C+355)],qual:=(⟨#[95,108,97,119,95,98,121,95,116,117,114,110,115,46,60,108,111,99,97,108,115,62,46]⟩:Str),func:=some 344,code:=.ref 343,frame:=some (F0+355),builtins:=0 }
noncomputable abbrev bt3 (S Vd P:Nat) (h1 h2 h3:Int) (u1 u2 u3:Tok):List DictEntry:=[dE h1 (⟨#[115,116,97,114,116,115]⟩:Str) u1 (.ref (S+355)),dE h2 (⟨#[118,105,115,105,116,115]⟩:Str) u2 (.ref (Vd+355)),dE h3 (⟨#[112,108,97,99,101,115]⟩:Str) u3 (.ref (P+355))]
noncomputable abbrev bt4 (S Vd P:Nat) (h1 h2 h3 h4:Int) (u1 u2 u3 u4:Tok) (pl:Value):List DictEntry:=[dE h1 (⟨#[115,116,97,114,116,115]⟩:Str) u1 (.ref (S+355)),dE h2 (⟨#[118,105,115,105,116,115]⟩:Str) u2 (.ref (Vd+355)),dE h3 (⟨#[112,108,97,99,101,115]⟩:Str) u3 (.ref (P+355)),dE h4 (⟨#[112,108,97,99,101]⟩:Str) u4 pl]
noncomputable abbrev bt5 (S Vd P M:Nat) (h1 h2 h3 h4 h5:Int) (u1 u2 u3 u4 u5:Tok) (pl:Value):List DictEntry:=[dE h1 (⟨#[115,116,97,114,116,115]⟩:Str) u1 (.ref (S+355)),dE h2 (⟨#[118,105,115,105,116,115]⟩:Str) u2 (.ref (Vd+355)),dE h3 (⟨#[112,108,97,99,101,115]⟩:Str) u3 (.ref (P+355)),dE h4 (⟨#[112,108,97,99,101]⟩:Str) u4 pl,dE h5 (⟨#[109,111,118,101,100]⟩:Str) u5 (.ref (M+355))]
noncomputable def incs (k:Cnt) (qs:List Str):Cnt:=qs.foldl Cnt.inc k
structure BfV where
 k:Cnt
 u:CT
 fh:Int
 fu:Tok
 fp:Value
 fe:Nat
 i:Nat
 n:Nat
 t:Nat
noncomputable def BfOut (k:Cnt) (qs:List Str) (N:Nat) (v:BfV):Prop:=N≤v.n∧v.k = incs k qs
noncomputable abbrev A_5 (N:Nat) (w:World) (r:Rows) (g:Array GenState) (d:Drawn) (os:OsState) (B:Heap→Prop) (D U I F0 C P i Vd:Nat) (ch:CH) (kt:CT) (ep S:Nat) (h1 h2 h3:Int) (u1 u2 u3:Tok) (ps:List Value) (lp:Nat):Prop:=∀ (ia1 ib1 ic1 id1:Int) (ua1 ub1 uc1 ud1:Tok) (h41:Int) (u41:Tok) (pl1:Value) (pe1 N1 t1:Nat),N≤N1→CutOk (XX w r g d os) B D U (bfCode w r I F0 C) none [(I+355,iterO (P+355) (i+1)),(Vd+355,cntO ch kt ia1 ib1 ic1 id1 ua1 ub1 uc1 ud1 ep),(F0+355,frO (bt4 S Vd P h1 h2 h3 h41 u1 u2 u3 u41 pl1) pe1)] [(P+355,listO ps lp)] (N1+355) t1 ({v:BfV // BfOut ⟨ia1,ib1,ic1,id1⟩ ((ps.drop (i+1)).map sOf) N1 v}) (fun _=>.ok .next) (fun _=>[]) (fun v=>[iterE v.1.i,cntO ch kt v.1.k.a v.1.k.b v.1.k.c v.1.k.d v.1.u.a v.1.u.b v.1.u.c v.1.u.d ep,frO (bt4 S Vd P h1 h2 h3 v.1.fh u1 u2 u3 v.1.fu v.1.fp) v.1.fe]) (fun v=>v.1.n+355) (fun v=>v.1.t) (fun _=>[])
noncomputable abbrev A_8 (ch:CH) (kt:CT) (ia:Int) (ua:Tok) (ib:Int) (ub:Tok) (ic:Int) (uc:Tok) (id:Int) (ud:Tok):List DictEntry:=[dE ch.a ⟨#[97]⟩ kt.a (.int ia ua),dE ch.b ⟨#[98]⟩ kt.b (.int ib ub),dE ch.c ⟨#[99]⟩ kt.c (.int ic uc),dE ch.d ⟨#[100]⟩ kt.d (.int id ud)]
noncomputable abbrev A_18 (ch:CH) (kt:CT) (ep S Vd P:Nat) (h1 h2 h3:Int) (u1 u2 u3:Tok) (χ:BfV):List Obj:=[iterE χ.i,cntO ch kt χ.k.a χ.k.b χ.k.c χ.k.d χ.u.a χ.u.b χ.u.c χ.u.d ep,frO (bt4 S Vd P h1 h2 h3 χ.fh u1 u2 u3 χ.fu χ.fp) χ.fe]
variable {I F0 C S Vd P ep pe i lp N t:Nat} {h1 h2 h3:Int} {u1 u2 u3:Tok} {ch:CH} {kt:CT} {ia ib ic id:Int} {ua ub uc ud:Tok} {tq:Tok} {ps:List Value}
include MB hB in
theorem bf_3a (hD:Lim D U 70) (hi:ps[i]? = some (.str sa tq)) (hd:ps.drop i = .str sa tq :: ps.drop (i+1)) (IH:A_5 N w r g d os B D U I F0 C P i Vd ch kt ep S h1 h2 h3 u1 u2 u3 ps lp) :
  CutOk (XX w r g d os) B D U (bfCode w r I F0 C) none [(I+355,iterO (P+355) i),(Vd+355,cntO ch kt ia ib ic id ua ub uc ud ep),(F0+355,frO (bt3 S Vd P h1 h2 h3 u1 u2 u3) pe)] [(P+355,listO ps lp)] (N+355) (t) ({v:BfV // BfOut ⟨ia,ib,ic,id⟩ ((ps.drop (i)).map sOf) N v}) (fun v=>.ok .next) (fun v=>[]) (fun v=>A_18 ch kt ep S Vd P h1 h2 h3 u1 u2 u3 v.1) (fun v=>v.1.n+355) (fun v=>v.1.t) (fun v=>[]):=by
 refine .of_q MB hB hD.lo 7 0 ?_
 intro S₀
 let P₀:Rows→Pk (XX w r g d os) B D U S₀ []:=fun x₀=>(.a [1,1,1] [I+355,I+355] 1 0 0 0 [] [0] (next_some (hd:=none) (I:=I+355) (H:=P+355) (i:=i) (e:=lp) (n:=N+355) (t:=t) (vs:=ps) (v:=.str ⟨#[97]⟩ tq) hi) fun _=>(.a (d6 9 0x313335555) (ix [Vd+355,F0+355] 8 0x11110000) 0 2 0 0 [0] [1] (dget_ok (hd:=none) (n:=N+355) (t:=t+1) (H:=Vd+355) (es:=(A_8 ch kt ia ua ib ub ic uc id ud)) (ep:=ep) (k:=⟨#[97]⟩) (tk:=tq) rfl rfl) fun _=>(.a (d6 8 0x31335511) (ixL [Vd+355,F0+355] [0,0,0,1,1]) 2 0 0 0 [] [] (dset_ok (hd:=none) (n:=N+355) (t:=t+4) (H:=Vd+355) (es:=(A_8 ch kt ia ua ib ub ic uc id ud)) (ep:=ep) (k:=⟨#[97]⟩) (tk:=tq) (v:=.int (ia+1) (t+3)) rfl rfl) fun _=>(.o [] [] 7 0 0 0 [] [0] (IH (ia1:=ia+1) (ib1:=ib) (ic1:=ic) (id1:=id) (ua1:=t+3) (ub1:=ub) (uc1:=uc) (ud1:=ud) (h41:=kh w r ⟨#[112,108,97,99,101]⟩) (u41:=t) (pl1:=.str ⟨#[97]⟩ tq) (pe1:=pe+1) (N1:=N) (t1:=t+5) (by omega)) fun v3=>(.e ⟨v3.1,by have:=v3.2.1; omega,by rw [hd]; exact v3.2.2⟩)))))
 exact ⟨P₀,by intro x; kernel_rfl⟩
include MB hB in
theorem bf_3b (hD:Lim D U 70) (hi:ps[i]? = some (.str sb tq)) (hd:ps.drop i = .str sb tq :: ps.drop (i+1)) (IH:A_5 N w r g d os B D U I F0 C P i Vd ch kt ep S h1 h2 h3 u1 u2 u3 ps lp) :
  CutOk (XX w r g d os) B D U (bfCode w r I F0 C) none [(I+355,iterO (P+355) i),(Vd+355,cntO ch kt ia ib ic id ua ub uc ud ep),(F0+355,frO (bt3 S Vd P h1 h2 h3 u1 u2 u3) pe)] [(P+355,listO ps lp)] (N+355) (t) ({v:BfV // BfOut ⟨ia,ib,ic,id⟩ ((ps.drop (i)).map sOf) N v}) (fun v=>.ok .next) (fun v=>[]) (fun v=>A_18 ch kt ep S Vd P h1 h2 h3 u1 u2 u3 v.1) (fun v=>v.1.n+355) (fun v=>v.1.t) (fun v=>[]):=by
 refine .of_q MB hB hD.lo 7 0 ?_
 intro S₀
 let P₀:Rows→Pk (XX w r g d os) B D U S₀ []:=fun x₀=>(.a [1,1,1] [I+355,I+355] 1 0 0 0 [] [0] (next_some (hd:=none) (I:=I+355) (H:=P+355) (i:=i) (e:=lp) (n:=N+355) (t:=t) (vs:=ps) (v:=.str ⟨#[98]⟩ tq) hi) fun _=>(.a (d6 9 0x313335555) (ix [Vd+355,F0+355] 8 0x11110000) 0 2 0 0 [0] [1] (dget_ok (hd:=none) (n:=N+355) (t:=t+1) (H:=Vd+355) (es:=(A_8 ch kt ia ua ib ub ic uc id ud)) (ep:=ep) (k:=⟨#[98]⟩) (tk:=tq) rfl rfl) fun _=>(.a (d6 8 0x31335511) (ixL [Vd+355,F0+355] [0,0,0,1,1]) 2 0 0 0 [] [] (dset_ok (hd:=none) (n:=N+355) (t:=t+4) (H:=Vd+355) (es:=(A_8 ch kt ia ua ib ub ic uc id ud)) (ep:=ep) (k:=⟨#[98]⟩) (tk:=tq) (v:=.int (ib+1) (t+3)) rfl rfl) fun _=>(.o [] [] 7 0 0 0 [] [0] (IH (ia1:=ia) (ib1:=ib+1) (ic1:=ic) (id1:=id) (ua1:=ua) (ub1:=t+3) (uc1:=uc) (ud1:=ud) (h41:=kh w r ⟨#[112,108,97,99,101]⟩) (u41:=t) (pl1:=.str ⟨#[98]⟩ tq) (pe1:=pe+1) (N1:=N) (t1:=t+5) (by omega)) fun v3=>(.e ⟨v3.1,by have:=v3.2.1; omega,by rw [hd]; exact v3.2.2⟩)))))
 exact ⟨P₀,by intro x; kernel_rfl⟩
include MB hB in
theorem bf_3c (hD:Lim D U 70) (hi:ps[i]? = some (.str sc tq)) (hd:ps.drop i = .str sc tq :: ps.drop (i+1)) (IH:A_5 N w r g d os B D U I F0 C P i Vd ch kt ep S h1 h2 h3 u1 u2 u3 ps lp) :
  CutOk (XX w r g d os) B D U (bfCode w r I F0 C) none [(I+355,iterO (P+355) i),(Vd+355,cntO ch kt ia ib ic id ua ub uc ud ep),(F0+355,frO (bt3 S Vd P h1 h2 h3 u1 u2 u3) pe)] [(P+355,listO ps lp)] (N+355) (t) ({v:BfV // BfOut ⟨ia,ib,ic,id⟩ ((ps.drop (i)).map sOf) N v}) (fun v=>.ok .next) (fun v=>[]) (fun v=>A_18 ch kt ep S Vd P h1 h2 h3 u1 u2 u3 v.1) (fun v=>v.1.n+355) (fun v=>v.1.t) (fun v=>[]):=by
 refine .of_q MB hB hD.lo 7 0 ?_
 intro S₀
 let P₀:Rows→Pk (XX w r g d os) B D U S₀ []:=fun x₀=>(.a [1,1,1] [I+355,I+355] 1 0 0 0 [] [0] (next_some (hd:=none) (I:=I+355) (H:=P+355) (i:=i) (e:=lp) (n:=N+355) (t:=t) (vs:=ps) (v:=.str ⟨#[99]⟩ tq) hi) fun _=>(.a (d6 9 0x313335555) (ix [Vd+355,F0+355] 8 0x11110000) 0 2 0 0 [0] [1] (dget_ok (hd:=none) (n:=N+355) (t:=t+1) (H:=Vd+355) (es:=(A_8 ch kt ia ua ib ub ic uc id ud)) (ep:=ep) (k:=⟨#[99]⟩) (tk:=tq) rfl rfl) fun _=>(.a (d6 8 0x31335511) (ixL [Vd+355,F0+355] [0,0,0,1,1]) 2 0 0 0 [] [] (dset_ok (hd:=none) (n:=N+355) (t:=t+4) (H:=Vd+355) (es:=(A_8 ch kt ia ua ib ub ic uc id ud)) (ep:=ep) (k:=⟨#[99]⟩) (tk:=tq) (v:=.int (ic+1) (t+3)) rfl rfl) fun _=>(.o [] [] 7 0 0 0 [] [0] (IH (ia1:=ia) (ib1:=ib) (ic1:=ic+1) (id1:=id) (ua1:=ua) (ub1:=ub) (uc1:=t+3) (ud1:=ud) (h41:=kh w r ⟨#[112,108,97,99,101]⟩) (u41:=t) (pl1:=.str ⟨#[99]⟩ tq) (pe1:=pe+1) (N1:=N) (t1:=t+5) (by omega)) fun v3=>(.e ⟨v3.1,by have:=v3.2.1; omega,by rw [hd]; exact v3.2.2⟩)))))
 exact ⟨P₀,by intro x; kernel_rfl⟩
include MB hB in
theorem bf_3d (hD:Lim D U 70) (hi:ps[i]? = some (.str sd tq)) (hd:ps.drop i = .str sd tq :: ps.drop (i+1)) (IH:A_5 N w r g d os B D U I F0 C P i Vd ch kt ep S h1 h2 h3 u1 u2 u3 ps lp) :
  CutOk (XX w r g d os) B D U (bfCode w r I F0 C) none [(I+355,iterO (P+355) i),(Vd+355,cntO ch kt ia ib ic id ua ub uc ud ep),(F0+355,frO (bt3 S Vd P h1 h2 h3 u1 u2 u3) pe)] [(P+355,listO ps lp)] (N+355) (t) ({v:BfV // BfOut ⟨ia,ib,ic,id⟩ ((ps.drop (i)).map sOf) N v}) (fun v=>.ok .next) (fun v=>[]) (fun v=>A_18 ch kt ep S Vd P h1 h2 h3 u1 u2 u3 v.1) (fun v=>v.1.n+355) (fun v=>v.1.t) (fun v=>[]):=by
 refine .of_q MB hB hD.lo 7 0 ?_
 intro S₀
 let P₀:Rows→Pk (XX w r g d os) B D U S₀ []:=fun x₀=>(.a [1,1,1] [I+355,I+355] 1 0 0 0 [] [0] (next_some (hd:=none) (I:=I+355) (H:=P+355) (i:=i) (e:=lp) (n:=N+355) (t:=t) (vs:=ps) (v:=.str ⟨#[100]⟩ tq) hi) fun _=>(.a (d6 9 0x313335555) (ix [Vd+355,F0+355] 8 0x11110000) 0 2 0 0 [0] [1] (dget_ok (hd:=none) (n:=N+355) (t:=t+1) (H:=Vd+355) (es:=(A_8 ch kt ia ua ib ub ic uc id ud)) (ep:=ep) (k:=⟨#[100]⟩) (tk:=tq) rfl rfl) fun _=>(.a (d6 8 0x31335511) (ixL [Vd+355,F0+355] [0,0,0,1,1]) 2 0 0 0 [] [] (dset_ok (hd:=none) (n:=N+355) (t:=t+4) (H:=Vd+355) (es:=(A_8 ch kt ia ua ib ub ic uc id ud)) (ep:=ep) (k:=⟨#[100]⟩) (tk:=tq) (v:=.int (id+1) (t+3)) rfl rfl) fun _=>(.o [] [] 7 0 0 0 [] [0] (IH (ia1:=ia) (ib1:=ib) (ic1:=ic) (id1:=id+1) (ua1:=ua) (ub1:=ub) (uc1:=uc) (ud1:=t+3) (h41:=kh w r ⟨#[112,108,97,99,101]⟩) (u41:=t) (pl1:=.str ⟨#[100]⟩ tq) (pe1:=pe+1) (N1:=N) (t1:=t+5) (by omega)) fun v3=>(.e ⟨v3.1,by have:=v3.2.1; omega,by rw [hd]; exact v3.2.2⟩)))))
 exact ⟨P₀,by intro x; kernel_rfl⟩
variable {h4:Int} {u4:Tok} {pl:Value}
include MB hB in
theorem bf_4a (hD:Lim D U 70) (hi:ps[i]? = some (.str sa tq)) (hd:ps.drop i = .str sa tq :: ps.drop (i+1)) (IH:A_5 N w r g d os B D U I F0 C P i Vd ch kt ep S h1 h2 h3 u1 u2 u3 ps lp) :
  CutOk (XX w r g d os) B D U (bfCode w r I F0 C) none [(I+355,iterO (P+355) i),(Vd+355,cntO ch kt ia ib ic id ua ub uc ud ep),(F0+355,frO (bt4 S Vd P h1 h2 h3 h4 u1 u2 u3 u4 pl) pe)] [(P+355,listO ps lp)] (N+355) (t) ({v:BfV // BfOut ⟨ia,ib,ic,id⟩ ((ps.drop (i)).map sOf) N v}) (fun v=>.ok .next) (fun v=>[]) (fun v=>A_18 ch kt ep S Vd P h1 h2 h3 u1 u2 u3 v.1) (fun v=>v.1.n+355) (fun v=>v.1.t) (fun v=>[]):=by
 refine .of_q MB hB hD.lo 7 0 ?_
 intro S₀
 let P₀:Rows→Pk (XX w r g d os) B D U S₀ []:=fun x₀=>(.a [1,1,1] [I+355,I+355] 1 0 0 0 [] [0] (next_some (hd:=none) (I:=I+355) (H:=P+355) (i:=i) (e:=lp) (n:=N+355) (t:=t) (vs:=ps) (v:=.str ⟨#[97]⟩ tq) hi) fun _=>(.a (d6 9 0x313335555) (ix [Vd+355,F0+355] 8 0x11110000) 0 2 0 0 [0] [1] (dget_ok (hd:=none) (n:=N+355) (t:=t+1) (H:=Vd+355) (es:=(A_8 ch kt ia ua ib ub ic uc id ud)) (ep:=ep) (k:=⟨#[97]⟩) (tk:=tq) rfl rfl) fun _=>(.a (d6 8 0x31335511) (ixL [Vd+355,F0+355] [0,0,0,1,1]) 2 0 0 0 [] [] (dset_ok (hd:=none) (n:=N+355) (t:=t+4) (H:=Vd+355) (es:=(A_8 ch kt ia ua ib ub ic uc id ud)) (ep:=ep) (k:=⟨#[97]⟩) (tk:=tq) (v:=.int (ia+1) (t+3)) rfl rfl) fun _=>(.o [] [] 7 0 0 0 [] [0] (IH (ia1:=ia+1) (ib1:=ib) (ic1:=ic) (id1:=id) (ua1:=t+3) (ub1:=ub) (uc1:=uc) (ud1:=ud) (h41:=h4) (u41:=u4) (pl1:=.str ⟨#[97]⟩ tq) (pe1:=pe) (N1:=N) (t1:=t+5) (by omega)) fun v3=>(.e ⟨v3.1,by have:=v3.2.1; omega,by rw [hd]; exact v3.2.2⟩)))))
 exact ⟨P₀,by intro x; kernel_rfl⟩
include MB hB in
theorem bf_4b (hD:Lim D U 70) (hi:ps[i]? = some (.str sb tq)) (hd:ps.drop i = .str sb tq :: ps.drop (i+1)) (IH:A_5 N w r g d os B D U I F0 C P i Vd ch kt ep S h1 h2 h3 u1 u2 u3 ps lp) :
  CutOk (XX w r g d os) B D U (bfCode w r I F0 C) none [(I+355,iterO (P+355) i),(Vd+355,cntO ch kt ia ib ic id ua ub uc ud ep),(F0+355,frO (bt4 S Vd P h1 h2 h3 h4 u1 u2 u3 u4 pl) pe)] [(P+355,listO ps lp)] (N+355) (t) ({v:BfV // BfOut ⟨ia,ib,ic,id⟩ ((ps.drop (i)).map sOf) N v}) (fun v=>.ok .next) (fun v=>[]) (fun v=>A_18 ch kt ep S Vd P h1 h2 h3 u1 u2 u3 v.1) (fun v=>v.1.n+355) (fun v=>v.1.t) (fun v=>[]):=by
 refine .of_q MB hB hD.lo 7 0 ?_
 intro S₀
 let P₀:Rows→Pk (XX w r g d os) B D U S₀ []:=fun x₀=>(.a [1,1,1] [I+355,I+355] 1 0 0 0 [] [0] (next_some (hd:=none) (I:=I+355) (H:=P+355) (i:=i) (e:=lp) (n:=N+355) (t:=t) (vs:=ps) (v:=.str ⟨#[98]⟩ tq) hi) fun _=>(.a (d6 9 0x313335555) (ix [Vd+355,F0+355] 8 0x11110000) 0 2 0 0 [0] [1] (dget_ok (hd:=none) (n:=N+355) (t:=t+1) (H:=Vd+355) (es:=(A_8 ch kt ia ua ib ub ic uc id ud)) (ep:=ep) (k:=⟨#[98]⟩) (tk:=tq) rfl rfl) fun _=>(.a (d6 8 0x31335511) (ixL [Vd+355,F0+355] [0,0,0,1,1]) 2 0 0 0 [] [] (dset_ok (hd:=none) (n:=N+355) (t:=t+4) (H:=Vd+355) (es:=(A_8 ch kt ia ua ib ub ic uc id ud)) (ep:=ep) (k:=⟨#[98]⟩) (tk:=tq) (v:=.int (ib+1) (t+3)) rfl rfl) fun _=>(.o [] [] 7 0 0 0 [] [0] (IH (ia1:=ia) (ib1:=ib+1) (ic1:=ic) (id1:=id) (ua1:=ua) (ub1:=t+3) (uc1:=uc) (ud1:=ud) (h41:=h4) (u41:=u4) (pl1:=.str ⟨#[98]⟩ tq) (pe1:=pe) (N1:=N) (t1:=t+5) (by omega)) fun v3=>(.e ⟨v3.1,by have:=v3.2.1; omega,by rw [hd]; exact v3.2.2⟩)))))
 exact ⟨P₀,by intro x; kernel_rfl⟩
include MB hB in
theorem bf_4c (hD:Lim D U 70) (hi:ps[i]? = some (.str sc tq)) (hd:ps.drop i = .str sc tq :: ps.drop (i+1)) (IH:A_5 N w r g d os B D U I F0 C P i Vd ch kt ep S h1 h2 h3 u1 u2 u3 ps lp) :
  CutOk (XX w r g d os) B D U (bfCode w r I F0 C) none [(I+355,iterO (P+355) i),(Vd+355,cntO ch kt ia ib ic id ua ub uc ud ep),(F0+355,frO (bt4 S Vd P h1 h2 h3 h4 u1 u2 u3 u4 pl) pe)] [(P+355,listO ps lp)] (N+355) (t) ({v:BfV // BfOut ⟨ia,ib,ic,id⟩ ((ps.drop (i)).map sOf) N v}) (fun v=>.ok .next) (fun v=>[]) (fun v=>A_18 ch kt ep S Vd P h1 h2 h3 u1 u2 u3 v.1) (fun v=>v.1.n+355) (fun v=>v.1.t) (fun v=>[]):=by
 refine .of_q MB hB hD.lo 7 0 ?_
 intro S₀
 let P₀:Rows→Pk (XX w r g d os) B D U S₀ []:=fun x₀=>(.a [1,1,1] [I+355,I+355] 1 0 0 0 [] [0] (next_some (hd:=none) (I:=I+355) (H:=P+355) (i:=i) (e:=lp) (n:=N+355) (t:=t) (vs:=ps) (v:=.str ⟨#[99]⟩ tq) hi) fun _=>(.a (d6 9 0x313335555) (ix [Vd+355,F0+355] 8 0x11110000) 0 2 0 0 [0] [1] (dget_ok (hd:=none) (n:=N+355) (t:=t+1) (H:=Vd+355) (es:=(A_8 ch kt ia ua ib ub ic uc id ud)) (ep:=ep) (k:=⟨#[99]⟩) (tk:=tq) rfl rfl) fun _=>(.a (d6 8 0x31335511) (ixL [Vd+355,F0+355] [0,0,0,1,1]) 2 0 0 0 [] [] (dset_ok (hd:=none) (n:=N+355) (t:=t+4) (H:=Vd+355) (es:=(A_8 ch kt ia ua ib ub ic uc id ud)) (ep:=ep) (k:=⟨#[99]⟩) (tk:=tq) (v:=.int (ic+1) (t+3)) rfl rfl) fun _=>(.o [] [] 7 0 0 0 [] [0] (IH (ia1:=ia) (ib1:=ib) (ic1:=ic+1) (id1:=id) (ua1:=ua) (ub1:=ub) (uc1:=t+3) (ud1:=ud) (h41:=h4) (u41:=u4) (pl1:=.str ⟨#[99]⟩ tq) (pe1:=pe) (N1:=N) (t1:=t+5) (by omega)) fun v3=>(.e ⟨v3.1,by have:=v3.2.1; omega,by rw [hd]; exact v3.2.2⟩)))))
 exact ⟨P₀,by intro x; kernel_rfl⟩
include MB hB in
theorem bf_4d (hD:Lim D U 70) (hi:ps[i]? = some (.str sd tq)) (hd:ps.drop i = .str sd tq :: ps.drop (i+1)) (IH:A_5 N w r g d os B D U I F0 C P i Vd ch kt ep S h1 h2 h3 u1 u2 u3 ps lp) :
  CutOk (XX w r g d os) B D U (bfCode w r I F0 C) none [(I+355,iterO (P+355) i),(Vd+355,cntO ch kt ia ib ic id ua ub uc ud ep),(F0+355,frO (bt4 S Vd P h1 h2 h3 h4 u1 u2 u3 u4 pl) pe)] [(P+355,listO ps lp)] (N+355) (t) ({v:BfV // BfOut ⟨ia,ib,ic,id⟩ ((ps.drop (i)).map sOf) N v}) (fun v=>.ok .next) (fun v=>[]) (fun v=>A_18 ch kt ep S Vd P h1 h2 h3 u1 u2 u3 v.1) (fun v=>v.1.n+355) (fun v=>v.1.t) (fun v=>[]):=by
 refine .of_q MB hB hD.lo 7 0 ?_
 intro S₀
 let P₀:Rows→Pk (XX w r g d os) B D U S₀ []:=fun x₀=>(.a [1,1,1] [I+355,I+355] 1 0 0 0 [] [0] (next_some (hd:=none) (I:=I+355) (H:=P+355) (i:=i) (e:=lp) (n:=N+355) (t:=t) (vs:=ps) (v:=.str ⟨#[100]⟩ tq) hi) fun _=>(.a (d6 9 0x313335555) (ix [Vd+355,F0+355] 8 0x11110000) 0 2 0 0 [0] [1] (dget_ok (hd:=none) (n:=N+355) (t:=t+1) (H:=Vd+355) (es:=(A_8 ch kt ia ua ib ub ic uc id ud)) (ep:=ep) (k:=⟨#[100]⟩) (tk:=tq) rfl rfl) fun _=>(.a (d6 8 0x31335511) (ixL [Vd+355,F0+355] [0,0,0,1,1]) 2 0 0 0 [] [] (dset_ok (hd:=none) (n:=N+355) (t:=t+4) (H:=Vd+355) (es:=(A_8 ch kt ia ua ib ub ic uc id ud)) (ep:=ep) (k:=⟨#[100]⟩) (tk:=tq) (v:=.int (id+1) (t+3)) rfl rfl) fun _=>(.o [] [] 7 0 0 0 [] [0] (IH (ia1:=ia) (ib1:=ib) (ic1:=ic) (id1:=id+1) (ua1:=ua) (ub1:=ub) (uc1:=uc) (ud1:=t+3) (h41:=h4) (u41:=u4) (pl1:=.str ⟨#[100]⟩ tq) (pe1:=pe) (N1:=N) (t1:=t+5) (by omega)) fun v3=>(.e ⟨v3.1,by have:=v3.2.1; omega,by rw [hd]; exact v3.2.2⟩)))))
 exact ⟨P₀,by intro x; kernel_rfl⟩
noncomputable abbrev A_12 (N:Nat) (w:World) (r:Rows) (g:Array GenState) (d:Drawn) (os:OsState) (B:Heap→Prop) (D U I F0 C P i Vd:Nat) (ch:CH) (kt:CT) (ep S M:Nat) (h1 h2 h3 h5:Int) (u1 u2 u3 u5:Tok) (ps:List Value) (lp:Nat):Prop:=∀ (ia1 ib1 ic1 id1:Int) (ua1 ub1 uc1 ud1:Tok) (h41:Int) (u41:Tok) (pl1:Value) (pe1 N1 t1:Nat),N≤N1→CutOk (XX w r g d os) B D U (bfCode w r I F0 C) none [(I+355,iterO (P+355) (i+1)),(Vd+355,cntO ch kt ia1 ib1 ic1 id1 ua1 ub1 uc1 ud1 ep),(F0+355,frO (bt5 S Vd P M h1 h2 h3 h41 h5 u1 u2 u3 u41 u5 pl1) pe1)] [(P+355,listO ps lp)] (N1+355) t1 ({v:BfV // BfOut ⟨ia1,ib1,ic1,id1⟩ ((ps.drop (i+1)).map sOf) N1 v}) (fun _=>.ok .next) (fun _=>[]) (fun v=>[iterE v.1.i,cntO ch kt v.1.k.a v.1.k.b v.1.k.c v.1.k.d v.1.u.a v.1.u.b v.1.u.c v.1.u.d ep,frO (bt5 S Vd P M h1 h2 h3 v.1.fh h5 u1 u2 u3 v.1.fu u5 v.1.fp) v.1.fe]) (fun v=>v.1.n+355) (fun v=>v.1.t) (fun _=>[])
noncomputable abbrev A_26 (ch:CH) (kt:CT) (ep S Vd P M:Nat) (h1 h2 h3 h5:Int) (u1 u2 u3 u5:Tok) (χ:BfV):List Obj:=[iterE χ.i,cntO ch kt χ.k.a χ.k.b χ.k.c χ.k.d χ.u.a χ.u.b χ.u.c χ.u.d ep,frO (bt5 S Vd P M h1 h2 h3 χ.fh h5 u1 u2 u3 χ.fu u5 χ.fp) χ.fe]
variable {M:Nat} {h5:Int} {u5:Tok}
include MB hB in
theorem bf_5a (hD:Lim D U 70) (hi:ps[i]? = some (.str sa tq)) (hd:ps.drop i = .str sa tq :: ps.drop (i+1)) (IH:A_12 N w r g d os B D U I F0 C P i Vd ch kt ep S M h1 h2 h3 h5 u1 u2 u3 u5 ps lp) :
  CutOk (XX w r g d os) B D U (bfCode w r I F0 C) none [(I+355,iterO (P+355) i),(Vd+355,cntO ch kt ia ib ic id ua ub uc ud ep),(F0+355,frO (bt5 S Vd P M h1 h2 h3 h4 h5 u1 u2 u3 u4 u5 pl) pe)] [(P+355,listO ps lp)] (N+355) (t) ({v:BfV // BfOut ⟨ia,ib,ic,id⟩ ((ps.drop (i)).map sOf) N v}) (fun v=>.ok .next) (fun v=>[]) (fun v=>A_26 ch kt ep S Vd P M h1 h2 h3 h5 u1 u2 u3 u5 v.1) (fun v=>v.1.n+355) (fun v=>v.1.t) (fun v=>[]):=by
 refine .of_q MB hB hD.lo 7 0 ?_
 intro S₀
 let P₀:Rows→Pk (XX w r g d os) B D U S₀ []:=fun x₀=>(.a [1,1,1] [I+355,I+355] 1 0 0 0 [] [0] (next_some (hd:=none) (I:=I+355) (H:=P+355) (i:=i) (e:=lp) (n:=N+355) (t:=t) (vs:=ps) (v:=.str ⟨#[97]⟩ tq) hi) fun _=>(.a (d6 9 0x313335555) (ix [Vd+355,F0+355] 8 0x11110000) 0 2 0 0 [0] [1] (dget_ok (hd:=none) (n:=N+355) (t:=t+1) (H:=Vd+355) (es:=(A_8 ch kt ia ua ib ub ic uc id ud)) (ep:=ep) (k:=⟨#[97]⟩) (tk:=tq) rfl rfl) fun _=>(.a (d6 8 0x31335511) (ixL [Vd+355,F0+355] [0,0,0,1,1]) 2 0 0 0 [] [] (dset_ok (hd:=none) (n:=N+355) (t:=t+4) (H:=Vd+355) (es:=(A_8 ch kt ia ua ib ub ic uc id ud)) (ep:=ep) (k:=⟨#[97]⟩) (tk:=tq) (v:=.int (ia+1) (t+3)) rfl rfl) fun _=>(.o [] [] 7 0 0 0 [] [0] (IH (ia1:=ia+1) (ib1:=ib) (ic1:=ic) (id1:=id) (ua1:=t+3) (ub1:=ub) (uc1:=uc) (ud1:=ud) (h41:=h4) (u41:=u4) (pl1:=.str ⟨#[97]⟩ tq) (pe1:=pe) (N1:=N) (t1:=t+5) (by omega)) fun v3=>(.e ⟨v3.1,by have:=v3.2.1; omega,by rw [hd]; exact v3.2.2⟩)))))
 exact ⟨P₀,by intro x; kernel_rfl⟩
include MB hB in
theorem bf_5b (hD:Lim D U 70) (hi:ps[i]? = some (.str sb tq)) (hd:ps.drop i = .str sb tq :: ps.drop (i+1)) (IH:A_12 N w r g d os B D U I F0 C P i Vd ch kt ep S M h1 h2 h3 h5 u1 u2 u3 u5 ps lp) :
  CutOk (XX w r g d os) B D U (bfCode w r I F0 C) none [(I+355,iterO (P+355) i),(Vd+355,cntO ch kt ia ib ic id ua ub uc ud ep),(F0+355,frO (bt5 S Vd P M h1 h2 h3 h4 h5 u1 u2 u3 u4 u5 pl) pe)] [(P+355,listO ps lp)] (N+355) (t) ({v:BfV // BfOut ⟨ia,ib,ic,id⟩ ((ps.drop (i)).map sOf) N v}) (fun v=>.ok .next) (fun v=>[]) (fun v=>A_26 ch kt ep S Vd P M h1 h2 h3 h5 u1 u2 u3 u5 v.1) (fun v=>v.1.n+355) (fun v=>v.1.t) (fun v=>[]):=by
 refine .of_q MB hB hD.lo 7 0 ?_
 intro S₀
 let P₀:Rows→Pk (XX w r g d os) B D U S₀ []:=fun x₀=>(.a [1,1,1] [I+355,I+355] 1 0 0 0 [] [0] (next_some (hd:=none) (I:=I+355) (H:=P+355) (i:=i) (e:=lp) (n:=N+355) (t:=t) (vs:=ps) (v:=.str ⟨#[98]⟩ tq) hi) fun _=>(.a (d6 9 0x313335555) (ix [Vd+355,F0+355] 8 0x11110000) 0 2 0 0 [0] [1] (dget_ok (hd:=none) (n:=N+355) (t:=t+1) (H:=Vd+355) (es:=(A_8 ch kt ia ua ib ub ic uc id ud)) (ep:=ep) (k:=⟨#[98]⟩) (tk:=tq) rfl rfl) fun _=>(.a (d6 8 0x31335511) (ixL [Vd+355,F0+355] [0,0,0,1,1]) 2 0 0 0 [] [] (dset_ok (hd:=none) (n:=N+355) (t:=t+4) (H:=Vd+355) (es:=(A_8 ch kt ia ua ib ub ic uc id ud)) (ep:=ep) (k:=⟨#[98]⟩) (tk:=tq) (v:=.int (ib+1) (t+3)) rfl rfl) fun _=>(.o [] [] 7 0 0 0 [] [0] (IH (ia1:=ia) (ib1:=ib+1) (ic1:=ic) (id1:=id) (ua1:=ua) (ub1:=t+3) (uc1:=uc) (ud1:=ud) (h41:=h4) (u41:=u4) (pl1:=.str ⟨#[98]⟩ tq) (pe1:=pe) (N1:=N) (t1:=t+5) (by omega)) fun v3=>(.e ⟨v3.1,by have:=v3.2.1; omega,by rw [hd]; exact v3.2.2⟩)))))
 exact ⟨P₀,by intro x; kernel_rfl⟩
include MB hB in
theorem bf_5c (hD:Lim D U 70) (hi:ps[i]? = some (.str sc tq)) (hd:ps.drop i = .str sc tq :: ps.drop (i+1)) (IH:A_12 N w r g d os B D U I F0 C P i Vd ch kt ep S M h1 h2 h3 h5 u1 u2 u3 u5 ps lp) :
  CutOk (XX w r g d os) B D U (bfCode w r I F0 C) none [(I+355,iterO (P+355) i),(Vd+355,cntO ch kt ia ib ic id ua ub uc ud ep),(F0+355,frO (bt5 S Vd P M h1 h2 h3 h4 h5 u1 u2 u3 u4 u5 pl) pe)] [(P+355,listO ps lp)] (N+355) (t) ({v:BfV // BfOut ⟨ia,ib,ic,id⟩ ((ps.drop (i)).map sOf) N v}) (fun v=>.ok .next) (fun v=>[]) (fun v=>A_26 ch kt ep S Vd P M h1 h2 h3 h5 u1 u2 u3 u5 v.1) (fun v=>v.1.n+355) (fun v=>v.1.t) (fun v=>[]):=by
 refine .of_q MB hB hD.lo 7 0 ?_
 intro S₀
 let P₀:Rows→Pk (XX w r g d os) B D U S₀ []:=fun x₀=>(.a [1,1,1] [I+355,I+355] 1 0 0 0 [] [0] (next_some (hd:=none) (I:=I+355) (H:=P+355) (i:=i) (e:=lp) (n:=N+355) (t:=t) (vs:=ps) (v:=.str ⟨#[99]⟩ tq) hi) fun _=>(.a (d6 9 0x313335555) (ix [Vd+355,F0+355] 8 0x11110000) 0 2 0 0 [0] [1] (dget_ok (hd:=none) (n:=N+355) (t:=t+1) (H:=Vd+355) (es:=(A_8 ch kt ia ua ib ub ic uc id ud)) (ep:=ep) (k:=⟨#[99]⟩) (tk:=tq) rfl rfl) fun _=>(.a (d6 8 0x31335511) (ixL [Vd+355,F0+355] [0,0,0,1,1]) 2 0 0 0 [] [] (dset_ok (hd:=none) (n:=N+355) (t:=t+4) (H:=Vd+355) (es:=(A_8 ch kt ia ua ib ub ic uc id ud)) (ep:=ep) (k:=⟨#[99]⟩) (tk:=tq) (v:=.int (ic+1) (t+3)) rfl rfl) fun _=>(.o [] [] 7 0 0 0 [] [0] (IH (ia1:=ia) (ib1:=ib) (ic1:=ic+1) (id1:=id) (ua1:=ua) (ub1:=ub) (uc1:=t+3) (ud1:=ud) (h41:=h4) (u41:=u4) (pl1:=.str ⟨#[99]⟩ tq) (pe1:=pe) (N1:=N) (t1:=t+5) (by omega)) fun v3=>(.e ⟨v3.1,by have:=v3.2.1; omega,by rw [hd]; exact v3.2.2⟩)))))
 exact ⟨P₀,by intro x; kernel_rfl⟩
include MB hB in
theorem bf_5d (hD:Lim D U 70) (hi:ps[i]? = some (.str sd tq)) (hd:ps.drop i = .str sd tq :: ps.drop (i+1)) (IH:A_12 N w r g d os B D U I F0 C P i Vd ch kt ep S M h1 h2 h3 h5 u1 u2 u3 u5 ps lp) :
  CutOk (XX w r g d os) B D U (bfCode w r I F0 C) none [(I+355,iterO (P+355) i),(Vd+355,cntO ch kt ia ib ic id ua ub uc ud ep),(F0+355,frO (bt5 S Vd P M h1 h2 h3 h4 h5 u1 u2 u3 u4 u5 pl) pe)] [(P+355,listO ps lp)] (N+355) (t) ({v:BfV // BfOut ⟨ia,ib,ic,id⟩ ((ps.drop (i)).map sOf) N v}) (fun v=>.ok .next) (fun v=>[]) (fun v=>A_26 ch kt ep S Vd P M h1 h2 h3 h5 u1 u2 u3 u5 v.1) (fun v=>v.1.n+355) (fun v=>v.1.t) (fun v=>[]):=by
 refine .of_q MB hB hD.lo 7 0 ?_
 intro S₀
 let P₀:Rows→Pk (XX w r g d os) B D U S₀ []:=fun x₀=>(.a [1,1,1] [I+355,I+355] 1 0 0 0 [] [0] (next_some (hd:=none) (I:=I+355) (H:=P+355) (i:=i) (e:=lp) (n:=N+355) (t:=t) (vs:=ps) (v:=.str ⟨#[100]⟩ tq) hi) fun _=>(.a (d6 9 0x313335555) (ix [Vd+355,F0+355] 8 0x11110000) 0 2 0 0 [0] [1] (dget_ok (hd:=none) (n:=N+355) (t:=t+1) (H:=Vd+355) (es:=(A_8 ch kt ia ua ib ub ic uc id ud)) (ep:=ep) (k:=⟨#[100]⟩) (tk:=tq) rfl rfl) fun _=>(.a (d6 8 0x31335511) (ixL [Vd+355,F0+355] [0,0,0,1,1]) 2 0 0 0 [] [] (dset_ok (hd:=none) (n:=N+355) (t:=t+4) (H:=Vd+355) (es:=(A_8 ch kt ia ua ib ub ic uc id ud)) (ep:=ep) (k:=⟨#[100]⟩) (tk:=tq) (v:=.int (id+1) (t+3)) rfl rfl) fun _=>(.o [] [] 7 0 0 0 [] [0] (IH (ia1:=ia) (ib1:=ib) (ic1:=ic) (id1:=id+1) (ua1:=ua) (ub1:=ub) (uc1:=uc) (ud1:=t+3) (h41:=h4) (u41:=u4) (pl1:=.str ⟨#[100]⟩ tq) (pe1:=pe) (N1:=N) (t1:=t+5) (by omega)) fun v3=>(.e ⟨v3.1,by have:=v3.2.1; omega,by rw [hd]; exact v3.2.2⟩)))))
 exact ⟨P₀,by intro x; kernel_rfl⟩
include MB hB in
theorem bf_end4 (hD:Lim D U 70) (hi:ps[i]? = none) :
  CutOk (XX w r g d os) B D U (bfCode w r I F0 C) none [(I+355,iterO (P+355) i),(Vd+355,cntO ch kt ia ib ic id ua ub uc ud ep),(F0+355,frO (bt4 S Vd P h1 h2 h3 h4 u1 u2 u3 u4 pl) pe)] [(P+355,listO ps lp)] (N+355) (t) ({v:BfV // BfOut ⟨ia,ib,ic,id⟩ ((ps.drop (i)).map sOf) N v}) (fun v=>.ok .next) (fun v=>[]) (fun v=>A_18 ch kt ep S Vd P h1 h2 h3 u1 u2 u3 v.1) (fun v=>v.1.n+355) (fun v=>v.1.t) (fun v=>[]):=by
 refine .of_q MB hB hD.lo 28 0 ?_
 intro S₀
 let P₀:Rows→Pk (XX w r g d os) B D U S₀ []:=fun x₀=>(.a [1,1,1] [I+355,I+355] 1 0 0 0 [] [0] (next_none (I:=I+355) (H:=P+355) (i:=i) (e:=lp) (n:=N+355) (t:=t) (vs:=ps) hi) fun _=>(.f [1,1] [N+356] ⟨⟨⟨ia,ib,ic,id⟩,⟨ua,ub,uc,ud⟩,h4,u4,pl,pe,i,N+2,t⟩,by show N≤N+2; omega,by rw [List.drop_of_length_le (by simpa using hi)]; rfl⟩))
 exact ⟨P₀,by intro x; kernel_rfl⟩
include MB hB in
theorem bf_end5 (hD:Lim D U 70) (hi:ps[i]? = none) :
  CutOk (XX w r g d os) B D U (bfCode w r I F0 C) none [(I+355,iterO (P+355) i),(Vd+355,cntO ch kt ia ib ic id ua ub uc ud ep),(F0+355,frO (bt5 S Vd P M h1 h2 h3 h4 h5 u1 u2 u3 u4 u5 pl) pe)] [(P+355,listO ps lp)] (N+355) (t) ({v:BfV // BfOut ⟨ia,ib,ic,id⟩ ((ps.drop (i)).map sOf) N v}) (fun v=>.ok .next) (fun v=>[]) (fun v=>A_26 ch kt ep S Vd P M h1 h2 h3 h5 u1 u2 u3 u5 v.1) (fun v=>v.1.n+355) (fun v=>v.1.t) (fun v=>[]):=by
 refine .of_q MB hB hD.lo 28 0 ?_
 intro S₀
 let P₀:Rows→Pk (XX w r g d os) B D U S₀ []:=fun x₀=>(.a [1,1,1] [I+355,I+355] 1 0 0 0 [] [0] (next_none (I:=I+355) (H:=P+355) (i:=i) (e:=lp) (n:=N+355) (t:=t) (vs:=ps) hi) fun _=>(.f [1,1] [N+356] ⟨⟨⟨ia,ib,ic,id⟩,⟨ua,ub,uc,ud⟩,h4,u4,pl,pe,i,N+2,t⟩,by show N≤N+2; omega,by rw [List.drop_of_length_le (by simpa using hi)]; rfl⟩))
 exact ⟨P₀,by intro x; kernel_rfl⟩
section
variable {w:World} {r:Rows} {g:Array GenState} {d:Drawn} {os:OsState} {B:Heap→Prop} {D U:Nat}
theorem bf_loop4 (MB:Mono B) (hB:∀ h,B h→(KF (pr w r)).In h) (hD:Lim D U 70) {I F0 C S Vd P ep lp:Nat} {h1 h2 h3:Int} {u1 u2 u3:Tok} {ch:CH} {kt:CT} {ps:List Value} (hps:∀ v∈ps,∃ q tq,v = .str q tq∧Let q):∀ (m i:Nat),ps.length = i + m→∀ (ia ib ic id:Int) (ua ub uc ud:Tok) (h4:Int) (u4:Tok) (pl:Value) (pe N t:Nat),
  CutOk (XX w r g d os) B D U (bfCode w r I F0 C) none [(I+355,iterO (P+355) i),(Vd+355,cntO ch kt ia ib ic id ua ub uc ud ep),(F0+355,frO (bt4 S Vd P h1 h2 h3 h4 u1 u2 u3 u4 pl) pe)] [(P+355,listO ps lp)] (N+355) t ({v:BfV // BfOut ⟨ia,ib,ic,id⟩ ((ps.drop i).map sOf) N v}) (fun _=>.ok .next) (fun _=>[]) (fun v=>A_18 ch kt ep S Vd P h1 h2 h3 u1 u2 u3 v.1) (fun v=>v.1.n+355) (fun v=>v.1.t) (fun _=>[]):=by
 intro m
 induction m with
 | zero =>
  intro i hi ia ib ic id ua ub uc ud h4 u4 pl pe N t
  exact bf_end4 MB hB hD (by simp; omega)
 | succ m ih =>
  intro i hi ia ib ic id ua ub uc ud h4 u4 pl pe N t
  obtain ⟨x,hx,hm,hd⟩:=getV hi
  obtain ⟨q,tq,rfl,hq⟩:=hps x hm
  have IH:=fun (ia1 ib1 ic1 id1:Int) (ua1 ub1 uc1 ud1:Tok) (h41:Int) (u41:Tok) (pl1:Value) (pe1 N1 t1:Nat) (_:N≤N1) => ih (i+1) (by omega) ia1 ib1 ic1 id1 ua1 ub1 uc1 ud1 h41 u41 pl1 pe1 N1 t1
  rcases hq with rfl | rfl | rfl | rfl
  ·exact bf_4a MB hB hD hx hd IH
  ·exact bf_4b MB hB hD hx hd IH
  ·exact bf_4c MB hB hD hx hd IH
  ·exact bf_4d MB hB hD hx hd IH
theorem bf_loop5 (MB:Mono B) (hB:∀ h,B h→(KF (pr w r)).In h) (hD:Lim D U 70) {I F0 C S Vd P M ep lp:Nat} {h1 h2 h3 h5:Int} {u1 u2 u3 u5:Tok} {ch:CH} {kt:CT} {ps:List Value} (hps:∀ v∈ps,∃ q tq,v = .str q tq∧Let q):∀ (m i:Nat),ps.length = i + m→∀ (ia ib ic id:Int) (ua ub uc ud:Tok) (h4:Int) (u4:Tok) (pl:Value) (pe N t:Nat),
  CutOk (XX w r g d os) B D U (bfCode w r I F0 C) none [(I+355,iterO (P+355) i),(Vd+355,cntO ch kt ia ib ic id ua ub uc ud ep),(F0+355,frO (bt5 S Vd P M h1 h2 h3 h4 h5 u1 u2 u3 u4 u5 pl) pe)] [(P+355,listO ps lp)] (N+355) t ({v:BfV // BfOut ⟨ia,ib,ic,id⟩ ((ps.drop i).map sOf) N v}) (fun _=>.ok .next) (fun _=>[]) (fun v=>A_26 ch kt ep S Vd P M h1 h2 h3 h5 u1 u2 u3 u5 v.1) (fun v=>v.1.n+355) (fun v=>v.1.t) (fun _=>[]):=by
 intro m
 induction m with
 | zero =>
  intro i hi ia ib ic id ua ub uc ud h4 u4 pl pe N t
  exact bf_end5 MB hB hD (by simp; omega)
 | succ m ih =>
  intro i hi ia ib ic id ua ub uc ud h4 u4 pl pe N t
  obtain ⟨x,hx,hm,hd⟩:=getV hi
  obtain ⟨q,tq,rfl,hq⟩:=hps x hm
  have IH:=fun (ia1 ib1 ic1 id1:Int) (ua1 ub1 uc1 ud1:Tok) (h41:Int) (u41:Tok) (pl1:Value) (pe1 N1 t1:Nat) (_:N≤N1) => ih (i+1) (by omega) ia1 ib1 ic1 id1 ua1 ub1 uc1 ud1 h41 u41 pl1 pe1 N1 t1
  rcases hq with rfl | rfl | rfl | rfl
  ·exact bf_5a MB hB hD hx hd IH
  ·exact bf_5b MB hB hD hx hd IH
  ·exact bf_5c MB hB hD hx hd IH
  ·exact bf_5d MB hB hD hx hd IH
theorem bf_loop3 (MB:Mono B) (hB:∀ h,B h→(KF (pr w r)).In h) (hD:Lim D U 70) {I F0 C S Vd P ep lp:Nat} {h1 h2 h3:Int} {u1 u2 u3:Tok} {ch:CH} {kt:CT} {ps:List Value} (hps:∀ v∈ps,∃ q tq,v = .str q tq∧Let q) (h0:0 < ps.length) {ia ib ic id:Int} {ua ub uc ud:Tok} {pe N t:Nat} :
  CutOk (XX w r g d os) B D U (bfCode w r I F0 C) none [(I+355,iterO (P+355) 0),(Vd+355,cntO ch kt ia ib ic id ua ub uc ud ep),(F0+355,frO (bt3 S Vd P h1 h2 h3 u1 u2 u3) pe)] [(P+355,listO ps lp)] (N+355) t ({v:BfV // BfOut ⟨ia,ib,ic,id⟩ ((ps.drop 0).map sOf) N v}) (fun _=>.ok .next) (fun _=>[]) (fun v=>A_18 ch kt ep S Vd P h1 h2 h3 u1 u2 u3 v.1) (fun v=>v.1.n+355) (fun v=>v.1.t) (fun _=>[]):=by
 obtain ⟨x,hx,hm,hd⟩:=getV (ls:=ps) (i:=0) (m:=ps.length - 1) (by omega)
 obtain ⟨q,tq,rfl,hq⟩:=hps x hm
 have IH:=fun (ia1 ib1 ic1 id1:Int) (ua1 ub1 uc1 ud1:Tok) (h41:Int) (u41:Tok) (pl1:Value) (pe1 N1 t1:Nat) (_:N≤N1) => bf_loop4 (g:=g) (d:=d) (os:=os) MB hB hD (I:=I) (F0:=F0) (C:=C) (S:=S) (Vd:=Vd) (P:=P) (ep:=ep) (lp:=lp) (h1:=h1) (h2:=h2) (h3:=h3) (u1:=u1) (u2:=u2) (u3:=u3) (ch:=ch) (kt:=kt) hps (ps.length - 1) (0 + 1) (by omega) ia1 ib1 ic1 id1 ua1 ub1 uc1 ud1 h41 u41 pl1 pe1 N1 t1
 rcases hq with rfl | rfl | rfl | rfl
 ·exact bf_3a (i:=0) MB hB hD hx hd IH
 ·exact bf_3b (i:=0) MB hB hD hx hd IH
 ·exact bf_3c (i:=0) MB hB hD hx hd IH
 ·exact bf_3d (i:=0) MB hB hD hx hd IH
end
end
section
noncomputable abbrev mcCode (w:World) (r:Rows) (L5 A I C F0:Nat):Code:=.compLoop (asgE (nthS (whB (nthS (fnBody (KF (pr w r)) 344) 2)) 1)) 0 (.ref (I+355)) (.ref (A+355)) { scope:=compSc (asgE (nthS (whB (nthS (fnBody (KF (pr w r)) 344) 2)) 1)),locals:=L5+355,globals:=3,cells:=[((⟨#[116,97,98,108,101]⟩:Str),C+355)],qual:=(⟨#[95,108,97,119,95,98,121,95,116,117,114,110,115,46,60,108,111,99,97,108,115,62,46]⟩:Str),func:=none,code:=.ref 343,frame:=some (F0+355),builtins:=0 }
noncomputable abbrev ncCode (w:World) (r:Rows) (L5 A I F0:Nat):Code:=.compLoop (asgE (nthS (whB (nthS (fnBody (KF (pr w r)) 344) 2)) 2)) 0 (.ref (I+355)) (.ref (A+355)) { scope:=compSc (asgE (nthS (whB (nthS (fnBody (KF (pr w r)) 344) 2)) 2)),locals:=L5+355,globals:=3,cells:=[],qual:=(⟨#[95,108,97,119,95,98,121,95,116,117,114,110,115,46,60,108,111,99,97,108,115,62,46]⟩:Str),func:=none,code:=.ref 343,frame:=some (F0+355),builtins:=0 }
inductive Moves:List Ent→List Str→List Ent→List Str→Prop
 | nil (es:List Ent):Moves es [] es []
 | stay (es es':List Ent) (p:Str) (ps ms:List Str):Let p→hits p es = []→Moves es ps es' ms→Moves es (p :: ps) es' (sE :: ms)
 | go (es es' news:List Ent) (p y:Str) (ty:Tok) (rest:List Value) (ps ms:List Str):Let p→hits p es = .str y ty :: rest→News p (rest++[.str y ty]) news→Moves (keepE p es++news) ps es' ms→Moves es (p :: ps) es' (y :: ms)
structure McV where
 es:List Ent
 news:List Ent
 mv:List Value
 fh:Int
 fu:Tok
 fv:Value
 i:Nat
 ae:Nat
 e:Nat
 n:Nat
 t:Nat
noncomputable def SLet (v:Value):Prop:=∃ y ty,v = .str y ty∧(y = sE∨Let y)
noncomputable def McOut (es:List Ent) (qs:List Str) (N:Nat) (v:McV):Prop:=N≤v.n∧Moves es qs v.es (v.mv.map sOf)∧(∀ x∈v.es,x∈es∨x∈v.news)∧(∀ x∈v.mv,SLet x)
theorem moves_keep {es es':List Ent} {ps ms:List Str} (h:Moves es ps es' ms):(∀ x∈es,Dwn x)→es'.length = es.length∧(∀ x∈es',Dwn x)∧ms.length = ps.length:=by
 induction h with
 | nil => exact fun h=>⟨rfl,h,rfl⟩
 | stay es es' p ps ms hl hh hm ih => intro hg; obtain ⟨a,b,c⟩:=ih hg; exact ⟨a,b,by simp [c]⟩
 | go es es' news p y ty rest ps ms hl hh hn hm ih =>
  intro hg
  obtain ⟨a,b,_⟩:=step_dwn hg hh hn
  obtain ⟨c,d,e⟩:=ih b
  exact ⟨by omega,d,by simp [e]⟩
noncomputable abbrev A_10 (w:World) (r:Rows) (es:List Ent) (H:Nat) (acc:List Value) (g:Array GenState) (d:Drawn) (os:OsState) (D U L5 A I C F0 P i:Nat) (ps:List Value) (lp T dT:Nat) (k1:Int) (s1:Tok):Prop:=∀ {B':Heap→Prop},Mono B'→(∀ h,B' h→(KF (pr w r)).In h)→∀ (es1:List Ent) (acc1:List Value) (ae1:Nat) (hz1:Int) (tz1:Tok) (v01:Value) (e1 N1 t1:Nat),es1.length = es.length→(∀ x∈es1,Dwn x)→(∀ h,B' h→PairsIn es1 h)→H < N1→acc1.length≤acc.length+1→CutOk (XX w r g d os) B' D U (mcCode w r L5 A I C F0) none [(L5+355,dictO [dE hz1 (⟨#[112,108,97,99,101]⟩:Str) tz1 v01] 1),(A+355,listO acc1 ae1),(I+355,iterO (P+355) (i+1)),(H+355,listO (es1.map Ent.v) e1)] [(P+355,listO ps lp),(C+355,cellO (.ref (T+355))),(T+355,hdrO dT),(dT+355,hdrD k1 s1 H)] (N1+355) t1 ({v:McV // McOut es1 ((ps.drop (i+1)).map sOf) N1 v}) (fun _=>.ok .next) (fun _=>[]) (fun v=>[dictO [dE v.1.fh (⟨#[112,108,97,99,101]⟩:Str) v.1.fu v.1.fv] 1,listO (acc1++v.1.mv) v.1.ae,iterE v.1.i,listO (v.1.es.map Ent.v) v.1.e]) (fun v=>v.1.n+355) (fun v=>v.1.t) (fun v=>(v.1.news.map Ent.pair).reverse)
noncomputable abbrev A_25 (P:Nat) (ps:List Value) (lp C T dT:Nat) (k1:Int) (s1:Tok) (H:Nat):List (Addr × Obj):=[(P+355,listO ps lp),(C+355,cellO (.ref (T+355))),(T+355,hdrO dT),(dT+355,hdrD k1 s1 H)]
variable {L5 A I C F0 T dT H P e lp ae i N t:Nat} {k1:Int} {s1:Tok} {p:Str} {tp:Tok} {es:List Ent} {ps acc:List Value}
include MB hB in
theorem mc_nil0 (hD:Lim D U 110) (hes:0 < es.length∧es.length≤400) (hg:∀ x∈es,Dwn x) (hpr:∀ h,B h→PairsIn es h) (hH:H < N) (ha:acc.length≤900) (hl:Let p) (hi:ps[i]? = some (.str p tp)) (hd:ps.drop i = .str p tp :: ps.drop (i+1)) (hn:hits p es = []) (IH:A_10 w r es H acc g d os D U L5 A I C F0 P i ps lp T dT k1 s1) :
  CutOk (XX w r g d os) B D U (mcCode w r L5 A I C F0) none [(L5+355,dictO [] 0),(A+355,listO acc ae),(I+355,iterO (P+355) i),(H+355,listO (es.map Ent.v) e)] (A_25 P ps lp C T dT k1 s1 H) (N+355) (t) ({v:McV // McOut es ((ps.drop i).map sOf) N v}) (fun v=>.ok .next) (fun v=>[]) (fun v=>[dictO [dE v.1.fh (⟨#[112,108,97,99,101]⟩:Str) v.1.fu v.1.fv] 1,listO (acc++v.1.mv) v.1.ae,iterE v.1.i,listO (v.1.es.map Ent.v) v.1.e]) (fun v=>v.1.n+355) (fun v=>v.1.t) (fun v=>(v.1.news.map Ent.pair).reverse):=by
 refine .of_q MB hB hD.lo 15 0 ?_
 k_data
 let P₀:Rows→Pk (XX w r g d os) B D U S₀ []:=fun x₀=>(.a [5,1,5] [I+355,I+355] 4 0 0 0 [] [0] (next_some (hd:=none) (I:=I+355) (H:=P+355) (i:=i) (e:=lp) (n:=N+355) (t:=t) (vs:=ps) (v:=.str p tp) hi) fun _=>(.a (d6 6 0x14011) (ixL [L5+355,C+355] [0,1,0,0]) 8 0 0 0 [] [4,6] (step_nil (T:=T) (dT:=dT) (H:=H) (e:=e) (N:=N) (t:=t+1) (k1:=k1) (s1:=s1) (tp:=tp) (p:=p) (es:=es) MB1 hB1 hD.up hl hes (fun x h=>dwn_good (hg x h)) (fun h b=>hpr h b.1) (by omega) hn) fun v1=>(.a [1,3] [A+355] 2 0 0 0 [] [] (append_ok (hd:=none) (H:=A+355) (e:=ae) (n:=v1.1.n+355) (t:=v1.1.t+1) (vs:=acc) (x:=.str ⟨#[]⟩ v1.1.t) (by omega)) fun _=>(.a [] [] 15 0 0 0 [] [0,2,4,6] (IH (acc1:=acc++[Value.str ⟨#[]⟩ v1.1.t]) (ae1:=ae+1) (hz1:=kh w r ⟨#[112,108,97,99,101]⟩) (tz1:=t) (v01:=.str p tp) (e1:=e) (N1:=v1.1.n) (t1:=v1.1.t+1) MB1 hB1 es rfl hg (fun h b=>hpr h b.1) (by have:=v1.2; omega) (by simp)) fun v3=>(.h (r':=(.ok .next)) (l':=[((L5+355),dictO [dE v3.1.fh ⟨#[112,108,97,99,101]⟩ v3.1.fu v3.1.fv] 1),((A+355),listO (acc++[Value.str ⟨#[]⟩ v1.1.t]++v3.1.mv) v3.1.ae),((I+355),iterE v3.1.i),((H+355),listO (List.map Ent.v v3.1.es) v3.1.e)]) (m':=(v3.1.n+355)) (k':=v3.1.t) (z':=([]++((List.map Ent.pair v3.1.news).reverse++[]))) ⟨⟨⟨v3.1.es,v3.1.news,.str ⟨#[]⟩ v1.1.t :: v3.1.mv,v3.1.fh,v3.1.fu,v3.1.fv,v3.1.i,v3.1.ae,v3.1.e,v3.1.n,v3.1.t⟩,by have h1:=v1.2; have h2:=v3.2.1; show N≤v3.1.n; omega,by rw [hd]; exact .stay es v3.1.es p _ _ hl hn v3.2.2.1,v3.2.2.2.1,fun x h=>by rcases List.mem_cons.mp h with rfl | h; exact ⟨sE,_,rfl,.inl rfl⟩; exact v3.2.2.2.2 x h⟩,rfl,(by simp [S₀,setO]),rfl,rfl,(by simp [S₀])⟩)))))
 exact ⟨P₀,by intro x; kernel_rfl⟩
variable {y:Str} {ty:Tok} {rest:List Value}
include MB hB in
theorem mc_cons0 (hD:Lim D U 110) (hes:0 < es.length∧es.length≤400) (hg:∀ x∈es,Dwn x) (hpr:∀ h,B h→PairsIn es h) (hH:H < N) (ha:acc.length≤900) (hl:Let p) (hl2:Let y) (hi:ps[i]? = some (.str p tp)) (hd:ps.drop i = .str p tp :: ps.drop (i+1)) (hn:hits p es = .str y ty :: rest) (IH:A_10 w r es H acc g d os D U L5 A I C F0 P i ps lp T dT k1 s1) :
  CutOk (XX w r g d os) B D U (mcCode w r L5 A I C F0) none [(L5+355,dictO [] 0),(A+355,listO acc ae),(I+355,iterO (P+355) i),(H+355,listO (es.map Ent.v) e)] (A_25 P ps lp C T dT k1 s1 H) (N+355) (t) ({v:McV // McOut es ((ps.drop i).map sOf) N v}) (fun v=>.ok .next) (fun v=>[]) (fun v=>[dictO [dE v.1.fh (⟨#[112,108,97,99,101]⟩:Str) v.1.fu v.1.fv] 1,listO (acc++v.1.mv) v.1.ae,iterE v.1.i,listO (v.1.es.map Ent.v) v.1.e]) (fun v=>v.1.n+355) (fun v=>v.1.t) (fun v=>(v.1.news.map Ent.pair).reverse):=by
 refine .of_q MB hB hD.lo 15 0 ?_
 k_data
 let P₀:Rows→Pk (XX w r g d os) B D U S₀ []:=fun x₀=>(.a [5,1,5] [I+355,I+355] 4 0 0 0 [] [0] (next_some (hd:=none) (I:=I+355) (H:=P+355) (i:=i) (e:=lp) (n:=N+355) (t:=t) (vs:=ps) (v:=.str p tp) hi) fun _=>(.a (d6 6 0x14011) (ixL [L5+355,C+355] [0,1,0,0]) 8 0 0 0 [] [4,6] (step_cons (T:=T) (dT:=dT) (H:=H) (e:=e) (N:=N) (t:=t+1) (k1:=k1) (s1:=s1) (tp:=tp) (ty:=ty) (p:=p) (y:=y) (es:=es) (rest:=rest) MB1 hB1 hD.up hl hes (fun x h=>dwn_good (hg x h)) (fun h b=>hpr h b.1) (by omega) hn) fun v1=>(.a [1,3] [A+355] 2 0 0 0 [] [] (append_ok (hd:=none) (H:=A+355) (e:=ae) (n:=v1.1.n+355) (t:=v1.1.t) (vs:=acc) (x:=.str y ty) (by omega)) fun _=>(.i [] [] 15 0 0 0 [] [0,2,4,6] (IH (es1:=keepE p es++v1.1.news) (acc1:=acc++[Value.str y ty]) (ae1:=ae+1) (hz1:=kh w r ⟨#[112,108,97,99,101]⟩) (tz1:=t) (v01:=.str p tp) (e1:=v1.1.e) (N1:=v1.1.n) (t1:=v1.1.t) (MB1.bi _) (fun h b=>hB1 h b.1) (step_dwn hg hn v1.2.2).1 (step_dwn hg hn v1.2.2).2.1 (fun h b=>pairs_step (B:=B) (hpr h b.1.1) b.2 (fun x hx=>by simp; exact ⟨x,hx,rfl⟩) (step_dwn hg hn v1.2.2).2.2) (by have:=v1.2.1; omega) (by simp)) fun v3=>(.h (r':=(.ok .next)) (l':=[((L5+355),dictO [dE v3.1.fh ⟨#[112,108,97,99,101]⟩ v3.1.fu v3.1.fv] 1),((A+355),listO (acc++[Value.str y ty]++v3.1.mv) v3.1.ae),((I+355),iterE v3.1.i),((H+355),listO (List.map Ent.v v3.1.es) v3.1.e)]) (m':=(v3.1.n+355)) (k':=v3.1.t) (z':=([]++((List.map Ent.pair v3.1.news).reverse++((List.map Ent.pair v1.1.news).reverse++[])))) ⟨⟨⟨v3.1.es,v1.1.news++v3.1.news,.str y ty :: v3.1.mv,v3.1.fh,v3.1.fu,v3.1.fv,v3.1.i,v3.1.ae,v3.1.e,v3.1.n,v3.1.t⟩,by have h1:=v1.2.1; have h2:=v3.2.1; show N≤v3.1.n; omega,by rw [hd]; exact .go es v3.1.es v1.1.news p y ty rest _ _ hl hn v1.2.2 v3.2.2.1,fun x h=>by rcases v3.2.2.2.1 x h with h | h; rcases (step_dwn hg hn v1.2.2).2.2 x h with h | h; exact .inl h; exact .inr (List.mem_append_left _ h); exact .inr (List.mem_append_right _ h),fun x h=>by rcases List.mem_cons.mp h with rfl | h; exact ⟨y,ty,rfl,.inr hl2⟩; exact v3.2.2.2.2 x h⟩,rfl,(by simp [S₀,setO]),rfl,rfl,(by simp [S₀])⟩)))))
 exact ⟨P₀,by intro x; kernel_rfl⟩
noncomputable abbrev A_33 (L5:Nat) (hz:Int) (tz:Tok) (v0:Value):Addr × Obj:=(L5+355,dictO [dE hz (⟨#[112,108,97,99,101]⟩:Str) tz v0] 1)
variable {hz:Int} {tz:Tok} {v0:Value}
include MB hB in
theorem mc_nil1 (hD:Lim D U 110) (hes:0 < es.length∧es.length≤400) (hg:∀ x∈es,Dwn x) (hpr:∀ h,B h→PairsIn es h) (hH:H < N) (ha:acc.length≤900) (hl:Let p) (hi:ps[i]? = some (.str p tp)) (hd:ps.drop i = .str p tp :: ps.drop (i+1)) (hn:hits p es = []) (IH:A_10 w r es H acc g d os D U L5 A I C F0 P i ps lp T dT k1 s1) :
  CutOk (XX w r g d os) B D U (mcCode w r L5 A I C F0) none [(A_33 L5 hz tz v0),(A+355,listO acc ae),(I+355,iterO (P+355) i),(H+355,listO (es.map Ent.v) e)] (A_25 P ps lp C T dT k1 s1 H) (N+355) (t) ({v:McV // McOut es ((ps.drop i).map sOf) N v}) (fun v=>.ok .next) (fun v=>[]) (fun v=>[dictO [dE v.1.fh (⟨#[112,108,97,99,101]⟩:Str) v.1.fu v.1.fv] 1,listO (acc++v.1.mv) v.1.ae,iterE v.1.i,listO (v.1.es.map Ent.v) v.1.e]) (fun v=>v.1.n+355) (fun v=>v.1.t) (fun v=>(v.1.news.map Ent.pair).reverse):=by
 refine .of_q MB hB hD.lo 15 0 ?_
 k_data
 let P₀:Rows→Pk (XX w r g d os) B D U S₀ []:=fun x₀=>(.a [5,1,5] [I+355,I+355] 4 0 0 0 [] [0] (next_some (hd:=none) (I:=I+355) (H:=P+355) (i:=i) (e:=lp) (n:=N+355) (t:=t) (vs:=ps) (v:=.str p tp) hi) fun _=>(.a (d6 6 0x14011) (ixL [L5+355,C+355] [0,1,0,0]) 8 0 0 0 [] [4,6] (step_nil (T:=T) (dT:=dT) (H:=H) (e:=e) (N:=N) (t:=t+1) (k1:=k1) (s1:=s1) (tp:=tp) (p:=p) (es:=es) MB1 hB1 hD.up hl hes (fun x h=>dwn_good (hg x h)) (fun h b=>hpr h b.1) (by omega) hn) fun v1=>(.a [1,3] [A+355] 2 0 0 0 [] [] (append_ok (hd:=none) (H:=A+355) (e:=ae) (n:=v1.1.n+355) (t:=v1.1.t+1) (vs:=acc) (x:=.str ⟨#[]⟩ v1.1.t) (by omega)) fun _=>(.a [] [] 15 0 0 0 [] [0,2,4,6] (IH (acc1:=acc++[Value.str ⟨#[]⟩ v1.1.t]) (ae1:=ae+1) (hz1:=hz) (tz1:=tz) (v01:=.str p tp) (e1:=e) (N1:=v1.1.n) (t1:=v1.1.t+1) MB1 hB1 es rfl hg (fun h b=>hpr h b.1) (by have:=v1.2; omega) (by simp)) fun v3=>(.h (r':=(.ok .next)) (l':=[((L5+355),dictO [dE v3.1.fh ⟨#[112,108,97,99,101]⟩ v3.1.fu v3.1.fv] 1),((A+355),listO (acc++[Value.str ⟨#[]⟩ v1.1.t]++v3.1.mv) v3.1.ae),((I+355),iterE v3.1.i),((H+355),listO (List.map Ent.v v3.1.es) v3.1.e)]) (m':=(v3.1.n+355)) (k':=v3.1.t) (z':=([]++((List.map Ent.pair v3.1.news).reverse++[]))) ⟨⟨⟨v3.1.es,v3.1.news,.str ⟨#[]⟩ v1.1.t :: v3.1.mv,v3.1.fh,v3.1.fu,v3.1.fv,v3.1.i,v3.1.ae,v3.1.e,v3.1.n,v3.1.t⟩,by have h1:=v1.2; have h2:=v3.2.1; show N≤v3.1.n; omega,by rw [hd]; exact .stay es v3.1.es p _ _ hl hn v3.2.2.1,v3.2.2.2.1,fun x h=>by rcases List.mem_cons.mp h with rfl | h; exact ⟨sE,_,rfl,.inl rfl⟩; exact v3.2.2.2.2 x h⟩,rfl,(by simp [S₀,setO]),rfl,rfl,(by simp [S₀])⟩)))))
 exact ⟨P₀,by intro x; kernel_rfl⟩
include MB hB in
theorem mc_cons1 (hD:Lim D U 110) (hes:0 < es.length∧es.length≤400) (hg:∀ x∈es,Dwn x) (hpr:∀ h,B h→PairsIn es h) (hH:H < N) (ha:acc.length≤900) (hl:Let p) (hl2:Let y) (hi:ps[i]? = some (.str p tp)) (hd:ps.drop i = .str p tp :: ps.drop (i+1)) (hn:hits p es = .str y ty :: rest) (IH:A_10 w r es H acc g d os D U L5 A I C F0 P i ps lp T dT k1 s1) :
  CutOk (XX w r g d os) B D U (mcCode w r L5 A I C F0) none [(A_33 L5 hz tz v0),(A+355,listO acc ae),(I+355,iterO (P+355) i),(H+355,listO (es.map Ent.v) e)] (A_25 P ps lp C T dT k1 s1 H) (N+355) (t) ({v:McV // McOut es ((ps.drop i).map sOf) N v}) (fun v=>.ok .next) (fun v=>[]) (fun v=>[dictO [dE v.1.fh (⟨#[112,108,97,99,101]⟩:Str) v.1.fu v.1.fv] 1,listO (acc++v.1.mv) v.1.ae,iterE v.1.i,listO (v.1.es.map Ent.v) v.1.e]) (fun v=>v.1.n+355) (fun v=>v.1.t) (fun v=>(v.1.news.map Ent.pair).reverse):=by
 refine .of_q MB hB hD.lo 15 0 ?_
 k_data
 let P₀:Rows→Pk (XX w r g d os) B D U S₀ []:=fun x₀=>(.a [5,1,5] [I+355,I+355] 4 0 0 0 [] [0] (next_some (hd:=none) (I:=I+355) (H:=P+355) (i:=i) (e:=lp) (n:=N+355) (t:=t) (vs:=ps) (v:=.str p tp) hi) fun _=>(.a (d6 6 0x14011) (ixL [L5+355,C+355] [0,1,0,0]) 8 0 0 0 [] [4,6] (step_cons (T:=T) (dT:=dT) (H:=H) (e:=e) (N:=N) (t:=t+1) (k1:=k1) (s1:=s1) (tp:=tp) (ty:=ty) (p:=p) (y:=y) (es:=es) (rest:=rest) MB1 hB1 hD.up hl hes (fun x h=>dwn_good (hg x h)) (fun h b=>hpr h b.1) (by omega) hn) fun v1=>(.a [1,3] [A+355] 2 0 0 0 [] [] (append_ok (hd:=none) (H:=A+355) (e:=ae) (n:=v1.1.n+355) (t:=v1.1.t) (vs:=acc) (x:=.str y ty) (by omega)) fun _=>(.i [] [] 15 0 0 0 [] [0,2,4,6] (IH (es1:=keepE p es++v1.1.news) (acc1:=acc++[Value.str y ty]) (ae1:=ae+1) (hz1:=hz) (tz1:=tz) (v01:=.str p tp) (e1:=v1.1.e) (N1:=v1.1.n) (t1:=v1.1.t) (MB1.bi _) (fun h b=>hB1 h b.1) (step_dwn hg hn v1.2.2).1 (step_dwn hg hn v1.2.2).2.1 (fun h b=>pairs_step (B:=B) (hpr h b.1.1) b.2 (fun x hx=>by simp; exact ⟨x,hx,rfl⟩) (step_dwn hg hn v1.2.2).2.2) (by have:=v1.2.1; omega) (by simp)) fun v3=>(.h (r':=(.ok .next)) (l':=[((L5+355),dictO [dE v3.1.fh ⟨#[112,108,97,99,101]⟩ v3.1.fu v3.1.fv] 1),((A+355),listO (acc++[Value.str y ty]++v3.1.mv) v3.1.ae),((I+355),iterE v3.1.i),((H+355),listO (List.map Ent.v v3.1.es) v3.1.e)]) (m':=(v3.1.n+355)) (k':=v3.1.t) (z':=([]++((List.map Ent.pair v3.1.news).reverse++((List.map Ent.pair v1.1.news).reverse++[])))) ⟨⟨⟨v3.1.es,v1.1.news++v3.1.news,.str y ty :: v3.1.mv,v3.1.fh,v3.1.fu,v3.1.fv,v3.1.i,v3.1.ae,v3.1.e,v3.1.n,v3.1.t⟩,by have h1:=v1.2.1; have h2:=v3.2.1; show N≤v3.1.n; omega,by rw [hd]; exact .go es v3.1.es v1.1.news p y ty rest _ _ hl hn v1.2.2 v3.2.2.1,fun x h=>by rcases v3.2.2.2.1 x h with h | h; rcases (step_dwn hg hn v1.2.2).2.2 x h with h | h; exact .inl h; exact .inr (List.mem_append_left _ h); exact .inr (List.mem_append_right _ h),fun x h=>by rcases List.mem_cons.mp h with rfl | h; exact ⟨y,ty,rfl,.inr hl2⟩; exact v3.2.2.2.2 x h⟩,rfl,(by simp [S₀,setO]),rfl,rfl,(by simp [S₀])⟩)))))
 exact ⟨P₀,by intro x; kernel_rfl⟩
include MB hB in
theorem mc_end (hD:Lim D U 110) (hi:ps[i]? = none) :
  CutOk (XX w r g d os) B D U (mcCode w r L5 A I C F0) none [(A_33 L5 hz tz v0),(A+355,listO acc ae),(I+355,iterO (P+355) i),(H+355,listO (es.map Ent.v) e)] [(P+355,listO ps lp)] (N+355) (t) ({v:McV // McOut es ((ps.drop i).map sOf) N v}) (fun v=>.ok .next) (fun v=>[]) (fun v=>[dictO [dE v.1.fh (⟨#[112,108,97,99,101]⟩:Str) v.1.fu v.1.fv] 1,listO (acc++v.1.mv) v.1.ae,iterE v.1.i,listO (v.1.es.map Ent.v) v.1.e]) (fun v=>v.1.n+355) (fun v=>v.1.t) (fun v=>(v.1.news.map Ent.pair).reverse):=by
 refine .of_q MB hB hD.lo 60 0 ?_
 intro S₀
 let P₀:Rows→Pk (XX w r g d os) B D U S₀ []:=fun x₀=>(.a [5,1,5] [I+355,I+355] 4 0 0 0 [] [0] (next_none (I:=I+355) (H:=P+355) (i:=i) (e:=lp) (n:=N+355) (t:=t) (vs:=ps) hi) fun _=>(.k [1] [N+356] (r':=(.ok .next)) (l':=[((L5+355),dictO [dE hz ⟨#[112,108,97,99,101]⟩ tz v0] 1),((A+355),listO acc ae),((I+355),iterE i),((H+355),listO (List.map Ent.v es) e)]) (m':=(N+357)) (k':=t) (z':=[]) ⟨⟨⟨es,[],[],hz,tz,v0,i,ae,e,N+2,t⟩,by show N≤N+2; omega,by rw [List.drop_of_length_le (by simpa using hi)]; exact .nil es,fun x h=>.inl h,fun x h=>nomatch h⟩,rfl,(by simp [S₀,setO]),rfl,rfl,rfl⟩))
 exact ⟨P₀,by intro x; kernel_rfl⟩
section
variable {w:World} {r:Rows} {g:Array GenState} {d:Drawn} {os:OsState} {D U:Nat}
theorem mc_loop1 (hD:Lim D U 110) {L5 A I C F0 T dT H P lp:Nat} {k1:Int} {s1:Tok} {ps:List Value} (hps:∀ v∈ps,∃ q tq,v = .str q tq∧Let q):∀ (m i:Nat),ps.length = i + m→∀ {B:Heap→Prop},Mono B→(∀ h,B h→(KF (pr w r)).In h)→∀ (es:List Ent) (acc:List Value) (ae:Nat) (hz:Int) (tz:Tok) (v0:Value) (e N t:Nat),
  (0 < es.length∧es.length≤400)→(∀ x∈es,Dwn x)→(∀ h,B h→PairsIn es h)→H < N→acc.length + m≤900 →
  CutOk (XX w r g d os) B D U (mcCode w r L5 A I C F0) none [(A_33 L5 hz tz v0),(A+355,listO acc ae),(I+355,iterO (P+355) i),(H+355,listO (es.map Ent.v) e)] (A_25 P ps lp C T dT k1 s1 H) (N+355) t ({v:McV // McOut es ((ps.drop i).map sOf) N v}) (fun _=>.ok .next) (fun _=>[]) (fun v=>[dictO [dE v.1.fh (⟨#[112,108,97,99,101]⟩:Str) v.1.fu v.1.fv] 1,listO (acc++v.1.mv) v.1.ae,iterE v.1.i,listO (v.1.es.map Ent.v) v.1.e]) (fun v=>v.1.n+355) (fun v=>v.1.t) (fun v=>(v.1.news.map Ent.pair).reverse):=by
 intro m
 induction m with
 | zero =>
  intro i hi B MB hB es acc ae hz tz v0 e N t hes hg hpr hH ha
  exact CutOk.wk (fun h b i=>⟨b,.cons (i.nth 0 rfl) .nil⟩) (mc_end MB hB hD (by simp; omega))
 | succ m ih =>
  intro i hi B MB hB es acc ae hz tz v0 e N t hes hg hpr hH ha
  obtain ⟨x,hx,hm,hd⟩:=getV hi
  obtain ⟨q,tq,rfl,hq⟩:=hps x hm
  have IH:=fun {B':Heap→Prop} (MB':Mono B') (hB':∀ h,B' h→(KF (pr w r)).In h) (es1:List Ent) (acc1:List Value) (ae1:Nat) (hz1:Int) (tz1:Tok) (v01:Value) (e1 N1 t1:Nat) (hl1:es1.length = es.length) (hg1:∀ x∈es1,Dwn x) (hp1:∀ h,B' h→PairsIn es1 h) (hH1:H < N1) (ha1:acc1.length≤acc.length+1) => ih (i+1) (by omega) MB' hB' es1 acc1 ae1 hz1 tz1 v01 e1 N1 t1 (by omega) hg1 hp1 hH1 (by omega)
  cases hh:hits q es with
  | nil => exact mc_nil1 MB hB hD hes hg hpr hH (by omega) hq hx hd hh IH
  | cons v rest =>
   obtain ⟨y,ty,rfl,hy,hr,hb⟩:=hit_str hg hh
   exact mc_cons1 MB hB hD hes hg hpr hH (by omega) hq hy hx hd hh IH
theorem mc_loop0 (hD:Lim D U 110) {L5 A I C F0 T dT H P lp:Nat} {k1:Int} {s1:Tok} {ps:List Value} (hps:∀ v∈ps,∃ q tq,v = .str q tq∧Let q) (h0:0 < ps.length) {B:Heap→Prop} (MB:Mono B) (hB:∀ h,B h→(KF (pr w r)).In h) {es:List Ent} {e N t:Nat}
  (hes:0 < es.length∧es.length≤400) (hg:∀ x∈es,Dwn x) (hpr:∀ h,B h→PairsIn es h) (hH:H < N) (ha:ps.length≤900) :
  CutOk (XX w r g d os) B D U (mcCode w r L5 A I C F0) none [(L5+355,dictO [] 0),(A+355,listO [] 0),(I+355,iterO (P+355) 0),(H+355,listO (es.map Ent.v) e)] (A_25 P ps lp C T dT k1 s1 H) (N+355) t ({v:McV // McOut es ((ps.drop 0).map sOf) N v}) (fun _=>.ok .next) (fun _=>[]) (fun v=>[dictO [dE v.1.fh (⟨#[112,108,97,99,101]⟩:Str) v.1.fu v.1.fv] 1,listO (v.1.mv) v.1.ae,iterE v.1.i,listO (v.1.es.map Ent.v) v.1.e]) (fun v=>v.1.n+355) (fun v=>v.1.t) (fun v=>(v.1.news.map Ent.pair).reverse):=by
 obtain ⟨x,hx,hm,hd⟩:=getV (ls:=ps) (i:=0) (m:=ps.length - 1) (by omega)
 obtain ⟨q,tq,rfl,hq⟩:=hps x hm
 have IH:=fun {B':Heap→Prop} (MB':Mono B') (hB':∀ h,B' h→(KF (pr w r)).In h) (es1:List Ent) (acc1:List Value) (ae1:Nat) (hz1:Int) (tz1:Tok) (v01:Value) (e1 N1 t1:Nat) (hl1:es1.length = es.length) (hg1:∀ x∈es1,Dwn x) (hp1:∀ h,B' h→PairsIn es1 h) (hH1:H < N1) (ha1:acc1.length≤([]:List Value).length+1) => mc_loop1 (g:=g) (d:=d) (os:=os) hD (L5:=L5) (A:=A) (I:=I) (C:=C) (F0:=F0) (T:=T) (dT:=dT) (P:=P) (lp:=lp) (k1:=k1) (s1:=s1) hps (ps.length - 1) (0 + 1) (by omega) MB' hB' es1 acc1 ae1 hz1 tz1 v01 e1 N1 t1 (by omega) hg1 hp1 hH1 (by simp at ha1; omega)
 have key:CutOk (XX w r g d os) B D U (mcCode w r L5 A I C F0) none [(L5+355,dictO [] 0),(A+355,listO [] 0),(I+355,iterO (P+355) 0),(H+355,listO (es.map Ent.v) e)] (A_25 P ps lp C T dT k1 s1 H) (N+355) t ({v:McV // McOut es ((ps.drop 0).map sOf) N v}) (fun _=>.ok .next) (fun _=>[]) (fun v=>[dictO [dE v.1.fh (⟨#[112,108,97,99,101]⟩:Str) v.1.fu v.1.fv] 1,listO ([]++v.1.mv) v.1.ae,iterE v.1.i,listO (v.1.es.map Ent.v) v.1.e]) (fun v=>v.1.n+355) (fun v=>v.1.t) (fun v=>(v.1.news.map Ent.pair).reverse):=by
  cases hh:hits q es with
  | nil => exact mc_nil0 (i:=0) MB hB hD hes hg hpr hH (by simp) hq hx hd hh IH
  | cons v rest =>
   obtain ⟨y,ty,rfl,hy,hr,hb⟩:=hit_str hg hh
   exact mc_cons0 (i:=0) MB hB hD hes hg hpr hH (by simp) hq hy hx hd hh IH
 simpa using key
end
end
section
variable {ty tz:Tok} {n t:Nat}
include MB hB in
theorem sne_a (hD:Lim D U 50)  :
  CutOk (XX w r g d os) B D U (.builtin "str.__ne__" ⟨[(.str (⟨#[97]⟩:Str) ty),(.str (⟨#[]⟩:Str) tz)],[]⟩) none [] [] (n) (t) (Unit) (fun v=>.ok (.ret (.bool true))) (fun v=>[]) (fun v=>[]) (fun v=>n) (fun v=>t) (fun v=>[]):=by
 refine .of_q MB hB hD.lo 0 0 ?_
 intro S₀
 let P₀:Rows→Pk (XX w r g d os) B D U S₀ []:=fun x₀=>(.f [] [] ())
 exact ⟨P₀,by intro x; kernel_rfl⟩
include MB hB in
theorem sne_b (hD:Lim D U 50)  :
  CutOk (XX w r g d os) B D U (.builtin "str.__ne__" ⟨[(.str (⟨#[98]⟩:Str) ty),(.str (⟨#[]⟩:Str) tz)],[]⟩) none [] [] (n) (t) (Unit) (fun v=>.ok (.ret (.bool true))) (fun v=>[]) (fun v=>[]) (fun v=>n) (fun v=>t) (fun v=>[]):=by
 refine .of_q MB hB hD.lo 0 0 ?_
 intro S₀
 let P₀:Rows→Pk (XX w r g d os) B D U S₀ []:=fun x₀=>(.f [] [] ())
 exact ⟨P₀,by intro x; kernel_rfl⟩
include MB hB in
theorem sne_c (hD:Lim D U 50)  :
  CutOk (XX w r g d os) B D U (.builtin "str.__ne__" ⟨[(.str (⟨#[99]⟩:Str) ty),(.str (⟨#[]⟩:Str) tz)],[]⟩) none [] [] (n) (t) (Unit) (fun v=>.ok (.ret (.bool true))) (fun v=>[]) (fun v=>[]) (fun v=>n) (fun v=>t) (fun v=>[]):=by
 refine .of_q MB hB hD.lo 0 0 ?_
 intro S₀
 let P₀:Rows→Pk (XX w r g d os) B D U S₀ []:=fun x₀=>(.f [] [] ())
 exact ⟨P₀,by intro x; kernel_rfl⟩
include MB hB in
theorem sne_d (hD:Lim D U 50)  :
  CutOk (XX w r g d os) B D U (.builtin "str.__ne__" ⟨[(.str (⟨#[100]⟩:Str) ty),(.str (⟨#[]⟩:Str) tz)],[]⟩) none [] [] (n) (t) (Unit) (fun v=>.ok (.ret (.bool true))) (fun v=>[]) (fun v=>[]) (fun v=>n) (fun v=>t) (fun v=>[]):=by
 refine .of_q MB hB hD.lo 0 0 ?_
 intro S₀
 let P₀:Rows→Pk (XX w r g d os) B D U S₀ []:=fun x₀=>(.f [] [] ())
 exact ⟨P₀,by intro x; kernel_rfl⟩
include MB hB in
theorem sne_ok (hD:Lim D U 50) {p:Str} (hp:Let p) {tk tz:Tok} {n t:Nat} :
  CutOk (XX w r g d os) B D U (.builtin "str.__ne__" ⟨[.str p tk,.str ⟨#[]⟩ tz],[]⟩) none [] [] n t Unit (fun _=>.ok (.ret (.bool true))) (fun _=>[]) (fun _=>[]) (fun _=>n) (fun _=>t) (fun _=>[]):=by
 rcases hp with rfl | rfl | rfl | rfl
 ·exact sne_a MB hB hD
 ·exact sne_b MB hB hD
 ·exact sne_c MB hB hD
 ·exact sne_d MB hB hD
theorem let_sE {p:Str} (h:Let p):p≠sE:=by
 rcases h with rfl | rfl | rfl | rfl <;> decide
noncomputable def keepS (l:List Value):List Value:=l.filter fun v=>decide (sOf v≠sE)
noncomputable abbrev A_15 (N0:Nat) (ms:List Value) (i:Nat) (res acc:List Value) (w:World) (r:Rows) (g:Array GenState) (d:Drawn) (os:OsState) (B:Heap→Prop) (D U L5 A I F0 M lm:Nat):Prop:=∀ (acc1:List Value) (ae1:Nat) (hz1:Int) (tz1:Tok) (v01:Value) (N1 t1:Nat),N0≤N1→acc1++keepS (ms.drop (i+1)) = res→acc1.length≤acc.length+1→CutOk (XX w r g d os) B D U (ncCode w r L5 A I F0) none [(L5+355,dictO [dE hz1 (⟨#[112,108,97,99,101]⟩:Str) tz1 v01] 1),(A+355,listO acc1 ae1),(I+355,iterO (M+355) (i+1))] [(M+355,listO ms lm)] (N1+355) t1 ({v:GaW // N0≤v.n}) (fun _=>.ok .next) (fun _=>[]) (fun v=>[dictO [dE v.1.h (⟨#[112,108,97,99,101]⟩:Str) v.1.z v.1.v] 1,listO res v.1.e,iterE v.1.i]) (fun v=>v.1.n+355) (fun v=>v.1.t) (fun _=>[])
variable {L5 A I F0 M lm ae i N N0:Nat} {p:Str} {tp:Tok} {ms acc res:List Value}
include MB hB in
theorem nc_t0 (hD:Lim D U 60) (hN:N0≤N) (ha:acc.length≤900) (hl:Let p) (hi:ms[i]? = some (.str p tp)) (hd:ms.drop i = .str p tp :: ms.drop (i+1)) (hr:acc++keepS (ms.drop i) = res) (IH:A_15 N0 ms i res acc w r g d os B D U L5 A I F0 M lm) :
  CutOk (XX w r g d os) B D U (ncCode w r L5 A I F0) none [(L5+355,dictO [] 0),(A+355,listO acc ae),(I+355,iterO (M+355) i)] [(M+355,listO ms lm)] (N+355) (t) ({v:GaW // N0≤v.n}) (fun v=>.ok .next) (fun v=>[]) (fun v=>[dictO [dE v.1.h (⟨#[112,108,97,99,101]⟩:Str) v.1.z v.1.v] 1,listO res v.1.e,iterE v.1.i]) (fun v=>v.1.n+355) (fun v=>v.1.t) (fun v=>[]):=by
 refine .of_q MB hB hD.lo 7 0 ?_
 k_data
 let P₀:Rows→Pk (XX w r g d os) B D U S₀ []:=fun x₀=>(.a [5,1,5] [I+355,I+355] 4 0 0 0 [] [0] (next_some (hd:=none) (I:=I+355) (H:=M+355) (i:=i) (e:=lm) (n:=N+355) (t:=t) (vs:=ms) (v:=.str p tp) hi) fun _=>(.a [1,1,1,1] (ixL [L5+355] [0,0,0]) 0 0 0 0 [] [] (sne_ok (p:=p) (tk:=tp) (tz:=t+1) (n:=N+355) (t:=t+2) MB1 hB1 hD.up hl) fun _=>(.a [1,1,3] [A+355,L5+355] 2 0 0 0 [] [] (append_ok (hd:=none) (H:=A+355) (e:=ae) (n:=N+355) (t:=t+2) (vs:=acc) (x:=.str p tp) (by omega)) fun _=>(.o [] [] 7 0 0 0 [] [0] (IH (acc1:=acc++[Value.str p tp]) (ae1:=ae+1) (hz1:=kh w r ⟨#[112,108,97,99,101]⟩) (tz1:=t) (v01:=.str p tp) (N1:=N) (t1:=t+2) (by omega) (by rw [← hr,hd]; simp [keepS,sOf,let_sE hl]) (by simp)) fun v3=>(.e v3)))))
 exact ⟨P₀,by intro ⟨x1,x2,x3,x4⟩; cases x2 <;> kernel_rfl⟩
include MB hB in
theorem nc_f0 (hD:Lim D U 60) (hN:N0≤N) (hi:ms[i]? = some (.str ⟨#[]⟩ tp)) (hd:ms.drop i = .str ⟨#[]⟩ tp :: ms.drop (i+1)) (hr:acc++keepS (ms.drop i) = res) (IH:A_15 N0 ms i res acc w r g d os B D U L5 A I F0 M lm) :
  CutOk (XX w r g d os) B D U (ncCode w r L5 A I F0) none [(L5+355,dictO [] 0),(A+355,listO acc ae),(I+355,iterO (M+355) i)] [(M+355,listO ms lm)] (N+355) (t) ({v:GaW // N0≤v.n}) (fun v=>.ok .next) (fun v=>[]) (fun v=>[dictO [dE v.1.h (⟨#[112,108,97,99,101]⟩:Str) v.1.z v.1.v] 1,listO res v.1.e,iterE v.1.i]) (fun v=>v.1.n+355) (fun v=>v.1.t) (fun v=>[]):=by
 refine .of_q MB hB hD.lo 7 0 ?_
 intro S₀
 let P₀:Rows→Pk (XX w r g d os) B D U S₀ []:=fun x₀=>(.a [5,1,5] [I+355,I+355] 4 0 0 0 [] [0] (next_some (hd:=none) (I:=I+355) (H:=M+355) (i:=i) (e:=lm) (n:=N+355) (t:=t) (vs:=ms) (v:=.str ⟨#[]⟩ tp) hi) fun _=>(.o [1,1,1,1,1] (ixL [L5+355] [0,0,0]) 7 0 0 0 [] [0] (IH (acc1:=acc) (ae1:=ae) (hz1:=kh w r ⟨#[112,108,97,99,101]⟩) (tz1:=t) (v01:=.str ⟨#[]⟩ tp) (N1:=N) (t1:=t+2) (by omega) (by rw [← hr,hd]; simp [keepS,sOf,sE]) (by simp)) fun v1=>(.e v1)))
 exact ⟨P₀,by intro ⟨x1,x2,x3,x4⟩; cases x2 <;> kernel_rfl⟩
variable {hz:Int} {v0:Value}
include MB hB in
theorem nc_t1 (hD:Lim D U 60) (hN:N0≤N) (ha:acc.length≤900) (hl:Let p) (hi:ms[i]? = some (.str p tp)) (hd:ms.drop i = .str p tp :: ms.drop (i+1)) (hr:acc++keepS (ms.drop i) = res) (IH:A_15 N0 ms i res acc w r g d os B D U L5 A I F0 M lm) :
  CutOk (XX w r g d os) B D U (ncCode w r L5 A I F0) none [(A_33 L5 hz tz v0),(A+355,listO acc ae),(I+355,iterO (M+355) i)] [(M+355,listO ms lm)] (N+355) (t) ({v:GaW // N0≤v.n}) (fun v=>.ok .next) (fun v=>[]) (fun v=>[dictO [dE v.1.h (⟨#[112,108,97,99,101]⟩:Str) v.1.z v.1.v] 1,listO res v.1.e,iterE v.1.i]) (fun v=>v.1.n+355) (fun v=>v.1.t) (fun v=>[]):=by
 refine .of_q MB hB hD.lo 7 0 ?_
 k_data
 let P₀:Rows→Pk (XX w r g d os) B D U S₀ []:=fun x₀=>(.a [5,1,5] [I+355,I+355] 4 0 0 0 [] [0] (next_some (hd:=none) (I:=I+355) (H:=M+355) (i:=i) (e:=lm) (n:=N+355) (t:=t) (vs:=ms) (v:=.str p tp) hi) fun _=>(.a [1,1,1,1] (ixL [L5+355] [0,0,0]) 0 0 0 0 [] [] (sne_ok (p:=p) (tk:=tp) (tz:=t+1) (n:=N+355) (t:=t+2) MB1 hB1 hD.up hl) fun _=>(.a [1,1,3] [A+355,L5+355] 2 0 0 0 [] [] (append_ok (hd:=none) (H:=A+355) (e:=ae) (n:=N+355) (t:=t+2) (vs:=acc) (x:=.str p tp) (by omega)) fun _=>(.o [] [] 7 0 0 0 [] [0] (IH (acc1:=acc++[Value.str p tp]) (ae1:=ae+1) (hz1:=hz) (tz1:=tz) (v01:=.str p tp) (N1:=N) (t1:=t+2) (by omega) (by rw [← hr,hd]; simp [keepS,sOf,let_sE hl]) (by simp)) fun v3=>(.e v3)))))
 exact ⟨P₀,by intro ⟨x1,x2,x3,x4⟩; cases x2 <;> kernel_rfl⟩
include MB hB in
theorem nc_f1 (hD:Lim D U 60) (hN:N0≤N) (hi:ms[i]? = some (.str ⟨#[]⟩ tp)) (hd:ms.drop i = .str ⟨#[]⟩ tp :: ms.drop (i+1)) (hr:acc++keepS (ms.drop i) = res) (IH:A_15 N0 ms i res acc w r g d os B D U L5 A I F0 M lm) :
  CutOk (XX w r g d os) B D U (ncCode w r L5 A I F0) none [(A_33 L5 hz tz v0),(A+355,listO acc ae),(I+355,iterO (M+355) i)] [(M+355,listO ms lm)] (N+355) (t) ({v:GaW // N0≤v.n}) (fun v=>.ok .next) (fun v=>[]) (fun v=>[dictO [dE v.1.h (⟨#[112,108,97,99,101]⟩:Str) v.1.z v.1.v] 1,listO res v.1.e,iterE v.1.i]) (fun v=>v.1.n+355) (fun v=>v.1.t) (fun v=>[]):=by
 refine .of_q MB hB hD.lo 7 0 ?_
 intro S₀
 let P₀:Rows→Pk (XX w r g d os) B D U S₀ []:=fun x₀=>(.a [5,1,5] [I+355,I+355] 4 0 0 0 [] [0] (next_some (hd:=none) (I:=I+355) (H:=M+355) (i:=i) (e:=lm) (n:=N+355) (t:=t) (vs:=ms) (v:=.str ⟨#[]⟩ tp) hi) fun _=>(.o [1,1,1,1,1] (ixL [L5+355] [0,0,0]) 7 0 0 0 [] [0] (IH (acc1:=acc) (ae1:=ae) (hz1:=hz) (tz1:=tz) (v01:=.str ⟨#[]⟩ tp) (N1:=N) (t1:=t+2) (by omega) (by rw [← hr,hd]; simp [keepS,sOf,sE]) (by simp)) fun v1=>(.h (r':=(.ok .next)) (l':=[((L5+355),dictO [dE v1.1.h ⟨#[112,108,97,99,101]⟩ v1.1.z v1.1.v] 1),((A+355),listO res v1.1.e),((I+355),iterE v1.1.i)]) (m':=(v1.1.n+355)) (k':=v1.1.t) (z':=[]) ⟨v1,rfl,rfl,rfl,rfl,rfl⟩)))
 exact ⟨P₀,by intro ⟨x1,x2,x3,x4⟩; cases x2 <;> kernel_rfl⟩
include MB hB in
theorem nc_end (hD:Lim D U 60) (hN:N0≤N) (hi:ms[i]? = none) (hr:acc++keepS (ms.drop i) = res) :
  CutOk (XX w r g d os) B D U (ncCode w r L5 A I F0) none [(A_33 L5 hz tz v0),(A+355,listO acc ae),(I+355,iterO (M+355) i)] [(M+355,listO ms lm)] (N+355) (t) ({v:GaW // N0≤v.n}) (fun v=>.ok .next) (fun v=>[]) (fun v=>[dictO [dE v.1.h (⟨#[112,108,97,99,101]⟩:Str) v.1.z v.1.v] 1,listO res v.1.e,iterE v.1.i]) (fun v=>v.1.n+355) (fun v=>v.1.t) (fun v=>[]):=by
 refine .of_q MB hB hD.lo 28 0 ?_
 intro S₀
 let P₀:Rows→Pk (XX w r g d os) B D U S₀ []:=fun x₀=>(.a [5,1,5] [I+355,I+355] 4 0 0 0 [] [0] (next_none (I:=I+355) (H:=M+355) (i:=i) (e:=lm) (n:=N+355) (t:=t) (vs:=ms) hi) fun _=>(.k [1] [N+356] (r':=(.ok .next)) (l':=[((L5+355),dictO [dE hz ⟨#[112,108,97,99,101]⟩ tz v0] 1),((A+355),listO acc ae),((I+355),iterE i)]) (m':=(N+357)) (k':=t) (z':=[]) ⟨⟨⟨hz,tz,v0,ae,i,N+2,t⟩,by show N0≤N+2; omega⟩,rfl,(by try dsimp only [S₀]; rw [← hr,List.drop_of_length_le (by simpa using hi)]; simp [S₀,setO,keepS]),rfl,rfl,rfl⟩))
 exact ⟨P₀,by intro x; kernel_rfl⟩
section
variable {w:World} {r:Rows} {g:Array GenState} {d:Drawn} {os:OsState} {B:Heap→Prop} {D U:Nat}
theorem nc_loop1 (MB:Mono B) (hB:∀ h,B h→(KF (pr w r)).In h) (hD:Lim D U 60) {L5 A I F0 M lm N0:Nat} {ms res:List Value} (hms:∀ v∈ms,SLet v):∀ (m i:Nat),ms.length = i + m→∀ (acc:List Value) (ae:Nat) (hz:Int) (tz:Tok) (v0:Value) (N t:Nat),N0≤N→acc++keepS (ms.drop i) = res→acc.length + m≤900 →
  CutOk (XX w r g d os) B D U (ncCode w r L5 A I F0) none [(A_33 L5 hz tz v0),(A+355,listO acc ae),(I+355,iterO (M+355) i)] [(M+355,listO ms lm)] (N+355) t ({v:GaW // N0≤v.n}) (fun _=>.ok .next) (fun _=>[]) (fun v=>[dictO [dE v.1.h (⟨#[112,108,97,99,101]⟩:Str) v.1.z v.1.v] 1,listO res v.1.e,iterE v.1.i]) (fun v=>v.1.n+355) (fun v=>v.1.t) (fun _=>[]):=by
 intro m
 induction m with
 | zero =>
  intro i hi acc ae hz tz v0 N t hN hr ha
  exact nc_end MB hB hD hN (by simp; omega) hr
 | succ m ih =>
  intro i hi acc ae hz tz v0 N t hN hr ha
  obtain ⟨x,hx,hm,hd⟩:=getV hi
  obtain ⟨q,tq,rfl,hq⟩:=hms x hm
  rcases hq with rfl | hq
  ·exact nc_f1 MB hB hD hN hx hd hr (fun acc1 ae1 hz1 tz1 v01 N1 t1 h1 h2 h3=>ih (i+1) (by omega) acc1 ae1 hz1 tz1 v01 N1 t1 h1 h2 (by omega))
  ·exact nc_t1 MB hB hD hN (by omega) hq hx hd hr (fun acc1 ae1 hz1 tz1 v01 N1 t1 h1 h2 h3=>ih (i+1) (by omega) acc1 ae1 hz1 tz1 v01 N1 t1 h1 h2 (by omega))
theorem nc_loop0 (MB:Mono B) (hB:∀ h,B h→(KF (pr w r)).In h) (hD:Lim D U 60) {L5 A I F0 M lm:Nat} {ms:List Value} (hms:∀ v∈ms,SLet v) {N t:Nat} (ha:ms.length≤900) (h0:0 < ms.length) :
  CutOk (XX w r g d os) B D U (ncCode w r L5 A I F0) none [(L5+355,dictO [] 0),(A+355,listO [] 0),(I+355,iterO (M+355) 0)] [(M+355,listO ms lm)] (N+355) t ({v:GaW // N≤v.n}) (fun _=>.ok .next) (fun _=>[]) (fun v=>[dictO [dE v.1.h (⟨#[112,108,97,99,101]⟩:Str) v.1.z v.1.v] 1,listO (keepS ms) v.1.e,iterE v.1.i]) (fun v=>v.1.n+355) (fun v=>v.1.t) (fun _=>[]):=by
 obtain ⟨x,hx,hm,hd⟩:=getV (ls:=ms) (i:=0) (m:=ms.length - 1) (by omega)
 obtain ⟨q,tq,rfl,hq⟩:=hms x hm
 have IH:=fun (acc1:List Value) (ae1:Nat) (hz1:Int) (tz1:Tok) (v01:Value) (N1 t1:Nat) (h1:N≤N1) (h2:acc1++keepS (ms.drop (0+1)) = keepS ms) (h3:acc1.length≤([]:List Value).length+1) => nc_loop1 (g:=g) (d:=d) (os:=os) MB hB hD (L5:=L5) (A:=A) (I:=I) (F0:=F0) (M:=M) (lm:=lm) hms (ms.length - 1) (0+1) (by omega) acc1 ae1 hz1 tz1 v01 N1 t1 h1 h2 (by simp at h3; omega)
 rcases hq with rfl | hq
 ·exact nc_f0 (i:=0) MB hB hD (Nat.le_refl N) hx hd (by simp) IH
 ·exact nc_t0 (i:=0) MB hB hD (Nat.le_refl N) (by simp) hq hx hd (by simp) IH
end
end
section
noncomputable abbrev bwCode (w:World) (r:Rows) (F0 C:Nat):Code:=.whileLoop (whT (nthS (fnBody (KF (pr w r)) 344) 2)) (whB (nthS (fnBody (KF (pr w r)) 344) 2)) (whO (nthS (fnBody (KF (pr w r)) 344) 2)) { scope:=fnScope (KF (pr w r)) 344,locals:=F0+355,globals:=3,cells:=[((⟨#[116,97,98,108,101]⟩:Str),C+355)],qual:=(⟨#[95,108,97,119,95,98,121,95,116,117,114,110,115,46,60,108,111,99,97,108,115,62,46]⟩:Str),func:=some 344,code:=.ref 343,frame:=some (F0+355),builtins:=0 }
inductive Turns:List Ent→Cnt→List Str→List Ent→Cnt→Prop
 | stop (es:List Ent) (k:Cnt):Turns es k [] es k
 | more (es es1 es2:List Ent) (k k2:Cnt) (ps ms:List Str):ps≠[]→Moves es ps es1 ms→Turns es1 (incs k ps) (ms.filter fun y=>decide (y≠sE)) es2 k2→Turns es k ps es2 k2
structure BwV where
 es:List Ent
 news:List Ent
 k:Cnt
 u:CT
 P:Nat
 M:Nat
 fh:Int
 fg:Int
 fu:Tok
 fv:Tok
 fp:Value
 fe:Nat
 e:Nat
 n:Nat
 t:Nat
noncomputable def BwOut (es:List Ent) (k:Cnt) (qs:List Str) (N:Nat) (v:BwV):Prop:=N≤v.n∧Turns es k qs v.es v.k∧(∀ x∈v.es,x∈es∨x∈v.news)
theorem moves_rank {es es':List Ent} {ps ms:List Str} (h:Moves es ps es' ms):(∀ x∈es,Dwn x)→∀ y∈ms,y = sE∨(Let y∧∃ p∈ps,rk y < rk p):=by
 induction h with
 | nil => exact fun _ y hy=>nomatch hy
 | stay es es' p ps ms hl hh hm ih =>
  intro hg y hy
  rcases List.mem_cons.mp hy with rfl | hy
  ·exact .inl rfl
  ·rcases ih hg y hy with h | ⟨h,q,hq,hr⟩
   ·exact .inl h
   ·exact .inr ⟨h,q,.tail _ hq,hr⟩
 | go es es' news p y0 ty rest ps ms hl hh hn hm ih =>
  intro hg y hy
  rcases List.mem_cons.mp hy with rfl | hy
  ·obtain ⟨y',ty',he,h1,h2,_⟩:=hit_str hg hh
   cases he
   exact .inr ⟨h1,p,.head _,h2⟩
  ·rcases ih (step_dwn hg hh hn).2.1 y hy with h | ⟨h,q,hq,hr⟩
   ·exact .inl h
   ·exact .inr ⟨h,q,.tail _ hq,hr⟩
theorem keepS_map (l:List Value):(keepS l).map sOf = (l.map sOf).filter fun y=>decide (y≠sE):=by
 induction l with
 | nil => rfl
 | cons x l ih =>
  by_cases h:sOf x = sE
  ·simp [keepS,h] at ih ⊢; exact ih
  ·simp [keepS,h] at ih ⊢; exact ih
theorem turns_more {es es1 es2:List Ent} {k k1 k2:Cnt} {ps:List Str} {mv:List Value} (hne:ps≠[]) (hm:Moves es ps es1 (mv.map sOf)) (hk:k1 = incs k ps) (h:Turns es1 k1 ((keepS mv).map sOf) es2 k2):Turns es k ps es2 k2:=by
 rw [keepS_map] at h
 subst hk
 exact .more es es1 es2 k k2 ps _ hne hm h
theorem keepS_ok {es es':List Ent} {ps:List Str} {mv:List Value} (hg:∀ x∈es,Dwn x) (h:Moves es ps es' (mv.map sOf)) (hs:∀ x∈mv,SLet x):∀ v∈keepS mv,∃ q tq,v = .str q tq∧Let q∧∃ p∈ps,rk q < rk p:=by
 intro v hv
 obtain ⟨h1,h2⟩:=List.mem_filter.mp hv
 obtain ⟨q,tq,rfl,hq⟩:=hs v h1
 refine ⟨q,tq,rfl,?_⟩
 rcases moves_rank h hg q (List.mem_map_of_mem (f:=sOf) h1) with rfl | h3
 ·simp [sOf] at h2
 ·exact h3
include MB hB in
theorem bw_t3 {F0 C T dT H S Vd P M e ep pe lp N t:Nat} {h1 h2 h3 k1:Int} {u1 u2 u3 s1:Tok} {ch:CH} {kt:CT} {ia ib ic id:Int} {ua ub uc ud:Tok} {es:List Ent} {ps:List Value} (hD:Lim D U 130) (hes:0 < es.length∧es.length≤400) (hg:∀ x∈es,Dwn x) (hpr:∀ h,B h→PairsIn es h) (hH:H < N) (hps:∀ v∈ps,∃ q tq,v = .str q tq∧Let q) (hpl:ps.length≤400) (hne:ps≠[]) (IH:∀ {B':Heap→Prop},Mono B'→(∀ h,B' h→(KF (pr w r)).In h)→∀ (es1:List Ent) (ps1:List Value) (ia1 ib1 ic1 id1:Int) (ua1 ub1 uc1 ud1:Tok) (P1 M1 lp1:Nat) (h41 h51:Int) (u41 u51:Tok) (pl1:Value) (pe1 e1 N1 t1:Nat),es1.length = es.length→(∀ x∈es1,Dwn x)→(∀ h,B' h→PairsIn es1 h)→H < N1→(∀ v∈ps1,∃ q tq,v = .str q tq∧Let q∧∃ p∈ps.map sOf,rk q < rk p)→ps1.length≤ps.length→CutOk (XX w r g d os) B' D U (bwCode w r F0 C) none [(Vd+355,cntO ch kt ia1 ib1 ic1 id1 ua1 ub1 uc1 ud1 ep),(F0+355,frO (bt5 S Vd P1 M1 h1 h2 h3 h41 h51 u1 u2 u3 u41 u51 pl1) pe1),(H+355,listO (es1.map Ent.v) e1)] [(P1+355,listO ps1 lp1),(C+355,cellO (.ref (T+355))),(T+355,hdrO dT),(dT+355,hdrD k1 s1 H)] (N1+355) t1 ({v:BwV // BwOut es1 ⟨ia1,ib1,ic1,id1⟩ (ps1.map sOf) N1 v}) (fun _=>.ok .next) (fun _=>[]) (fun v=>[cntO ch kt v.1.k.a v.1.k.b v.1.k.c v.1.k.d v.1.u.a v.1.u.b v.1.u.c v.1.u.d ep,frO (bt5 S Vd v.1.P v.1.M h1 h2 h3 v.1.fh v.1.fg u1 u2 u3 v.1.fu v.1.fv v.1.fp) v.1.fe,listO (v.1.es.map Ent.v) v.1.e]) (fun v=>v.1.n+355) (fun v=>v.1.t) (fun v=>(v.1.news.map Ent.pair).reverse)) :
  CutOk (XX w r g d os) B D U (bwCode w r F0 C) none [(Vd+355,cntO ch kt ia ib ic id ua ub uc ud ep),(F0+355,frO (bt3 S Vd P h1 h2 h3 u1 u2 u3) pe),(H+355,listO (es.map Ent.v) e)] (A_25 P ps lp C T dT k1 s1 H) (N+355) (t) ({v:BwV // BwOut es ⟨ia,ib,ic,id⟩ (ps.map sOf) N v}) (fun v=>.ok .next) (fun v=>[]) (fun v=>[cntO ch kt v.1.k.a v.1.k.b v.1.k.c v.1.k.d v.1.u.a v.1.u.b v.1.u.c v.1.u.d ep,frO (bt5 S Vd v.1.P v.1.M h1 h2 h3 v.1.fh v.1.fg u1 u2 u3 v.1.fu v.1.fv v.1.fp) v.1.fe,listO (v.1.es.map Ent.v) v.1.e]) (fun v=>v.1.n+355) (fun v=>v.1.t) (fun v=>(v.1.news.map Ent.pair).reverse):=by
 refine .of_q MB hB hD.lo 1792 0 ?_
 k_data
 let P₀:Rows→Pk (XX w r g d os) B D U S₀ []:=fun x₀=>(.a (d6 6 0x212123) (ixL [P+355,N+355,F0+355] [0,0,1,0,2]) 0 1 0 0 [1] [0,1] (lneT (H:=P+355) (G:=N+355) (e:=lp) (e2:=0) (n:=N+356) (t:=t) (vs:=ps) MB1 hB1 hD.up hne) fun _=>(.a (d6 7 0x1121225) (ixL [N+356,P+355,F0+355] [0,1,1,1,2]) 13 0 0 0 [] [0] (bf_loop3 (I:=N+1) (F0:=F0) (C:=C) (S:=S) (Vd:=Vd) (P:=P) (ep:=ep) (lp:=lp) (h1:=h1) (h2:=h2) (h3:=h3) (u1:=u1) (u2:=u2) (u3:=u3) (ch:=ch) (kt:=kt) (ps:=ps) (ia:=ia) (ib:=ib) (ic:=ic) (id:=id) (ua:=ua) (ub:=ub) (uc:=uc) (ud:=ud) (pe:=pe) (N:=N+2) (t:=t) MB1 hB1 hD.up hps (List.length_pos_iff.mpr hne)) fun v1=>(.a (cond x₀.a (d6 8 0x11121227) (d6 14 0x51515511121227)) (cond x₀.a (ixL [v1.1.n+355,P+355,F0+355] [0,1,1,1,2]) (ix [v1.1.n+355,P+355,F0+355] 9 0x211100000)) 135 0 0 0 [] [0,2,4,6] (mc_loop0 (L5:=v1.1.n+2) (A:=v1.1.n+1) (I:=v1.1.n) (C:=C) (F0:=F0) (T:=T) (dT:=dT) (H:=H) (P:=P) (lp:=lp) (k1:=k1) (s1:=s1) (ps:=ps) (es:=es) (e:=e) (N:=v1.1.n+3) (t:=v1.1.t) (by omega) hps (List.length_pos_iff.mpr hne) MB1 hB1 hes hg (fun h b=>hpr h b.1) (by have:=v1.2.1; omega) (by omega)) fun v2=>(.a (cond x₀.a (d6 13 0x1113133d111dd) (d6 19 0x5151551113133d111dd)) (cond x₀.a (ix [v2.1.n+355,v1.1.n+356,F0+355,v1.1.n+357] 10 0x2233321110) (ix [v2.1.n+355,v1.1.n+356,F0+355,v1.1.n+357] 14 0x22333211100000)) 7 16 0 0 [0] [1] (nc_loop0 (L5:=v2.1.n+2) (A:=v2.1.n+1) (I:=v2.1.n) (F0:=F0) (M:=v1.1.n+1) (lm:=v2.1.ae) (ms:=v2.1.mv) (N:=v2.1.n+3) (t:=v2.1.t+1) MB1 hB1 hD.up v2.2.2.2.2 (by have h7:=(moves_keep v2.2.2.1 hg).2.2; simp at h7; omega) (by have h7:=(moves_keep v2.2.2.1 hg).2.2; have h9:=List.length_pos_iff.mpr hne; simp at h7; omega)) fun v3=>(.i [19,19,1,1,1] (ixL [v2.1.n+357,F0+355] [0,0,0,1,1]) 1792 2 0 0 [0] [1,2,4,6] (IH (es1:=v2.1.es) (ps1:=keepS v2.1.mv) (ia1:=v1.1.k.a) (ib1:=v1.1.k.b) (ic1:=v1.1.k.c) (id1:=v1.1.k.d) (ua1:=v1.1.u.a) (ub1:=v1.1.u.b) (uc1:=v1.1.u.c) (ud1:=v1.1.u.d) (P1:=v2.1.n+1) (M1:=v1.1.n+1) (lp1:=v3.1.e) (h41:=v1.1.fh) (h51:=kh w r ⟨#[109,111,118,101,100]⟩) (u41:=v1.1.fu) (u51:=v2.1.t) (pl1:=v1.1.fp) (pe1:=v1.1.fe+1) (e1:=v2.1.e) (N1:=v3.1.n) (t1:=v3.1.t+1) (MB1.bi _) (fun h b=>hB1 h b.1) (moves_keep v2.2.2.1 hg).1 (moves_keep v2.2.2.1 hg).2.1 (fun h b=>pairs_step (B:=B) (hpr h b.1.1) b.2 (fun x hx=>by simp; exact .inr ⟨x,hx,rfl⟩) v2.2.2.2.1) (by have h1:=v1.2.1; have h2:=v2.2.1; have h3:=v3.2; omega) (keepS_ok hg v2.2.2.1 v2.2.2.2.2) (by have h7:=(moves_keep v2.2.2.1 hg).2.2; have h8:(keepS v2.1.mv).length≤v2.1.mv.length:=List.length_filter_le _ _; simp at h7; omega)) fun v4=>(.h (r':=(.ok .next)) (l':=[((Vd+355),dictO [dE ch.a ⟨#[97]⟩ kt.a (.int v4.1.k.a v4.1.u.a),dE ch.b ⟨#[98]⟩ kt.b (.int v4.1.k.b v4.1.u.b),dE ch.c ⟨#[99]⟩ kt.c (.int v4.1.k.c v4.1.u.c),dE ch.d ⟨#[100]⟩ kt.d (.int v4.1.k.d v4.1.u.d)] ep),((F0+355),frO [dE h1 ⟨#[115,116,97,114,116,115]⟩ u1 (.ref (S+355)),dE h2 ⟨#[118,105,115,105,116,115]⟩ u2 (.ref (Vd+355)),dE h3 ⟨#[112,108,97,99,101,115]⟩ u3 (.ref (v4.1.P+355)),dE v4.1.fh ⟨#[112,108,97,99,101]⟩ v4.1.fu v4.1.fp,dE v4.1.fg ⟨#[109,111,118,101,100]⟩ v4.1.fv (.ref (v4.1.M+355))] v4.1.fe),((H+355),listO (List.map Ent.v v4.1.es) v4.1.e)]) (m':=(v4.1.n+355)) (k':=v4.1.t) (z':=([]++((List.map Ent.pair v4.1.news).reverse++((List.map Ent.pair v2.1.news).reverse++[])))) ⟨⟨⟨v4.1.es,v2.1.news++v4.1.news,v4.1.k,v4.1.u,v4.1.P,v4.1.M,v4.1.fh,v4.1.fg,v4.1.fu,v4.1.fv,v4.1.fp,v4.1.fe,v4.1.e,v4.1.n,v4.1.t⟩,by have h1:=v1.2.1; have h2:=v2.2.1; have h3:=v3.2; have h4:=v4.2.1; show N≤v4.1.n; omega,turns_more (by simpa using hne) (by simpa using v2.2.2.1) (by simpa using v1.2.2) v4.2.2.1,fun x h=>by rcases v4.2.2.2 x h with h | h; rcases v2.2.2.2.1 x h with h | h; exact .inl h; exact .inr (List.mem_append_left _ h); exact .inr (List.mem_append_right _ h)⟩,rfl,rfl,rfl,rfl,(by try dsimp only [S₀]; simp [S₀])⟩))))))
 exact ⟨P₀,by intro ⟨x1,x2,x3,x4⟩; cases x1 <;> cases x2 <;> kernel_rfl⟩
variable {F0 C T dT H S Vd P M e ep pe lp N t:Nat} {h1 h2 h3 h4 h5 k1:Int} {u1 u2 u3 u4 u5 s1:Tok} {ch:CH} {kt:CT} {ia ib ic id:Int} {ua ub uc ud:Tok} {pl:Value} {es:List Ent} {ps:List Value}
include MB hB in
theorem bw_t5 (hD:Lim D U 130) (hes:0 < es.length∧es.length≤400) (hg:∀ x∈es,Dwn x) (hpr:∀ h,B h→PairsIn es h) (hH:H < N) (hps:∀ v∈ps,∃ q tq,v = .str q tq∧Let q) (hpl:ps.length≤400) (hne:ps≠[]) (IH:∀ {B':Heap→Prop},Mono B'→(∀ h,B' h→(KF (pr w r)).In h)→∀ (es1:List Ent) (ps1:List Value) (ia1 ib1 ic1 id1:Int) (ua1 ub1 uc1 ud1:Tok) (P1 M1 lp1:Nat) (h41 h51:Int) (u41 u51:Tok) (pl1:Value) (pe1 e1 N1 t1:Nat),es1.length = es.length→(∀ x∈es1,Dwn x)→(∀ h,B' h→PairsIn es1 h)→H < N1→(∀ v∈ps1,∃ q tq,v = .str q tq∧Let q∧∃ p∈ps.map sOf,rk q < rk p)→ps1.length≤ps.length→CutOk (XX w r g d os) B' D U (bwCode w r F0 C) none [(Vd+355,cntO ch kt ia1 ib1 ic1 id1 ua1 ub1 uc1 ud1 ep),(F0+355,frO (bt5 S Vd P1 M1 h1 h2 h3 h41 h51 u1 u2 u3 u41 u51 pl1) pe1),(H+355,listO (es1.map Ent.v) e1)] [(P1+355,listO ps1 lp1),(C+355,cellO (.ref (T+355))),(T+355,hdrO dT),(dT+355,hdrD k1 s1 H)] (N1+355) t1 ({v:BwV // BwOut es1 ⟨ia1,ib1,ic1,id1⟩ (ps1.map sOf) N1 v}) (fun _=>.ok .next) (fun _=>[]) (fun v=>[cntO ch kt v.1.k.a v.1.k.b v.1.k.c v.1.k.d v.1.u.a v.1.u.b v.1.u.c v.1.u.d ep,frO (bt5 S Vd v.1.P v.1.M h1 h2 h3 v.1.fh v.1.fg u1 u2 u3 v.1.fu v.1.fv v.1.fp) v.1.fe,listO (v.1.es.map Ent.v) v.1.e]) (fun v=>v.1.n+355) (fun v=>v.1.t) (fun v=>(v.1.news.map Ent.pair).reverse)) :
  CutOk (XX w r g d os) B D U (bwCode w r F0 C) none [(Vd+355,cntO ch kt ia ib ic id ua ub uc ud ep),(F0+355,frO (bt5 S Vd P M h1 h2 h3 h4 h5 u1 u2 u3 u4 u5 pl) pe),(H+355,listO (es.map Ent.v) e)] (A_25 P ps lp C T dT k1 s1 H) (N+355) (t) ({v:BwV // BwOut es ⟨ia,ib,ic,id⟩ (ps.map sOf) N v}) (fun v=>.ok .next) (fun v=>[]) (fun v=>[cntO ch kt v.1.k.a v.1.k.b v.1.k.c v.1.k.d v.1.u.a v.1.u.b v.1.u.c v.1.u.d ep,frO (bt5 S Vd v.1.P v.1.M h1 h2 h3 v.1.fh v.1.fg u1 u2 u3 v.1.fu v.1.fv v.1.fp) v.1.fe,listO (v.1.es.map Ent.v) v.1.e]) (fun v=>v.1.n+355) (fun v=>v.1.t) (fun v=>(v.1.news.map Ent.pair).reverse):=by
 refine .of_q MB hB hD.lo 1792 0 ?_
 k_data
 let P₀:Rows→Pk (XX w r g d os) B D U S₀ []:=fun x₀=>(.a (d6 6 0x212123) (ixL [P+355,N+355,F0+355] [0,0,1,0,2]) 0 1 0 0 [1] [0,1] (lneT (H:=P+355) (G:=N+355) (e:=lp) (e2:=0) (n:=N+356) (t:=t) (vs:=ps) MB1 hB1 hD.up hne) fun _=>(.a (d6 7 0x1121225) (ixL [N+356,P+355,F0+355] [0,1,1,1,2]) 13 0 0 0 [] [0] (bf_loop5 (I:=N+1) (F0:=F0) (C:=C) (S:=S) (Vd:=Vd) (P:=P) (M:=M) (ep:=ep) (lp:=lp) (h1:=h1) (h2:=h2) (h3:=h3) (h5:=h5) (u1:=u1) (u2:=u2) (u3:=u3) (u5:=u5) (ch:=ch) (kt:=kt) (ps:=ps) (ia:=ia) (ib:=ib) (ic:=ic) (id:=id) (ua:=ua) (ub:=ub) (uc:=uc) (ud:=ud) (h4:=h4) (u4:=u4) (pl:=pl) (pe:=pe) (N:=N+2) (t:=t) MB1 hB1 hD.up hps ps.length 0 (by simp)) fun v1=>(.a (cond x₀.a (d6 8 0x11121227) (d6 14 0x51515511121227)) (cond x₀.a (ixL [v1.1.n+355,P+355,F0+355] [0,1,1,1,2]) (ix [v1.1.n+355,P+355,F0+355] 9 0x211100000)) 135 0 0 0 [] [0,2,4,6] (mc_loop0 (L5:=v1.1.n+2) (A:=v1.1.n+1) (I:=v1.1.n) (C:=C) (F0:=F0) (T:=T) (dT:=dT) (H:=H) (P:=P) (lp:=lp) (k1:=k1) (s1:=s1) (ps:=ps) (es:=es) (e:=e) (N:=v1.1.n+3) (t:=v1.1.t) (by omega) hps (List.length_pos_iff.mpr hne) MB1 hB1 hes hg (fun h b=>hpr h b.1) (by have:=v1.2.1; omega) (by omega)) fun v2=>(.a (cond x₀.a (d6 13 0x1113133d111dd) (d6 19 0x5151551113133d111dd)) (cond x₀.a (ix [v2.1.n+355,v1.1.n+356,F0+355,v1.1.n+357] 10 0x2233321110) (ix [v2.1.n+355,v1.1.n+356,F0+355,v1.1.n+357] 14 0x22333211100000)) 7 16 0 0 [0] [1] (nc_loop0 (L5:=v2.1.n+2) (A:=v2.1.n+1) (I:=v2.1.n) (F0:=F0) (M:=v1.1.n+1) (lm:=v2.1.ae) (ms:=v2.1.mv) (N:=v2.1.n+3) (t:=v2.1.t+1) MB1 hB1 hD.up v2.2.2.2.2 (by have h7:=(moves_keep v2.2.2.1 hg).2.2; simp at h7; omega) (by have h7:=(moves_keep v2.2.2.1 hg).2.2; have h9:=List.length_pos_iff.mpr hne; simp at h7; omega)) fun v3=>(.i [19,19,1,1,1] (ixL [v2.1.n+357,F0+355] [0,0,0,1,1]) 1792 2 0 0 [0] [1,2,4,6] (IH (es1:=v2.1.es) (ps1:=keepS v2.1.mv) (ia1:=v1.1.k.a) (ib1:=v1.1.k.b) (ic1:=v1.1.k.c) (id1:=v1.1.k.d) (ua1:=v1.1.u.a) (ub1:=v1.1.u.b) (uc1:=v1.1.u.c) (ud1:=v1.1.u.d) (P1:=v2.1.n+1) (M1:=v1.1.n+1) (lp1:=v3.1.e) (h41:=v1.1.fh) (h51:=h5) (u41:=v1.1.fu) (u51:=u5) (pl1:=v1.1.fp) (pe1:=v1.1.fe) (e1:=v2.1.e) (N1:=v3.1.n) (t1:=v3.1.t+1) (MB1.bi _) (fun h b=>hB1 h b.1) (moves_keep v2.2.2.1 hg).1 (moves_keep v2.2.2.1 hg).2.1 (fun h b=>pairs_step (B:=B) (hpr h b.1.1) b.2 (fun x hx=>by simp; exact .inr ⟨x,hx,rfl⟩) v2.2.2.2.1) (by have h1:=v1.2.1; have h2:=v2.2.1; have h3:=v3.2; omega) (keepS_ok hg v2.2.2.1 v2.2.2.2.2) (by have h7:=(moves_keep v2.2.2.1 hg).2.2; have h8:(keepS v2.1.mv).length≤v2.1.mv.length:=List.length_filter_le _ _; simp at h7; omega)) fun v4=>(.h (r':=(.ok .next)) (l':=[((Vd+355),dictO [dE ch.a ⟨#[97]⟩ kt.a (.int v4.1.k.a v4.1.u.a),dE ch.b ⟨#[98]⟩ kt.b (.int v4.1.k.b v4.1.u.b),dE ch.c ⟨#[99]⟩ kt.c (.int v4.1.k.c v4.1.u.c),dE ch.d ⟨#[100]⟩ kt.d (.int v4.1.k.d v4.1.u.d)] ep),((F0+355),frO [dE h1 ⟨#[115,116,97,114,116,115]⟩ u1 (.ref (S+355)),dE h2 ⟨#[118,105,115,105,116,115]⟩ u2 (.ref (Vd+355)),dE h3 ⟨#[112,108,97,99,101,115]⟩ u3 (.ref (v4.1.P+355)),dE v4.1.fh ⟨#[112,108,97,99,101]⟩ v4.1.fu v4.1.fp,dE v4.1.fg ⟨#[109,111,118,101,100]⟩ v4.1.fv (.ref (v4.1.M+355))] v4.1.fe),((H+355),listO (List.map Ent.v v4.1.es) v4.1.e)]) (m':=(v4.1.n+355)) (k':=v4.1.t) (z':=([]++((List.map Ent.pair v4.1.news).reverse++((List.map Ent.pair v2.1.news).reverse++[])))) ⟨⟨⟨v4.1.es,v2.1.news++v4.1.news,v4.1.k,v4.1.u,v4.1.P,v4.1.M,v4.1.fh,v4.1.fg,v4.1.fu,v4.1.fv,v4.1.fp,v4.1.fe,v4.1.e,v4.1.n,v4.1.t⟩,by have h1:=v1.2.1; have h2:=v2.2.1; have h3:=v3.2; have h4:=v4.2.1; show N≤v4.1.n; omega,turns_more (by simpa using hne) (by simpa using v2.2.2.1) (by simpa using v1.2.2) v4.2.2.1,fun x h=>by rcases v4.2.2.2 x h with h | h; rcases v2.2.2.2.1 x h with h | h; exact .inl h; exact .inr (List.mem_append_left _ h); exact .inr (List.mem_append_right _ h)⟩,rfl,rfl,rfl,rfl,(by try dsimp only [S₀]; simp [S₀])⟩))))))
 exact ⟨P₀,by intro ⟨x1,x2,x3,x4⟩; cases x1 <;> cases x2 <;> kernel_rfl⟩
include MB hB in
theorem bw_end (hD:Lim D U 130) (hne:ps = []) :
  CutOk (XX w r g d os) B D U (bwCode w r F0 C) none [(Vd+355,cntO ch kt ia ib ic id ua ub uc ud ep),(F0+355,frO (bt5 S Vd P M h1 h2 h3 h4 h5 u1 u2 u3 u4 u5 pl) pe),(H+355,listO (es.map Ent.v) e)] [(P+355,listO ps lp)] (N+355) (t) ({v:BwV // BwOut es ⟨ia,ib,ic,id⟩ (ps.map sOf) N v}) (fun v=>.ok .next) (fun v=>[]) (fun v=>[cntO ch kt v.1.k.a v.1.k.b v.1.k.c v.1.k.d v.1.u.a v.1.u.b v.1.u.c v.1.u.d ep,frO (bt5 S Vd v.1.P v.1.M h1 h2 h3 v.1.fh v.1.fg u1 u2 u3 v.1.fu v.1.fv v.1.fp) v.1.fe,listO (v.1.es.map Ent.v) v.1.e]) (fun v=>v.1.n+355) (fun v=>v.1.t) (fun v=>(v.1.news.map Ent.pair).reverse):=by
 refine .of_q MB hB hD.lo 14 0 ?_
 k_data
 let P₀:Rows→Pk (XX w r g d os) B D U S₀ []:=fun x₀=>(.a (d6 6 0x212123) (ixL [P+355,N+355,F0+355] [0,0,1,0,2]) 0 1 0 0 [1] [0,1] (lneF (H:=P+355) (G:=N+355) (e:=lp) (e2:=0) (n:=N+356) (t:=t) (vs:=ps) MB1 hB1 hD.up hne) fun _=>(.f [] [] ⟨⟨es,[],⟨ia,ib,ic,id⟩,⟨ua,ub,uc,ud⟩,P,M,h4,h5,u4,u5,pl,pe,e,N+1,t⟩,by show N≤N+1; omega,by rw [hne]; exact .stop es _,fun x h=>.inl h⟩))
 exact ⟨P₀,by intro ⟨x1,x2,x3,x4⟩; cases x2 <;> kernel_rfl⟩
section
variable {w:World} {r:Rows} {g:Array GenState} {d:Drawn} {os:OsState} {D U:Nat}
theorem bw_loop (hD:Lim D U 130) {F0 C T dT H S Vd ep:Nat} {h1 h2 h3 k1:Int} {u1 u2 u3 s1:Tok} {ch:CH} {kt:CT}:∀ (m:Nat) {B:Heap→Prop},Mono B→(∀ h,B h→(KF (pr w r)).In h)→∀ (es:List Ent) (ps:List Value) (ia ib ic id:Int) (ua ub uc ud:Tok) (P M lp:Nat) (h4 h5:Int) (u4 u5:Tok) (pl:Value) (pe e N t:Nat),
  (0 < es.length∧es.length≤400)→(∀ x∈es,Dwn x)→(∀ h,B h→PairsIn es h)→H < N→(∀ v∈ps,∃ q tq,v = .str q tq∧Let q∧rk q≤m)→ps.length≤400 →
  CutOk (XX w r g d os) B D U (bwCode w r F0 C) none [(Vd+355,cntO ch kt ia ib ic id ua ub uc ud ep),(F0+355,frO (bt5 S Vd P M h1 h2 h3 h4 h5 u1 u2 u3 u4 u5 pl) pe),(H+355,listO (es.map Ent.v) e)] (A_25 P ps lp C T dT k1 s1 H) (N+355) t ({v:BwV // BwOut es ⟨ia,ib,ic,id⟩ (ps.map sOf) N v}) (fun _=>.ok .next) (fun _=>[]) (fun v=>[cntO ch kt v.1.k.a v.1.k.b v.1.k.c v.1.k.d v.1.u.a v.1.u.b v.1.u.c v.1.u.d ep,frO (bt5 S Vd v.1.P v.1.M h1 h2 h3 v.1.fh v.1.fg u1 u2 u3 v.1.fu v.1.fv v.1.fp) v.1.fe,listO (v.1.es.map Ent.v) v.1.e]) (fun v=>v.1.n+355) (fun v=>v.1.t) (fun v=>(v.1.news.map Ent.pair).reverse):=by
 intro m
 induction m with
 | zero =>
  intro B MB hB es ps ia ib ic id ua ub uc ud P M lp h4 h5 u4 u5 pl pe e N t hes hg hpr hH hps hpl
  have h0:ps = []:=by
   cases ps with
   | nil => rfl
   | cons v l =>
    obtain ⟨q,tq,_,hq,hr⟩:=hps v (.head _)
    exfalso
    rcases hq with rfl | rfl | rfl | rfl <;> revert hr <;> decide
  exact CutOk.wk (fun h b i=>⟨b,.cons (i.nth 0 rfl) .nil⟩) (bw_end MB hB hD h0)
 | succ m ih =>
  intro B MB hB es ps ia ib ic id ua ub uc ud P M lp h4 h5 u4 u5 pl pe e N t hes hg hpr hH hps hpl
  by_cases h0:ps = []
  ·exact CutOk.wk (fun h b i=>⟨b,.cons (i.nth 0 rfl) .nil⟩) (bw_end MB hB hD h0)
  ·exact bw_t5 MB hB hD hes hg hpr hH (fun v hv=>by obtain ⟨q,tq,a,b,_⟩:=hps v hv; exact ⟨q,tq,a,b⟩) hpl h0 (fun {B'} MB' hB' es1 ps1 ia ib ic id ua ub uc ud P M lp h4 h5 u4 u5 pl pe e N t a1 a2 a3 a4 a5 a6 => ih MB' hB' es1 ps1 ia ib ic id ua ub uc ud P M lp h4 h5 u4 u5 pl pe e N t (by omega) a2 a3 a4 (fun v hv=>by
    obtain ⟨q,tq,b1,b2,p,b3,b4⟩:=a5 v hv
    obtain ⟨v',b5,rfl⟩:=List.mem_map.mp b3
    obtain ⟨q',tq',rfl,_,b6⟩:=hps v' b5
    have b7:sOf (.str q' tq') = q':=rfl
    rw [b7] at b4
    exact ⟨q,tq,b1,b2,by omega⟩) (by omega))
theorem rk_le (q:Str):rk q≤4:=by unfold rk; split <;> (try split) <;> (try split) <;> (try split) <;> omega
theorem bw_loop3 (hD:Lim D U 130) {F0 C T dT H S Vd P ep lp:Nat} {h1 h2 h3 k1:Int} {u1 u2 u3 s1:Tok} {ch:CH} {kt:CT} {B:Heap→Prop} (MB:Mono B) (hB:∀ h,B h→(KF (pr w r)).In h) {es:List Ent} {ps:List Value} {ia ib ic id:Int} {ua ub uc ud:Tok} {pe e N t:Nat}
  (hes:0 < es.length∧es.length≤400) (hg:∀ x∈es,Dwn x) (hpr:∀ h,B h→PairsIn es h) (hH:H < N) (hps:∀ v∈ps,∃ q tq,v = .str q tq∧Let q) (hpl:ps.length≤400) (hne:ps≠[]) :
  CutOk (XX w r g d os) B D U (bwCode w r F0 C) none [(Vd+355,cntO ch kt ia ib ic id ua ub uc ud ep),(F0+355,frO (bt3 S Vd P h1 h2 h3 u1 u2 u3) pe),(H+355,listO (es.map Ent.v) e)] (A_25 P ps lp C T dT k1 s1 H) (N+355) t ({v:BwV // BwOut es ⟨ia,ib,ic,id⟩ (ps.map sOf) N v}) (fun _=>.ok .next) (fun _=>[]) (fun v=>[cntO ch kt v.1.k.a v.1.k.b v.1.k.c v.1.k.d v.1.u.a v.1.u.b v.1.u.c v.1.u.d ep,frO (bt5 S Vd v.1.P v.1.M h1 h2 h3 v.1.fh v.1.fg u1 u2 u3 v.1.fu v.1.fv v.1.fp) v.1.fe,listO (v.1.es.map Ent.v) v.1.e]) (fun v=>v.1.n+355) (fun v=>v.1.t) (fun v=>(v.1.news.map Ent.pair).reverse) :=
 bw_t3 (M:=0) MB hB hD hes hg hpr hH hps hpl hne (fun {B'} MB' hB' es1 ps1 ia ib ic id ua ub uc ud P M lp h4 h5 u4 u5 pl pe e N t a1 a2 a3 a4 a5 a6 => bw_loop hD 4 MB' hB' es1 ps1 ia ib ic id ua ub uc ud P M lp h4 h5 u4 u5 pl pe e N t (by omega) a2 a3 a4 (fun v hv=>by
    obtain ⟨q,tq,b1,b2,p,b3,b4⟩:=a5 v hv
    exact ⟨q,tq,b1,b2,rk_le q⟩) (by omega))
end
theorem rev_ok {X:Env0} {B:Heap→Prop} {D U:Nat} {hd:Hd} {H S:Addr} {e n t:Nat} {ta:Tok} {vs:List Value} (hs:vs.length≤1000) :
  CutOk X B D U (.builtin "list.__getitem__" ⟨[.ref H,.ref S],[]⟩) hd [] [(H,listO vs e),(S,sliceO .none .none (.int (Int.negSucc 0) ta))] n t Unit (fun _=>.ok (.ret (.ref n))) (fun _=>[(n,listO vs.reverse 0)]) (fun _=>[]) (fun _=>n+1) (fun _=>t) (fun _=>[]):=by
 have:=getslice_ok (X:=X) (B:=B) (D:=D) (U:=U) (hd:=hd) (H:=H) (S:=S) (e:=e) (n:=n) (t:=t) (vs:=vs) .none .none (.int (-1) ta) (by simp) hs
 rw [krv_pick] at this
 simpa using this
noncomputable abbrev cT2 (t:Nat):CT:=⟨t+2,t+6,t+10,t+14⟩
variable {es0:Nat} {ss:List Value}
include MB hB in
theorem turns_ok (hD:Lim D U 140) (hes:0 < es.length∧es.length≤400) (hg:∀ x∈es,Dwn x) (hpr:∀ h,B h→PairsIn es h) (hH:H < N) (hss:∀ v∈ss,∃ q tq,v = .str q tq∧Let q) (h0:0 < ss.length∧ss.length≤400) :
  CutOk (XX w r g d os) B D U (.call (.ref 344) ⟨[.ref (T+355),.ref (S+355)],[]⟩) none [(H+355,listO (es.map Ent.v) e)] [(T+355,hdrO dT),(dT+355,hdrD k1 s1 H),(S+355,listO ss es0)] (N+355) (t) ({v:BwV // BwOut es ⟨0,0,0,0⟩ (ss.reverse.map sOf) N v}) (fun v=>.ok (.ret (.ref (N+358)))) (fun v=>[(N+358,cntO (cH w r) (cT2 t) v.1.k.a v.1.k.b v.1.k.c v.1.k.d v.1.u.a v.1.u.b v.1.u.c v.1.u.d 4)]) (fun v=>[listO (v.1.es.map Ent.v) v.1.e]) (fun v=>v.1.n+355) (fun v=>v.1.t) (fun v=>(v.1.news.map Ent.pair).reverse):=by
 refine CutOk.of_pk MB hB hD.lo (by intro v p hp; simp only [List.mem_cons,List.not_mem_nil,or_false] at hp; rcases hp with rfl; dsimp only; omega) (fun _=>rfl) 544 0 ?_
 k_data
 let P₀:Rows→Pk (XX w r g d os) B D U S₀ []:=fun x₀=>(.a (cond x₀.a (d6 107 0x6166611d555dd1555515151333311111555515151333311111555515151333311111555515151333311111555515151111110331100) (d6 113 0x6166611d555dd1555515151333311111555515151333311111555515151333311111555515151333311111555515151515155111110331100)) (cond x₀.a (ix [S+355,N+355,N+359,N+361,N+357,N+358,N+356] 74 0x66114444444222555544444422255554444442225555444444222555544444431122210000) (ix [S+355,N+355,N+359,N+361,N+357,N+358,N+356] 78 0x661144444444444222555544444422255554444442225555444444222555544444431122210000)) 0 1 1 3 [1] [4,1] (rev_ok (hd:=none) (H:=S+355) (S:=N+362) (e:=es0) (n:=N+363) (t:=t+21) (ta:=t+20) (vs:=ss) (by omega)) fun _=>(.a [17,17] [N+355,N+355] 800 129 1 3 [0,1] [1,3,0,2] (bw_loop3 (F0:=N) (C:=N+1) (T:=T) (dT:=dT) (H:=H) (S:=S) (Vd:=N+3) (P:=N+8) (ep:=4) (lp:=0) (h1:=kh w r ⟨#[115,116,97,114,116,115]⟩) (h2:=kh w r ⟨#[118,105,115,105,116,115]⟩) (h3:=kh w r ⟨#[112,108,97,99,101,115]⟩) (k1:=k1) (u1:=t) (u2:=t+18) (u3:=t+21) (s1:=s1) (es:=es) (ps:=ss.reverse) (ia:=0) (ib:=0) (ic:=0) (id:=0) (ua:=t+4) (ub:=t+8) (uc:=t+12) (ud:=t+16) (pe:=3) (e:=e) (N:=N+9) (t:=t+22) (ch:=cH w r) (kt:=cT2 t) (by omega) MB1 hB1 hes hg (fun h b=>hpr h b.1) (by omega) (fun v hv=>hss v (by simpa using hv)) (by simp; omega) (by intro h; rw [List.reverse_eq_nil_iff] at h; rw [h] at h0; simp at h0)) fun v1=>(.k [17] [N+355] (r':=(.ok (.ret (.ref (N+358))))) (l':=[((N+358),dictO [dE (kh w r ⟨#[97]⟩) ⟨#[97]⟩ (t+2) (.int v1.1.k.a v1.1.u.a),dE (kh w r ⟨#[98]⟩) ⟨#[98]⟩ (t+6) (.int v1.1.k.b v1.1.u.b),dE (kh w r ⟨#[99]⟩) ⟨#[99]⟩ (t+10) (.int v1.1.k.c v1.1.u.c),dE (kh w r ⟨#[100]⟩) ⟨#[100]⟩ (t+14) (.int v1.1.k.d v1.1.u.d)] 4),((H+355),listO (List.map Ent.v v1.1.es) v1.1.e)]) (m':=(v1.1.n+355)) (k':=v1.1.t) (z':=([]++((List.map Ent.pair v1.1.news).reverse++[]))) ⟨⟨v1.1,by have h2:=v1.2.1; omega,v1.2.2.1,v1.2.2.2⟩,rfl,rfl,rfl,rfl,(by try dsimp only [S₀]; simp [S₀])⟩)))
 exact ⟨P₀,by intro ⟨x1,x2,x3,x4⟩; cases x1 <;> cases x2 <;> kernel_rfl⟩
end
section
noncomputable abbrev srtO (dS:Nat):Obj:=⟨.ref 311,some (dS+355),.plain,#[]⟩
noncomputable abbrev srtD (M:Nat) (h1 h2 h3 h4:Int) (u1 u2 u3 u4:Tok) (rd pa fi:Value):Obj:=⟨.type "dict",none,.dict ⟨[dE h1 (⟨#[95,110,111,100,101,50,105,110,102,111]⟩:Str) u1 (.ref (M+355)),dE h2 (⟨#[95,114,101,97,100,121,95,110,111,100,101,115]⟩:Str) u2 rd,dE h3 (⟨#[95,110,112,97,115,115,101,100,111,117,116]⟩:Str) u3 pa,dE h4 (⟨#[95,110,102,105,110,105,115,104,101,100]⟩:Str) u4 fi]⟩ 4,#[]⟩
noncomputable abbrev infO (d L:Nat) (x:Str) (tx:Tok) (np:Int) (tp:Tok):Obj:=⟨.ref 214,some (d+355),.plain,#[some (.str x tx),some (.int np tp),some (.ref (L+355))]⟩
variable {N t:Nat}
include MB hB in
theorem srt_new (hD:Lim D U 70)  :
  CutOk (XX w r g d os) B D U (.call (.ref 311) ⟨[],[]⟩) none [] [] (N+355) (t) (Unit) (fun v=>.ok (.ret (.ref (N+356)))) (fun v=>[(N+358,dictO [] 0),(N+356,srtO N),(N+355,srtD (N+3) (kz w r (⟨#[95,110,111,100,101,50,105,110,102,111]⟩:Str)) (kz w r (⟨#[95,114,101,97,100,121,95,110,111,100,101,115]⟩:Str)) (kz w r (⟨#[95,110,112,97,115,115,101,100,111,117,116]⟩:Str)) (kz w r (⟨#[95,110,102,105,110,105,115,104,101,100]⟩:Str)) (t+3) (t+5) (t+8) (t+11) .none (.int 0 (t+6)) (.int 0 (t+9)))]) (fun v=>[]) (fun v=>N+359) (fun v=>t+12) (fun v=>[]):=by
 refine CutOk.of_pk MB hB hD.lo (by intro v p hp; simp only [List.mem_cons,List.not_mem_nil,or_false] at hp; rcases hp with rfl | rfl | rfl <;> (dsimp only at *; omega)) (fun _=>rfl) 13 0 ?_
 intro S₀
 let P₀:Rows→Pk (XX w r g d os) B D U S₀ []:=fun x₀=>(.f (d6 124 0x3777050005051051000537770500050510510005377705000505105100053777050005051051000531011110001000010100000000100000001000101000) (ix [N+357,N+355,N+356] 43 0x2200000222221110222221110222221110222221110) ())
 exact ⟨P₀,by intro x; kernel_rfl⟩
variable {S dS M:Nat} {h1 h2 h3 h4:Int} {u1 u2 u3 u4 xa:Tok} {v1 v2:Value}
include MB hB in
theorem add0_a (hD:Lim D U 70)  :
  CutOk (XX w r g d os) B D U (.call (.ref 261) ⟨[.ref (S+355),(.str (⟨#[97]⟩:Str) xa)],[]⟩) none [(M+355,dictO [] 0)] [(S+355,srtO dS),(dS+355,srtD M h1 h2 h3 h4 u1 u2 u3 u4 .none v1 v2)] (N+355) (t) (Unit) (fun v=>.ok (.ret .none)) (fun v=>[(N+361,listO [] 0),(N+359,infO (N+3) (N+6) ⟨#[97]⟩ xa 0 (t+22)),(N+358,dictO [] 0)]) (fun v=>[dictO [dE (kz w r ⟨#[97]⟩) ⟨#[97]⟩ xa (.ref (N+359))] 1]) (fun v=>N+365) (fun v=>t+24) (fun v=>[]):=by
 refine CutOk.of_pk MB hB hD.lo (by intro v p hp; simp only [List.mem_cons,List.not_mem_nil,or_false] at hp; rcases hp with rfl | rfl | rfl <;> (dsimp only at *; omega)) (fun _=>rfl) 1128 0 ?_
 intro S₀
 let P₀:Rows→Pk (XX w r g d os) B D U S₀ []:=fun x₀=>(.f (d6 351 0x1111f111111111d1ddb505001000500101000005051051000511d1d1d11b0050500100050010100000000510005bbb999ffff11f1f1ff94022000210002950500100050010100000505105100053303001000300101000003031031000313030010003001010000030310310003111011110010000101000000000000010000000100010100010010117111711777740220002100021101111001014200002000200021402200021000211011111100) (ix [N+364,N+362,N+355,N+356,N+359,N+357,M+355,dS+355,S+355,N+360] 120 0x333333388887388887355555888876666566555449999994444444944444449444444458888756666666655533344444322244444443222111112110) ())
 exact ⟨P₀,by intro ⟨x1,x2,x3,x4⟩; cases x2 <;> kernel_rfl⟩
variable {Ia:Nat} {ha:Int} {ta xb:Tok}
include MB hB in
theorem add0_b (hD:Lim D U 70)  :
  CutOk (XX w r g d os) B D U (.call (.ref 261) ⟨[.ref (S+355),(.str (⟨#[98]⟩:Str) xb)],[]⟩) none [(M+355,dictO [dE ha ⟨#[97]⟩ ta (.ref (Ia+355))] 1)] [(S+355,srtO dS),(dS+355,srtD M h1 h2 h3 h4 u1 u2 u3 u4 .none v1 v2)] (N+355) (t) (Unit) (fun v=>.ok (.ret .none)) (fun v=>[(N+361,listO [] 0),(N+359,infO (N+3) (N+6) ⟨#[98]⟩ xb 0 (t+22)),(N+358,dictO [] 0)]) (fun v=>[dictO [dE ha ⟨#[97]⟩ ta (.ref (Ia+355)),dE (kz w r ⟨#[98]⟩) ⟨#[98]⟩ xb (.ref (N+359))] 2]) (fun v=>N+365) (fun v=>t+24) (fun v=>[]):=by
 refine CutOk.of_pk MB hB hD.lo (by intro v p hp; simp only [List.mem_cons,List.not_mem_nil,or_false] at hp; rcases hp with rfl | rfl | rfl <;> (dsimp only at *; omega)) (fun _=>rfl) 1128 0 ?_
 intro S₀
 let P₀:Rows→Pk (XX w r g d os) B D U S₀ []:=fun x₀=>(.f (d6 351 0x1111f111111111d1ddb505001000500101000005051051000511d1d1d11b0050500100050010100000000510005bbb999ffff11f1f1ff94022000210002950500100050010100000505105100053303001000300101000003031031000313030010003001010000030310310003111011110010000101000000000000010000000100010100010010117111711777740220002100021101111001014200002000200021402200021000211011111100) (ix [N+364,N+362,N+355,N+356,N+359,N+357,M+355,dS+355,S+355,N+360] 120 0x333333388887388887355555888876666566555449999994444444944444449444444458888756666666655533344444322244444443222111112110) ())
 exact ⟨P₀,by intro ⟨x1,x2,x3,x4⟩; cases x2 <;> kernel_rfl⟩
variable {Ib:Nat} {hb:Int} {tb xc:Tok}
include MB hB in
theorem add0_c (hD:Lim D U 70)  :
  CutOk (XX w r g d os) B D U (.call (.ref 261) ⟨[.ref (S+355),(.str (⟨#[99]⟩:Str) xc)],[]⟩) none [(M+355,dictO [dE ha ⟨#[97]⟩ ta (.ref (Ia+355)),dE hb ⟨#[98]⟩ tb (.ref (Ib+355))] 2)] [(S+355,srtO dS),(dS+355,srtD M h1 h2 h3 h4 u1 u2 u3 u4 .none v1 v2)] (N+355) (t) (Unit) (fun v=>.ok (.ret .none)) (fun v=>[(N+361,listO [] 0),(N+359,infO (N+3) (N+6) ⟨#[99]⟩ xc 0 (t+22)),(N+358,dictO [] 0)]) (fun v=>[dictO [dE ha ⟨#[97]⟩ ta (.ref (Ia+355)),dE hb ⟨#[98]⟩ tb (.ref (Ib+355)),dE (kz w r ⟨#[99]⟩) ⟨#[99]⟩ xc (.ref (N+359))] 3]) (fun v=>N+365) (fun v=>t+24) (fun v=>[]):=by
 refine CutOk.of_pk MB hB hD.lo (by intro v p hp; simp only [List.mem_cons,List.not_mem_nil,or_false] at hp; rcases hp with rfl | rfl | rfl <;> (dsimp only at *; omega)) (fun _=>rfl) 1128 0 ?_
 intro S₀
 let P₀:Rows→Pk (XX w r g d os) B D U S₀ []:=fun x₀=>(.f (d6 351 0x1111f111111111d1ddb505001000500101000005051051000511d1d1d11b0050500100050010100000000510005bbb999ffff11f1f1ff94022000210002950500100050010100000505105100053303001000300101000003031031000313030010003001010000030310310003111011110010000101000000000000010000000100010100010010117111711777740220002100021101111001014200002000200021402200021000211011111100) (ix [N+364,N+362,N+355,N+356,N+359,N+357,M+355,dS+355,S+355,N+360] 120 0x333333388887388887355555888876666566555449999994444444944444449444444458888756666666655533344444322244444443222111112110) ())
 exact ⟨P₀,by intro ⟨x1,x2,x3,x4⟩; cases x2 <;> kernel_rfl⟩
variable {Ic:Nat} {hc:Int} {tc xd:Tok}
include MB hB in
theorem add0_d (hD:Lim D U 70)  :
  CutOk (XX w r g d os) B D U (.call (.ref 261) ⟨[.ref (S+355),(.str (⟨#[100]⟩:Str) xd)],[]⟩) none [(M+355,dictO [dE ha ⟨#[97]⟩ ta (.ref (Ia+355)),dE hb ⟨#[98]⟩ tb (.ref (Ib+355)),dE hc ⟨#[99]⟩ tc (.ref (Ic+355))] 3)] [(S+355,srtO dS),(dS+355,srtD M h1 h2 h3 h4 u1 u2 u3 u4 .none v1 v2)] (N+355) (t) (Unit) (fun v=>.ok (.ret .none)) (fun v=>[(N+361,listO [] 0),(N+359,infO (N+3) (N+6) ⟨#[100]⟩ xd 0 (t+22)),(N+358,dictO [] 0)]) (fun v=>[dictO [dE ha ⟨#[97]⟩ ta (.ref (Ia+355)),dE hb ⟨#[98]⟩ tb (.ref (Ib+355)),dE hc ⟨#[99]⟩ tc (.ref (Ic+355)),dE (kz w r ⟨#[100]⟩) ⟨#[100]⟩ xd (.ref (N+359))] 4]) (fun v=>N+365) (fun v=>t+24) (fun v=>[]):=by
 refine CutOk.of_pk MB hB hD.lo (by intro v p hp; simp only [List.mem_cons,List.not_mem_nil,or_false] at hp; rcases hp with rfl | rfl | rfl <;> (dsimp only at *; omega)) (fun _=>rfl) 1128 0 ?_
 intro S₀
 let P₀:Rows→Pk (XX w r g d os) B D U S₀ []:=fun x₀=>(.f (d6 351 0x1111f111111111d1ddb505001000500101000005051051000511d1d1d11b0050500100050010100000000510005bbb999ffff11f1f1ff94022000210002950500100050010100000505105100053303001000300101000003031031000313030010003001010000030310310003111011110010000101000000000000010000000100010100010010117111711777740220002100021101111001014200002000200021402200021000211011111100) (ix [N+364,N+362,N+355,N+356,N+359,N+357,M+355,dS+355,S+355,N+360] 120 0x333333388887388887355555888876666566555449999994444444944444449444444458888756666666655533344444322244444443222111112110) ())
 exact ⟨P₀,by intro ⟨x1,x2,x3,x4⟩; cases x2 <;> kernel_rfl⟩
noncomputable abbrev A_3 (ha:Int) (ta:Tok) (Ia:Nat) (hb:Int) (tb:Tok) (Ib:Nat) (hc:Int) (tc:Tok) (Ic:Nat) (hd1:Int) (td:Tok) (Id:Nat):List DictEntry:=[dE ha ⟨#[97]⟩ ta (.ref (Ia+355)),dE hb ⟨#[98]⟩ tb (.ref (Ib+355)),dE hc ⟨#[99]⟩ tc (.ref (Ic+355)),dE hd1 ⟨#[100]⟩ td (.ref (Id+355))]
variable {Id La Lb da db eb:Nat} {hd1:Int} {u5 u6 td pa pb:Tok} {na nb:Int} {lb:List Value}
include MB hB in
theorem add1_ab (hD:Lim D U 70) (hl:lb.length≤900) :
  CutOk (XX w r g d os) B D U (.call (.ref 261) ⟨[.ref (S+355),.str ⟨#[97]⟩ u5,.str ⟨#[98]⟩ u6],[]⟩) none [(Lb+355,listO lb eb),(Ia+355,infO da La ⟨#[97]⟩ xa na pa)] [(S+355,srtO dS),(dS+355,srtD M h1 h2 h3 h4 u1 u2 u3 u4 .none v1 v2),(M+355,dictO (A_3 ha ta Ia hb tb Ib hc tc Ic hd1 td Id) 4),(Ib+355,infO db Lb ⟨#[98]⟩ xb nb pb),(da+355,dictO [] 0),(db+355,dictO [] 0)] (N+355) (t) ({v:Pl // N≤v.n}) (fun v=>.ok (.ret .none)) (fun v=>[]) (fun v=>[listO (lb++[.str ⟨#[97]⟩ u5]) (eb+1),infO da La ⟨#[97]⟩ xa (na+1) v.1.e]) (fun v=>v.1.n+355) (fun v=>v.1.t) (fun v=>[]):=by
 refine .of_q MB hB hD.lo 384 0 ?_
 intro S₀
 let P₀:Rows→Pk (XX w r g d os) B D U S₀ []:=fun x₀=>(.a (d6 72 0x611666640220002100021101111001014200002000200021402200021000211011111100) (ix [M+355,N+357,dS+355,S+355,N+356] 35 0x44444443333243333241111133332000010) 0 0 2 6 [] [4] (dgetm_ok (hd:=none) (n:=N+358) (t:=t+7) (H:=M+355) (es:=(A_3 ha ta Ia hb tb Ib hc tc Ic hd1 td Id)) (ep:=4) (k:=⟨#[97]⟩) (tk:=u5) rfl rfl) fun _=>(.a (d6 145 0x6116666402200021000211011110010542000020002000255511711111111151553909001000900101000009091091000911515151130090900100090010100000000910009333111) (ix [M+355,N+359,dS+355,S+355,N+356,N+358,N+355,Ia+355,N+357] 59 0x88844477777466677777774666555556554443333241111133332000010) 0 0 2 6 [] [4] (dgetm_ok (hd:=none) (n:=N+360) (t:=t+19) (H:=M+355) (es:=(A_3 ha ta Ia hb tb Ib hc tc Ic hd1 td Id)) (ep:=4) (k:=⟨#[98]⟩) (tk:=u6) rfl rfl) fun _=>(.a (d6 42 0xb17bbbb80800100080010100000000810008777111) (ix [Lb+355,N+356,Ib+355,N+359] 17 0x33311122222000010) 32 0 1 3 [] [] (append_ok (hd:=none) (H:=Lb+355) (e:=eb) (n:=N+360) (t:=t+23) (vs:=lb) (x:=.str ⟨#[97]⟩ u5) (by omega)) fun _=>(.f (d6 12 0x113393313131) (ix [N+361,N+358,N+355] 8 0x11112110) ⟨⟨t+13,N+7,t+23⟩,by show N≤N+7; omega⟩))))
 exact ⟨P₀,by intro ⟨x1,x2,x3,x4⟩; cases x2 <;> kernel_rfl⟩
variable {Lc dc ec:Nat} {pc:Tok} {nc:Int} {lc:List Value}
include MB hB in
theorem add1_ac (hD:Lim D U 70) (hl:lc.length≤900) :
  CutOk (XX w r g d os) B D U (.call (.ref 261) ⟨[.ref (S+355),.str ⟨#[97]⟩ u5,.str ⟨#[99]⟩ u6],[]⟩) none [(Lc+355,listO lc ec),(Ia+355,infO da La ⟨#[97]⟩ xa na pa)] [(S+355,srtO dS),(dS+355,srtD M h1 h2 h3 h4 u1 u2 u3 u4 .none v1 v2),(M+355,dictO (A_3 ha ta Ia hb tb Ib hc tc Ic hd1 td Id) 4),(Ic+355,infO dc Lc ⟨#[99]⟩ xc nc pc),(da+355,dictO [] 0),(dc+355,dictO [] 0)] (N+355) (t) ({v:Pl // N≤v.n}) (fun v=>.ok (.ret .none)) (fun v=>[]) (fun v=>[listO (lc++[.str ⟨#[97]⟩ u5]) (ec+1),infO da La ⟨#[97]⟩ xa (na+1) v.1.e]) (fun v=>v.1.n+355) (fun v=>v.1.t) (fun v=>[]):=by
 refine .of_q MB hB hD.lo 384 0 ?_
 intro S₀
 let P₀:Rows→Pk (XX w r g d os) B D U S₀ []:=fun x₀=>(.a (d6 72 0x611666640220002100021101111001014200002000200021402200021000211011111100) (ix [M+355,N+357,dS+355,S+355,N+356] 35 0x44444443333243333241111133332000010) 0 0 2 6 [] [4] (dgetm_ok (hd:=none) (n:=N+358) (t:=t+7) (H:=M+355) (es:=(A_3 ha ta Ia hb tb Ib hc tc Ic hd1 td Id)) (ep:=4) (k:=⟨#[97]⟩) (tk:=u5) rfl rfl) fun _=>(.a (d6 145 0x6116666402200021000211011110010542000020002000255511711111111151553909001000900101000009091091000911515151130090900100090010100000000910009333111) (ix [M+355,N+359,dS+355,S+355,N+356,N+358,N+355,Ia+355,N+357] 59 0x88844477777466677777774666555556554443333241111133332000010) 0 0 2 6 [] [4] (dgetm_ok (hd:=none) (n:=N+360) (t:=t+19) (H:=M+355) (es:=(A_3 ha ta Ia hb tb Ib hc tc Ic hd1 td Id)) (ep:=4) (k:=⟨#[99]⟩) (tk:=u6) rfl rfl) fun _=>(.a (d6 42 0xb17bbbb80800100080010100000000810008777111) (ix [Lc+355,N+356,Ic+355,N+359] 17 0x33311122222000010) 32 0 1 3 [] [] (append_ok (hd:=none) (H:=Lc+355) (e:=ec) (n:=N+360) (t:=t+23) (vs:=lc) (x:=.str ⟨#[97]⟩ u5) (by omega)) fun _=>(.f (d6 12 0x113393313131) (ix [N+361,N+358,N+355] 8 0x11112110) ⟨⟨t+13,N+7,t+23⟩,by show N≤N+7; omega⟩))))
 exact ⟨P₀,by intro ⟨x1,x2,x3,x4⟩; cases x2 <;> kernel_rfl⟩
include MB hB in
theorem add1_bc (hD:Lim D U 70) (hl:lc.length≤900) :
  CutOk (XX w r g d os) B D U (.call (.ref 261) ⟨[.ref (S+355),.str ⟨#[98]⟩ u5,.str ⟨#[99]⟩ u6],[]⟩) none [(Lc+355,listO lc ec),(Ib+355,infO db Lb ⟨#[98]⟩ xb nb pb)] [(S+355,srtO dS),(dS+355,srtD M h1 h2 h3 h4 u1 u2 u3 u4 .none v1 v2),(M+355,dictO (A_3 ha ta Ia hb tb Ib hc tc Ic hd1 td Id) 4),(Ic+355,infO dc Lc ⟨#[99]⟩ xc nc pc),(db+355,dictO [] 0),(dc+355,dictO [] 0)] (N+355) (t) ({v:Pl // N≤v.n}) (fun v=>.ok (.ret .none)) (fun v=>[]) (fun v=>[listO (lc++[.str ⟨#[98]⟩ u5]) (ec+1),infO db Lb ⟨#[98]⟩ xb (nb+1) v.1.e]) (fun v=>v.1.n+355) (fun v=>v.1.t) (fun v=>[]):=by
 refine .of_q MB hB hD.lo 384 0 ?_
 intro S₀
 let P₀:Rows→Pk (XX w r g d os) B D U S₀ []:=fun x₀=>(.a (d6 72 0x611666640220002100021101111001014200002000200021402200021000211011111100) (ix [M+355,N+357,dS+355,S+355,N+356] 35 0x44444443333243333241111133332000010) 0 0 2 6 [] [4] (dgetm_ok (hd:=none) (n:=N+358) (t:=t+7) (H:=M+355) (es:=(A_3 ha ta Ia hb tb Ib hc tc Ic hd1 td Id)) (ep:=4) (k:=⟨#[98]⟩) (tk:=u5) rfl rfl) fun _=>(.a (d6 145 0x6116666402200021000211011110010542000020002000255511711111111151553909001000900101000009091091000911515151130090900100090010100000000910009333111) (ix [M+355,N+359,dS+355,S+355,N+356,N+358,N+355,Ib+355,N+357] 59 0x88844477777466677777774666555556554443333241111133332000010) 0 0 2 6 [] [4] (dgetm_ok (hd:=none) (n:=N+360) (t:=t+19) (H:=M+355) (es:=(A_3 ha ta Ia hb tb Ib hc tc Ic hd1 td Id)) (ep:=4) (k:=⟨#[99]⟩) (tk:=u6) rfl rfl) fun _=>(.a (d6 42 0xb17bbbb80800100080010100000000810008777111) (ix [Lc+355,N+356,Ic+355,N+359] 17 0x33311122222000010) 32 0 1 3 [] [] (append_ok (hd:=none) (H:=Lc+355) (e:=ec) (n:=N+360) (t:=t+23) (vs:=lc) (x:=.str ⟨#[98]⟩ u5) (by omega)) fun _=>(.f (d6 12 0x113393313131) (ix [N+361,N+358,N+355] 8 0x11112110) ⟨⟨t+13,N+7,t+23⟩,by show N≤N+7; omega⟩))))
 exact ⟨P₀,by intro ⟨x1,x2,x3,x4⟩; cases x2 <;> kernel_rfl⟩
variable {Ld dd ed:Nat} {pd:Tok} {nd:Int} {ld:List Value}
include MB hB in
theorem add1_ad (hD:Lim D U 70) (hl:ld.length≤900) :
  CutOk (XX w r g d os) B D U (.call (.ref 261) ⟨[.ref (S+355),.str ⟨#[97]⟩ u5,.str ⟨#[100]⟩ u6],[]⟩) none [(Ld+355,listO ld ed),(Ia+355,infO da La ⟨#[97]⟩ xa na pa)] [(S+355,srtO dS),(dS+355,srtD M h1 h2 h3 h4 u1 u2 u3 u4 .none v1 v2),(M+355,dictO (A_3 ha ta Ia hb tb Ib hc tc Ic hd1 td Id) 4),(Id+355,infO dd Ld ⟨#[100]⟩ xd nd pd),(da+355,dictO [] 0),(dd+355,dictO [] 0)] (N+355) (t) ({v:Pl // N≤v.n}) (fun v=>.ok (.ret .none)) (fun v=>[]) (fun v=>[listO (ld++[.str ⟨#[97]⟩ u5]) (ed+1),infO da La ⟨#[97]⟩ xa (na+1) v.1.e]) (fun v=>v.1.n+355) (fun v=>v.1.t) (fun v=>[]):=by
 refine .of_q MB hB hD.lo 384 0 ?_
 intro S₀
 let P₀:Rows→Pk (XX w r g d os) B D U S₀ []:=fun x₀=>(.a (d6 72 0x611666640220002100021101111001014200002000200021402200021000211011111100) (ix [M+355,N+357,dS+355,S+355,N+356] 35 0x44444443333243333241111133332000010) 0 0 2 6 [] [4] (dgetm_ok (hd:=none) (n:=N+358) (t:=t+7) (H:=M+355) (es:=(A_3 ha ta Ia hb tb Ib hc tc Ic hd1 td Id)) (ep:=4) (k:=⟨#[97]⟩) (tk:=u5) rfl rfl) fun _=>(.a (d6 145 0x6116666402200021000211011110010542000020002000255511711111111151553909001000900101000009091091000911515151130090900100090010100000000910009333111) (ix [M+355,N+359,dS+355,S+355,N+356,N+358,N+355,Ia+355,N+357] 59 0x88844477777466677777774666555556554443333241111133332000010) 0 0 2 6 [] [4] (dgetm_ok (hd:=none) (n:=N+360) (t:=t+19) (H:=M+355) (es:=(A_3 ha ta Ia hb tb Ib hc tc Ic hd1 td Id)) (ep:=4) (k:=⟨#[100]⟩) (tk:=u6) rfl rfl) fun _=>(.a (d6 42 0xb17bbbb80800100080010100000000810008777111) (ix [Ld+355,N+356,Id+355,N+359] 17 0x33311122222000010) 32 0 1 3 [] [] (append_ok (hd:=none) (H:=Ld+355) (e:=ed) (n:=N+360) (t:=t+23) (vs:=ld) (x:=.str ⟨#[97]⟩ u5) (by omega)) fun _=>(.f (d6 12 0x113393313131) (ix [N+361,N+358,N+355] 8 0x11112110) ⟨⟨t+13,N+7,t+23⟩,by show N≤N+7; omega⟩))))
 exact ⟨P₀,by intro ⟨x1,x2,x3,x4⟩; cases x2 <;> kernel_rfl⟩
include MB hB in
theorem add1_bd (hD:Lim D U 70) (hl:ld.length≤900) :
  CutOk (XX w r g d os) B D U (.call (.ref 261) ⟨[.ref (S+355),.str ⟨#[98]⟩ u5,.str ⟨#[100]⟩ u6],[]⟩) none [(Ld+355,listO ld ed),(Ib+355,infO db Lb ⟨#[98]⟩ xb nb pb)] [(S+355,srtO dS),(dS+355,srtD M h1 h2 h3 h4 u1 u2 u3 u4 .none v1 v2),(M+355,dictO (A_3 ha ta Ia hb tb Ib hc tc Ic hd1 td Id) 4),(Id+355,infO dd Ld ⟨#[100]⟩ xd nd pd),(db+355,dictO [] 0),(dd+355,dictO [] 0)] (N+355) (t) ({v:Pl // N≤v.n}) (fun v=>.ok (.ret .none)) (fun v=>[]) (fun v=>[listO (ld++[.str ⟨#[98]⟩ u5]) (ed+1),infO db Lb ⟨#[98]⟩ xb (nb+1) v.1.e]) (fun v=>v.1.n+355) (fun v=>v.1.t) (fun v=>[]):=by
 refine .of_q MB hB hD.lo 384 0 ?_
 intro S₀
 let P₀:Rows→Pk (XX w r g d os) B D U S₀ []:=fun x₀=>(.a (d6 72 0x611666640220002100021101111001014200002000200021402200021000211011111100) (ix [M+355,N+357,dS+355,S+355,N+356] 35 0x44444443333243333241111133332000010) 0 0 2 6 [] [4] (dgetm_ok (hd:=none) (n:=N+358) (t:=t+7) (H:=M+355) (es:=(A_3 ha ta Ia hb tb Ib hc tc Ic hd1 td Id)) (ep:=4) (k:=⟨#[98]⟩) (tk:=u5) rfl rfl) fun _=>(.a (d6 145 0x6116666402200021000211011110010542000020002000255511711111111151553909001000900101000009091091000911515151130090900100090010100000000910009333111) (ix [M+355,N+359,dS+355,S+355,N+356,N+358,N+355,Ib+355,N+357] 59 0x88844477777466677777774666555556554443333241111133332000010) 0 0 2 6 [] [4] (dgetm_ok (hd:=none) (n:=N+360) (t:=t+19) (H:=M+355) (es:=(A_3 ha ta Ia hb tb Ib hc tc Ic hd1 td Id)) (ep:=4) (k:=⟨#[100]⟩) (tk:=u6) rfl rfl) fun _=>(.a (d6 42 0xb17bbbb80800100080010100000000810008777111) (ix [Ld+355,N+356,Id+355,N+359] 17 0x33311122222000010) 32 0 1 3 [] [] (append_ok (hd:=none) (H:=Ld+355) (e:=ed) (n:=N+360) (t:=t+23) (vs:=ld) (x:=.str ⟨#[98]⟩ u5) (by omega)) fun _=>(.f (d6 12 0x113393313131) (ix [N+361,N+358,N+355] 8 0x11112110) ⟨⟨t+13,N+7,t+23⟩,by show N≤N+7; omega⟩))))
 exact ⟨P₀,by intro ⟨x1,x2,x3,x4⟩; cases x2 <;> kernel_rfl⟩
include MB hB in
theorem add1_cd (hD:Lim D U 70) (hl:ld.length≤900) :
  CutOk (XX w r g d os) B D U (.call (.ref 261) ⟨[.ref (S+355),.str ⟨#[99]⟩ u5,.str ⟨#[100]⟩ u6],[]⟩) none [(Ld+355,listO ld ed),(Ic+355,infO dc Lc ⟨#[99]⟩ xc nc pc)] [(S+355,srtO dS),(dS+355,srtD M h1 h2 h3 h4 u1 u2 u3 u4 .none v1 v2),(M+355,dictO (A_3 ha ta Ia hb tb Ib hc tc Ic hd1 td Id) 4),(Id+355,infO dd Ld ⟨#[100]⟩ xd nd pd),(dc+355,dictO [] 0),(dd+355,dictO [] 0)] (N+355) (t) ({v:Pl // N≤v.n}) (fun v=>.ok (.ret .none)) (fun v=>[]) (fun v=>[listO (ld++[.str ⟨#[99]⟩ u5]) (ed+1),infO dc Lc ⟨#[99]⟩ xc (nc+1) v.1.e]) (fun v=>v.1.n+355) (fun v=>v.1.t) (fun v=>[]):=by
 refine .of_q MB hB hD.lo 384 0 ?_
 intro S₀
 let P₀:Rows→Pk (XX w r g d os) B D U S₀ []:=fun x₀=>(.a (d6 72 0x611666640220002100021101111001014200002000200021402200021000211011111100) (ix [M+355,N+357,dS+355,S+355,N+356] 35 0x44444443333243333241111133332000010) 0 0 2 6 [] [4] (dgetm_ok (hd:=none) (n:=N+358) (t:=t+7) (H:=M+355) (es:=(A_3 ha ta Ia hb tb Ib hc tc Ic hd1 td Id)) (ep:=4) (k:=⟨#[99]⟩) (tk:=u5) rfl rfl) fun _=>(.a (d6 145 0x6116666402200021000211011110010542000020002000255511711111111151553909001000900101000009091091000911515151130090900100090010100000000910009333111) (ix [M+355,N+359,dS+355,S+355,N+356,N+358,N+355,Ic+355,N+357] 59 0x88844477777466677777774666555556554443333241111133332000010) 0 0 2 6 [] [4] (dgetm_ok (hd:=none) (n:=N+360) (t:=t+19) (H:=M+355) (es:=(A_3 ha ta Ia hb tb Ib hc tc Ic hd1 td Id)) (ep:=4) (k:=⟨#[100]⟩) (tk:=u6) rfl rfl) fun _=>(.a (d6 42 0xb17bbbb80800100080010100000000810008777111) (ix [Ld+355,N+356,Id+355,N+359] 17 0x33311122222000010) 32 0 1 3 [] [] (append_ok (hd:=none) (H:=Ld+355) (e:=ed) (n:=N+360) (t:=t+23) (vs:=ld) (x:=.str ⟨#[99]⟩ u5) (by omega)) fun _=>(.f (d6 12 0x113393313131) (ix [N+361,N+358,N+355] 8 0x11112110) ⟨⟨t+13,N+7,t+23⟩,by show N≤N+7; omega⟩))))
 exact ⟨P₀,by intro ⟨x1,x2,x3,x4⟩; cases x2 <;> kernel_rfl⟩
end
section
noncomputable abbrev faCode (w:World) (r:Rows) (I F0 C1 C2:Nat):Code:=.forLoop (forT (nthS (fnBody (KF (pr w r)) 327) 2)) (.ref (I+355)) (forB (nthS (fnBody (KF (pr w r)) 327) 2)) (forO (nthS (fnBody (KF (pr w r)) 327) 2)) { scope:=fnScope (KF (pr w r)) 327,locals:=F0+355,globals:=3,cells:=[((⟨#[115,116,97,114,116,115]⟩:Str),C2+355),((⟨#[116,97,98,108,101]⟩:Str),C1+355)],qual:=(⟨#[95,108,97,119,95,102,108,111,119,46,60,108,111,99,97,108,115,62,46]⟩:Str),func:=some 327,code:=.ref 326,frame:=some (F0+355),builtins:=0 }
noncomputable abbrev fl2 (S:Nat) (h1 h2:Int) (u1 u2:Tok) (lt:Value):List DictEntry:=[dE h1 (⟨#[115,111,114,116,101,114]⟩:Str) u1 (.ref (S+355)),dE h2 (⟨#[108,101,116,116,101,114]⟩:Str) u2 lt]
noncomputable abbrev fl4 (S:Nat) (h1 h2 h3 h4:Int) (u1 u2 u3 u4:Tok) (lt le co:Value):List DictEntry:=[dE h1 (⟨#[115,111,114,116,101,114]⟩:Str) u1 (.ref (S+355)),dE h2 (⟨#[108,101,116,116,101,114]⟩:Str) u2 lt,dE h3 (⟨#[108,101,97,118,101,115]⟩:Str) u3 le,dE h4 (⟨#[99,111,109,101,115]⟩:Str) u4 co]
noncomputable def nOf (q:Str) (es:List Ent):Int:=((es.filter fun e=>decide (sOf e.x = q)).length:Int)
structure FaV where
 eb:Nat
 ec:Nat
 ed:Nat
 pa:Tok
 pb:Tok
 pc:Tok
 fh:Int
 fg:Int
 fu:Tok
 fv:Tok
 fx:Value
 fy:Value
 fe:Nat
 i:Nat
 n:Nat
 t:Nat
include MB hB in
theorem lower_is (hD:Lim D U 50) {k q:Str} (hk:Arg k) (hq:low k = q) {tk:Tok} {n t:Nat} :
  CutOk (XX w r g d os) B D U (.builtin "str.lower" ⟨[.str k tk],[]⟩) none [] [] n t Unit (fun _=>.ok (.ret (.str q t))) (fun _=>[]) (fun _=>[]) (fun _=>n) (fun _=>t+1) (fun _=>[]):=by
 subst hq
 exact lower_ok MB hB hD hk
theorem hits_cons {q:Str} {x:Ent} {l:List Ent}:hits q (x :: l) = if low x.k = q then x.x :: hits q l else hits q l:=by
 unfold hits
 by_cases h:low x.k = q <;> simp [h]
theorem nOf_cons {q:Str} {x:Ent} {l:List Ent}:nOf q (x :: l) = (if sOf x.x = q then 1 else 0) + nOf q l:=by
 unfold nOf
 by_cases h:sOf x.x = q <;> simp [h] <;> omega
noncomputable abbrev A_1 (N0:Nat) (es:List Ent) (i:Nat) (rb rc rd:List Value) (ma mb mc:Int) (lb lc ld:List Value) (w:World) (r:Rows) (g:Array GenState) (d:Drawn) (os:OsState) (B:Heap→Prop) (D U I F0 C1 C2 G Ld Lc Ic dc:Nat) (xc:Tok) (Lb Ib db:Nat) (xb:Tok) (Ia da La:Nat) (xa:Tok) (S:Nat) (h1 h2:Int) (u1 u2:Tok) (lt:Value) (vs:List Value) (e dS M:Nat) (k1 k2 k3 k4:Int) (s1 s2 s3 s4:Tok) (v1 v2:Value) (ha:Int) (ta:Tok) (hb:Int) (tb:Tok) (hc:Int) (tc:Tok) (hd1:Int) (td:Tok) (Id dd:Nat) (xd:Tok) (nd:Int) (pd:Tok):Prop:=∀ (lb1 lc1 ld1:List Value) (eb1 ec1 ed1:Nat) (na1 nb1 nc1:Int) (pa1 pb1 pc1:Tok) (h31 h41:Int) (u31 u41:Tok) (le1 co1:Value) (pe1 N1 t1:Nat),N0≤N1→lb1++hits sb (es.drop (i+1)) = rb→lc1++hits sc (es.drop (i+1)) = rc→ld1++hits sd (es.drop (i+1)) = rd→na1 + nOf sa (es.drop (i+1)) = ma→nb1 + nOf sb (es.drop (i+1)) = mb→nc1 + nOf sc (es.drop (i+1)) = mc→lb1.length + lc1.length + ld1.length≤lb.length + lc.length + ld.length+1→CutOk (XX w r g d os) B D U (faCode w r I F0 C1 C2) none [(I+355,iterO (G+355) (i+1)),(Ld+355,listO ld1 ed1),(Lc+355,listO lc1 ec1),(Ic+355,infO dc Lc ⟨#[99]⟩ xc nc1 pc1),(Lb+355,listO lb1 eb1),(Ib+355,infO db Lb ⟨#[98]⟩ xb nb1 pb1),(Ia+355,infO da La ⟨#[97]⟩ xa na1 pa1),(F0+355,frO (fl4 S h1 h2 h31 h41 u1 u2 u31 u41 lt le1 co1) pe1)] [(G+355,listO vs e),(S+355,srtO dS),(dS+355,srtD M k1 k2 k3 k4 s1 s2 s3 s4 .none v1 v2),(M+355,dictO (A_3 ha ta Ia hb tb Ib hc tc Ic hd1 td Id) 4),(Id+355,infO dd Ld ⟨#[100]⟩ xd nd pd),(da+355,dictO [] 0),(db+355,dictO [] 0),(dc+355,dictO [] 0),(dd+355,dictO [] 0)] (N1+355) t1 ({v:FaV // N0≤v.n}) (fun _=>.ok .next) (fun _=>[]) (fun v=>[iterE v.1.i,listO rd v.1.ed,listO rc v.1.ec,infO dc Lc ⟨#[99]⟩ xc mc v.1.pc,listO rb v.1.eb,infO db Lb ⟨#[98]⟩ xb mb v.1.pb,infO da La ⟨#[97]⟩ xa ma v.1.pa,frO (fl4 S h1 h2 v.1.fh v.1.fg u1 u2 v.1.fu v.1.fv lt v.1.fx v.1.fy) v.1.fe]) (fun v=>v.1.n+355) (fun v=>v.1.t) (fun _=>[])
noncomputable abbrev A_7 (rd rc:List Value) (dc Lc:Nat) (xc:Tok) (mc:Int) (rb:List Value) (db Lb:Nat) (xb:Tok) (mb:Int) (da La:Nat) (xa:Tok) (ma:Int) (S:Nat) (h1 h2:Int) (u1 u2:Tok) (lt:Value) (χ:FaV):List Obj:=[iterE χ.i,listO rd χ.ed,listO rc χ.ec,infO dc Lc ⟨#[99]⟩ xc mc χ.pc,listO rb χ.eb,infO db Lb ⟨#[98]⟩ xb mb χ.pb,infO da La ⟨#[97]⟩ xa ma χ.pa,frO (fl4 S h1 h2 χ.fh χ.fg u1 u2 χ.fu χ.fv lt χ.fx χ.fy) χ.fe]
noncomputable abbrev A_19 (P:Nat) (k:Str) (tk ty:Tok) (G:Nat) (vs:List Value) (e S dS M:Nat) (k1 k2 k3 k4:Int) (s1 s2 s3 s4:Tok) (v1 v2:Value) (ha:Int) (ta:Tok) (Ia:Nat) (hb:Int) (tb:Tok) (Ib:Nat) (hc:Int) (tc:Tok) (Ic:Nat) (hd1:Int) (td:Tok) (Id dd Ld:Nat) (xd:Tok) (nd:Int) (pd:Tok) (da db dc:Nat):List (Addr × Obj):=[(P+355,tupO [.str k tk,.str ⟨#[97]⟩ ty]),(G+355,listO vs e),(S+355,srtO dS),(dS+355,srtD M k1 k2 k3 k4 s1 s2 s3 s4 .none v1 v2),(M+355,dictO (A_3 ha ta Ia hb tb Ib hc tc Ic hd1 td Id) 4),(Id+355,infO dd Ld ⟨#[100]⟩ xd nd pd),(da+355,dictO [] 0),(db+355,dictO [] 0),(dc+355,dictO [] 0),(dd+355,dictO [] 0)]
noncomputable abbrev A_21 (I G i Ld:Nat) (ld:List Value) (ed Lc:Nat) (lc:List Value) (ec Ic dc:Nat) (xc:Tok) (nc:Int) (pc:Tok) (Lb:Nat) (lb:List Value) (eb Ib db:Nat) (xb:Tok) (nb:Int) (pb:Tok) (Ia da La:Nat) (xa:Tok) (na:Int) (pa:Tok) (F0 S:Nat) (h1 h2:Int) (u1 u2:Tok) (lt:Value) (pe:Nat):List (Addr × Obj):=[(I+355,iterO (G+355) (i)),(Ld+355,listO ld ed),(Lc+355,listO lc ec),(Ic+355,infO dc Lc ⟨#[99]⟩ xc nc pc),(Lb+355,listO lb eb),(Ib+355,infO db Lb ⟨#[98]⟩ xb nb pb),(Ia+355,infO da La ⟨#[97]⟩ xa na pa),(F0+355,frO (fl2 S h1 h2 u1 u2 lt) pe)]
noncomputable abbrev A_29 (F0 dS S N P I:Nat):List Nat:=[F0+355,dS+355,S+355,N+357,N+355,P+355,I+355]
variable {I F0 C1 C2 S dS M G P N N0 t i e pe Ia Ib Ic Id La Lb Lc Ld da db dc dd eb ec ed:Nat} {h1 h2 k1 k2 k3 k4 ha hb hc hd1:Int} {u1 u2 s1 s2 s3 s4 ta tb tc td xa xb xc xd pa pb pc pd tk ty:Tok} {na nb nc nd ma mb mc:Int} {lb lc ld rb rc rd vs:List Value} {v1 v2 lt:Value} {k:Str} {es:List Ent} {x:Ent}
include MB hB in
theorem fa_0ab (hD:Lim D U 80) (hN:N0≤N) (hi:vs[i]? = some (.ref (P+355))) (hd:es.drop i = x :: es.drop (i+1)) (hk:Arg k) (hxk:x.k = k) (hlow:low x.k = sb) (hxx:x.x = .str sa ty) (e1:lb++hits sb (es.drop i) = rb) (e2:lc++hits sc (es.drop i) = rc) (e3:ld++hits sd (es.drop i) = rd) (e4:na + nOf sa (es.drop i) = ma) (e5:nb + nOf sb (es.drop i) = mb) (e6:nc + nOf sc (es.drop i) = mc) (e7:lb.length + lc.length + ld.length≤800) (IH:A_1 N0 es i rb rc rd ma mb mc lb lc ld w r g d os B D U I F0 C1 C2 G Ld Lc Ic dc xc Lb Ib db xb Ia da La xa S h1 h2 u1 u2 lt vs e dS M k1 k2 k3 k4 s1 s2 s3 s4 v1 v2 ha ta hb tb hc tc hd1 td Id dd xd nd pd) :
  CutOk (XX w r g d os) B D U (faCode w r I F0 C1 C2) none (A_21 I G i Ld ld ed Lc lc ec Ic dc xc nc pc Lb lb eb Ib db xb nb pb Ia da La xa na pa F0 S h1 h2 u1 u2 lt pe) (A_19 P k tk ty G vs e S dS M k1 k2 k3 k4 s1 s2 s3 s4 v1 v2 ha ta Ia hb tb Ib hc tc Ic hd1 td Id dd Ld xd nd pd da db dc) (N+355) (t) ({v:FaV // N0≤v.n}) (fun v=>.ok .next) (fun v=>[]) (fun v=>A_7 rd rc dc Lc xc mc rb db Lb xb mb da La xa ma S h1 h2 u1 u2 lt v.1) (fun v=>v.1.n+355) (fun v=>v.1.t) (fun v=>[]):=by
 refine .of_q MB hB hD.lo 2040 0 ?_
 k_data
 let P₀:Rows→Pk (XX w r g d os) B D U S₀ []:=fun x₀=>(.a [1,1,1] [I+355,I+355] 1 0 0 0 [] [2] (next_some (hd:=none) (I:=I+355) (H:=G+355) (i:=i) (e:=e) (n:=N+355) (t:=t) (vs:=vs) (v:=.ref (P+355)) hi) fun _=>(.a (d8 59 0x115150806000000000600000006000000061515151515010101020101010101010101020101010101010101020101010101010101020102020201) (ixL (A_29 F0 dS S N P I) (d6 40 0x6555544444544444454444445443000002222100)) 0 0 0 0 [] [] (lower_is (k:=k) (q:=⟨#[98]⟩) (tk:=tk) (n:=N+358) (t:=t+2) MB1 hB1 hD.up hk (hxk ▸ hlow)) fun _=>(.a [0] [] 640 256 0 0 [3] (d6 6 0xec1864) (add1_ab (S:=S) (dS:=dS) (M:=M) (N:=N+3) (t:=t+3) (Ia:=Ia) (Ib:=Ib) (Ic:=Ic) (Id:=Id) (La:=La) (Lb:=Lb) (da:=da) (db:=db) (eb:=eb) (h1:=k1) (h2:=k2) (h3:=k3) (h4:=k4) (ha:=ha) (hb:=hb) (hc:=hc) (hd1:=hd1) (u1:=s1) (u2:=s2) (u3:=s3) (u4:=s4) (u5:=ty) (u6:=t+2) (ta:=ta) (tb:=tb) (tc:=tc) (td:=td) (xa:=xa) (xb:=xb) (pa:=pa) (pb:=pb) (na:=na) (nb:=nb) (lb:=lb) (v1:=v1) (v2:=v2) MB1 hB1 hD.up (by omega)) fun v2=>(.o [] [] 2040 0 0 0 [] (d8 9 0x12100e0c0a08060402) (IH (lb1:=lb++[Value.str ⟨#[97]⟩ ty]) (lc1:=lc) (ld1:=ld) (eb1:=eb+1) (ec1:=ec) (ed1:=ed) (na1:=na+1) (nb1:=nb) (nc1:=nc) (pa1:=v2.1.e) (pb1:=pb) (pc1:=pc) (h31:=kh w r ⟨#[108,101,97,118,101,115]⟩) (h41:=kh w r ⟨#[99,111,109,101,115]⟩) (u31:=t) (u41:=t+1) (le1:=.str k tk) (co1:=.str ⟨#[97]⟩ ty) (pe1:=pe+2) (N1:=v2.1.n) (t1:=v2.1.t) (by have:=v2.2; omega) (by rw [hd] at e1; simp [hits_cons,hlow,hxx,ne_A] at e1; first | exact e1 | (rw [← e1,List.append_assoc]; rfl)) (by rw [hd] at e2; simp [hits_cons,hlow,hxx,ne_A] at e2; first | exact e2 | (rw [← e2,List.append_assoc]; rfl)) (by rw [hd] at e3; simp [hits_cons,hlow,hxx,ne_A] at e3; first | exact e3 | (rw [← e3,List.append_assoc]; rfl)) (by rw [hd] at e4; simp [nOf_cons,hxx,sOf,ne_B] at e4; omega) (by rw [hd] at e5; simp [nOf_cons,hxx,sOf,ne_B] at e5; omega) (by rw [hd] at e6; simp [nOf_cons,hxx,sOf,ne_B] at e6; omega) (by simp; omega)) fun v3=>(.e v3)))))
 exact ⟨P₀,by intro ⟨x1,x2,x3,x4⟩; cases x2 <;> kernel_rfl⟩
include MB hB in
theorem fa_0ac (hD:Lim D U 80) (hN:N0≤N) (hi:vs[i]? = some (.ref (P+355))) (hd:es.drop i = x :: es.drop (i+1)) (hk:Arg k) (hxk:x.k = k) (hlow:low x.k = sc) (hxx:x.x = .str sa ty) (e1:lb++hits sb (es.drop i) = rb) (e2:lc++hits sc (es.drop i) = rc) (e3:ld++hits sd (es.drop i) = rd) (e4:na + nOf sa (es.drop i) = ma) (e5:nb + nOf sb (es.drop i) = mb) (e6:nc + nOf sc (es.drop i) = mc) (e7:lb.length + lc.length + ld.length≤800) (IH:A_1 N0 es i rb rc rd ma mb mc lb lc ld w r g d os B D U I F0 C1 C2 G Ld Lc Ic dc xc Lb Ib db xb Ia da La xa S h1 h2 u1 u2 lt vs e dS M k1 k2 k3 k4 s1 s2 s3 s4 v1 v2 ha ta hb tb hc tc hd1 td Id dd xd nd pd) :
  CutOk (XX w r g d os) B D U (faCode w r I F0 C1 C2) none (A_21 I G i Ld ld ed Lc lc ec Ic dc xc nc pc Lb lb eb Ib db xb nb pb Ia da La xa na pa F0 S h1 h2 u1 u2 lt pe) (A_19 P k tk ty G vs e S dS M k1 k2 k3 k4 s1 s2 s3 s4 v1 v2 ha ta Ia hb tb Ib hc tc Ic hd1 td Id dd Ld xd nd pd da db dc) (N+355) (t) ({v:FaV // N0≤v.n}) (fun v=>.ok .next) (fun v=>[]) (fun v=>A_7 rd rc dc Lc xc mc rb db Lb xb mb da La xa ma S h1 h2 u1 u2 lt v.1) (fun v=>v.1.n+355) (fun v=>v.1.t) (fun v=>[]):=by
 refine .of_q MB hB hD.lo 2040 0 ?_
 k_data
 let P₀:Rows→Pk (XX w r g d os) B D U S₀ []:=fun x₀=>(.a [1,1,1] [I+355,I+355] 1 0 0 0 [] [2] (next_some (hd:=none) (I:=I+355) (H:=G+355) (i:=i) (e:=e) (n:=N+355) (t:=t) (vs:=vs) (v:=.ref (P+355)) hi) fun _=>(.a (d8 59 0x115150806000000000600000006000000061515151515010101020101010101010101020101010101010101020101010101010101020102020201) (ixL (A_29 F0 dS S N P I) (d6 40 0x6555544444544444454444445443000002222100)) 0 0 0 0 [] [] (lower_is (k:=k) (q:=⟨#[99]⟩) (tk:=tk) (n:=N+358) (t:=t+2) MB1 hB1 hD.up hk (hxk ▸ hlow)) fun _=>(.a [0] [] 544 64 0 0 [3] (d8 6 0x100c01080604) (add1_ac (S:=S) (dS:=dS) (M:=M) (N:=N+3) (t:=t+3) (Ia:=Ia) (Ib:=Ib) (Ic:=Ic) (Id:=Id) (La:=La) (Lc:=Lc) (da:=da) (dc:=dc) (ec:=ec) (h1:=k1) (h2:=k2) (h3:=k3) (h4:=k4) (ha:=ha) (hb:=hb) (hc:=hc) (hd1:=hd1) (u1:=s1) (u2:=s2) (u3:=s3) (u4:=s4) (u5:=ty) (u6:=t+2) (ta:=ta) (tb:=tb) (tc:=tc) (td:=td) (xa:=xa) (xc:=xc) (pa:=pa) (pc:=pc) (na:=na) (nc:=nc) (lc:=lc) (v1:=v1) (v2:=v2) MB1 hB1 hD.up (by omega)) fun v2=>(.o [] [] 2040 0 0 0 [] (d8 9 0x12100e0c0a08060402) (IH (lb1:=lb) (lc1:=lc++[Value.str ⟨#[97]⟩ ty]) (ld1:=ld) (eb1:=eb) (ec1:=ec+1) (ed1:=ed) (na1:=na+1) (nb1:=nb) (nc1:=nc) (pa1:=v2.1.e) (pb1:=pb) (pc1:=pc) (h31:=kh w r ⟨#[108,101,97,118,101,115]⟩) (h41:=kh w r ⟨#[99,111,109,101,115]⟩) (u31:=t) (u41:=t+1) (le1:=.str k tk) (co1:=.str ⟨#[97]⟩ ty) (pe1:=pe+2) (N1:=v2.1.n) (t1:=v2.1.t) (by have:=v2.2; omega) (by rw [hd] at e1; simp [hits_cons,hlow,hxx,ne_A] at e1; first | exact e1 | (rw [← e1,List.append_assoc]; rfl)) (by rw [hd] at e2; simp [hits_cons,hlow,hxx,ne_A] at e2; first | exact e2 | (rw [← e2,List.append_assoc]; rfl)) (by rw [hd] at e3; simp [hits_cons,hlow,hxx,ne_A] at e3; first | exact e3 | (rw [← e3,List.append_assoc]; rfl)) (by rw [hd] at e4; simp [nOf_cons,hxx,sOf,ne_B] at e4; omega) (by rw [hd] at e5; simp [nOf_cons,hxx,sOf,ne_B] at e5; omega) (by rw [hd] at e6; simp [nOf_cons,hxx,sOf,ne_B] at e6; omega) (by simp; omega)) fun v3=>(.e v3)))))
 exact ⟨P₀,by intro ⟨x1,x2,x3,x4⟩; cases x2 <;> kernel_rfl⟩
include MB hB in
theorem fa_0bc (hD:Lim D U 80) (hN:N0≤N) (hi:vs[i]? = some (.ref (P+355))) (hd:es.drop i = x :: es.drop (i+1)) (hk:Arg k) (hxk:x.k = k) (hlow:low x.k = sc) (hxx:x.x = .str sb ty) (e1:lb++hits sb (es.drop i) = rb) (e2:lc++hits sc (es.drop i) = rc) (e3:ld++hits sd (es.drop i) = rd) (e4:na + nOf sa (es.drop i) = ma) (e5:nb + nOf sb (es.drop i) = mb) (e6:nc + nOf sc (es.drop i) = mc) (e7:lb.length + lc.length + ld.length≤800) (IH:A_1 N0 es i rb rc rd ma mb mc lb lc ld w r g d os B D U I F0 C1 C2 G Ld Lc Ic dc xc Lb Ib db xb Ia da La xa S h1 h2 u1 u2 lt vs e dS M k1 k2 k3 k4 s1 s2 s3 s4 v1 v2 ha ta hb tb hc tc hd1 td Id dd xd nd pd) :
  CutOk (XX w r g d os) B D U (faCode w r I F0 C1 C2) none (A_21 I G i Ld ld ed Lc lc ec Ic dc xc nc pc Lb lb eb Ib db xb nb pb Ia da La xa na pa F0 S h1 h2 u1 u2 lt pe) [(P+355,tupO [.str k tk,.str ⟨#[98]⟩ ty]),(G+355,listO vs e),(S+355,srtO dS),(dS+355,srtD M k1 k2 k3 k4 s1 s2 s3 s4 .none v1 v2),(M+355,dictO (A_3 ha ta Ia hb tb Ib hc tc Ic hd1 td Id) 4),(Id+355,infO dd Ld ⟨#[100]⟩ xd nd pd),(da+355,dictO [] 0),(db+355,dictO [] 0),(dc+355,dictO [] 0),(dd+355,dictO [] 0)] (N+355) (t) ({v:FaV // N0≤v.n}) (fun v=>.ok .next) (fun v=>[]) (fun v=>A_7 rd rc dc Lc xc mc rb db Lb xb mb da La xa ma S h1 h2 u1 u2 lt v.1) (fun v=>v.1.n+355) (fun v=>v.1.t) (fun v=>[]):=by
 refine .of_q MB hB hD.lo 2040 0 ?_
 k_data
 let P₀:Rows→Pk (XX w r g d os) B D U S₀ []:=fun x₀=>(.a [1,1,1] [I+355,I+355] 1 0 0 0 [] [2] (next_some (hd:=none) (I:=I+355) (H:=G+355) (i:=i) (e:=e) (n:=N+355) (t:=t) (vs:=vs) (v:=.ref (P+355)) hi) fun _=>(.a (d8 59 0x115150806000000000600000006000000061515151515010101020101010101010101020101010101010101020101010101010101020102020201) (ixL (A_29 F0 dS S N P I) (d6 40 0x6555544444544444454444445443000002222100)) 0 0 0 0 [] [] (lower_is (k:=k) (q:=⟨#[99]⟩) (tk:=tk) (n:=N+358) (t:=t+2) MB1 hB1 hD.up hk (hxk ▸ hlow)) fun _=>(.a [0] [] 288 64 0 0 [3] (d8 6 0x100e01080604) (add1_bc (S:=S) (dS:=dS) (M:=M) (N:=N+3) (t:=t+3) (Ia:=Ia) (Ib:=Ib) (Ic:=Ic) (Id:=Id) (Lb:=Lb) (Lc:=Lc) (db:=db) (dc:=dc) (ec:=ec) (h1:=k1) (h2:=k2) (h3:=k3) (h4:=k4) (ha:=ha) (hb:=hb) (hc:=hc) (hd1:=hd1) (u1:=s1) (u2:=s2) (u3:=s3) (u4:=s4) (u5:=ty) (u6:=t+2) (ta:=ta) (tb:=tb) (tc:=tc) (td:=td) (xb:=xb) (xc:=xc) (pb:=pb) (pc:=pc) (nb:=nb) (nc:=nc) (lc:=lc) (v1:=v1) (v2:=v2) MB1 hB1 hD.up (by omega)) fun v2=>(.o [] [] 2040 0 0 0 [] (d8 9 0x12100e0c0a08060402) (IH (lb1:=lb) (lc1:=lc++[Value.str ⟨#[98]⟩ ty]) (ld1:=ld) (eb1:=eb) (ec1:=ec+1) (ed1:=ed) (na1:=na) (nb1:=nb+1) (nc1:=nc) (pa1:=pa) (pb1:=v2.1.e) (pc1:=pc) (h31:=kh w r ⟨#[108,101,97,118,101,115]⟩) (h41:=kh w r ⟨#[99,111,109,101,115]⟩) (u31:=t) (u41:=t+1) (le1:=.str k tk) (co1:=.str ⟨#[98]⟩ ty) (pe1:=pe+2) (N1:=v2.1.n) (t1:=v2.1.t) (by have:=v2.2; omega) (by rw [hd] at e1; simp [hits_cons,hlow,hxx,ne_A] at e1; first | exact e1 | (rw [← e1,List.append_assoc]; rfl)) (by rw [hd] at e2; simp [hits_cons,hlow,hxx,ne_A] at e2; first | exact e2 | (rw [← e2,List.append_assoc]; rfl)) (by rw [hd] at e3; simp [hits_cons,hlow,hxx,ne_A] at e3; first | exact e3 | (rw [← e3,List.append_assoc]; rfl)) (by rw [hd] at e4; simp [nOf_cons,hxx,sOf,ne_B] at e4; omega) (by rw [hd] at e5; simp [nOf_cons,hxx,sOf,ne_B] at e5; omega) (by rw [hd] at e6; simp [nOf_cons,hxx,sOf,ne_B] at e6; omega) (by simp; omega)) fun v3=>(.e v3)))))
 exact ⟨P₀,by intro ⟨x1,x2,x3,x4⟩; cases x2 <;> kernel_rfl⟩
include MB hB in
theorem fa_0ad (hD:Lim D U 80) (hN:N0≤N) (hi:vs[i]? = some (.ref (P+355))) (hd:es.drop i = x :: es.drop (i+1)) (hk:Arg k) (hxk:x.k = k) (hlow:low x.k = sd) (hxx:x.x = .str sa ty) (e1:lb++hits sb (es.drop i) = rb) (e2:lc++hits sc (es.drop i) = rc) (e3:ld++hits sd (es.drop i) = rd) (e4:na + nOf sa (es.drop i) = ma) (e5:nb + nOf sb (es.drop i) = mb) (e6:nc + nOf sc (es.drop i) = mc) (e7:lb.length + lc.length + ld.length≤800) (IH:A_1 N0 es i rb rc rd ma mb mc lb lc ld w r g d os B D U I F0 C1 C2 G Ld Lc Ic dc xc Lb Ib db xb Ia da La xa S h1 h2 u1 u2 lt vs e dS M k1 k2 k3 k4 s1 s2 s3 s4 v1 v2 ha ta hb tb hc tc hd1 td Id dd xd nd pd) :
  CutOk (XX w r g d os) B D U (faCode w r I F0 C1 C2) none (A_21 I G i Ld ld ed Lc lc ec Ic dc xc nc pc Lb lb eb Ib db xb nb pb Ia da La xa na pa F0 S h1 h2 u1 u2 lt pe) (A_19 P k tk ty G vs e S dS M k1 k2 k3 k4 s1 s2 s3 s4 v1 v2 ha ta Ia hb tb Ib hc tc Ic hd1 td Id dd Ld xd nd pd da db dc) (N+355) (t) ({v:FaV // N0≤v.n}) (fun v=>.ok .next) (fun v=>[]) (fun v=>A_7 rd rc dc Lc xc mc rb db Lb xb mb da La xa ma S h1 h2 u1 u2 lt v.1) (fun v=>v.1.n+355) (fun v=>v.1.t) (fun v=>[]):=by
 refine .of_q MB hB hD.lo 2040 0 ?_
 k_data
 let P₀:Rows→Pk (XX w r g d os) B D U S₀ []:=fun x₀=>(.a [1,1,1] [I+355,I+355] 1 0 0 0 [] [2] (next_some (hd:=none) (I:=I+355) (H:=G+355) (i:=i) (e:=e) (n:=N+355) (t:=t) (vs:=vs) (v:=.ref (P+355)) hi) fun _=>(.a (d8 59 0x115150806000000000600000006000000061515151515010101020101010101010101020101010101010101020101010101010101020102020201) (ixL (A_29 F0 dS S N P I) (d6 40 0x6555544444544444454444445443000002222100)) 0 0 0 0 [] [] (lower_is (k:=k) (q:=⟨#[100]⟩) (tk:=tk) (n:=N+358) (t:=t+2) MB1 hB1 hD.up hk (hxk ▸ hlow)) fun _=>(.a [0] [] 528 0 0 0 [] (d8 6 0x120c0a080604) (add1_ad (S:=S) (dS:=dS) (M:=M) (N:=N+3) (t:=t+3) (Ia:=Ia) (Ib:=Ib) (Ic:=Ic) (Id:=Id) (La:=La) (Ld:=Ld) (da:=da) (dd:=dd) (ed:=ed) (h1:=k1) (h2:=k2) (h3:=k3) (h4:=k4) (ha:=ha) (hb:=hb) (hc:=hc) (hd1:=hd1) (u1:=s1) (u2:=s2) (u3:=s3) (u4:=s4) (u5:=ty) (u6:=t+2) (ta:=ta) (tb:=tb) (tc:=tc) (td:=td) (xa:=xa) (xd:=xd) (pa:=pa) (pd:=pd) (na:=na) (nd:=nd) (ld:=ld) (v1:=v1) (v2:=v2) MB1 hB1 hD.up (by omega)) fun v2=>(.o [] [] 2040 0 0 0 [] (d8 9 0x12100e0c0a08060402) (IH (lb1:=lb) (lc1:=lc) (ld1:=ld++[Value.str ⟨#[97]⟩ ty]) (eb1:=eb) (ec1:=ec) (ed1:=ed+1) (na1:=na+1) (nb1:=nb) (nc1:=nc) (pa1:=v2.1.e) (pb1:=pb) (pc1:=pc) (h31:=kh w r ⟨#[108,101,97,118,101,115]⟩) (h41:=kh w r ⟨#[99,111,109,101,115]⟩) (u31:=t) (u41:=t+1) (le1:=.str k tk) (co1:=.str ⟨#[97]⟩ ty) (pe1:=pe+2) (N1:=v2.1.n) (t1:=v2.1.t) (by have:=v2.2; omega) (by rw [hd] at e1; simp [hits_cons,hlow,hxx,ne_A] at e1; first | exact e1 | (rw [← e1,List.append_assoc]; rfl)) (by rw [hd] at e2; simp [hits_cons,hlow,hxx,ne_A] at e2; first | exact e2 | (rw [← e2,List.append_assoc]; rfl)) (by rw [hd] at e3; simp [hits_cons,hlow,hxx,ne_A] at e3; first | exact e3 | (rw [← e3,List.append_assoc]; rfl)) (by rw [hd] at e4; simp [nOf_cons,hxx,sOf,ne_B] at e4; omega) (by rw [hd] at e5; simp [nOf_cons,hxx,sOf,ne_B] at e5; omega) (by rw [hd] at e6; simp [nOf_cons,hxx,sOf,ne_B] at e6; omega) (by simp; omega)) fun v3=>(.e v3)))))
 exact ⟨P₀,by intro ⟨x1,x2,x3,x4⟩; cases x2 <;> kernel_rfl⟩
include MB hB in
theorem fa_0bd (hD:Lim D U 80) (hN:N0≤N) (hi:vs[i]? = some (.ref (P+355))) (hd:es.drop i = x :: es.drop (i+1)) (hk:Arg k) (hxk:x.k = k) (hlow:low x.k = sd) (hxx:x.x = .str sb ty) (e1:lb++hits sb (es.drop i) = rb) (e2:lc++hits sc (es.drop i) = rc) (e3:ld++hits sd (es.drop i) = rd) (e4:na + nOf sa (es.drop i) = ma) (e5:nb + nOf sb (es.drop i) = mb) (e6:nc + nOf sc (es.drop i) = mc) (e7:lb.length + lc.length + ld.length≤800) (IH:A_1 N0 es i rb rc rd ma mb mc lb lc ld w r g d os B D U I F0 C1 C2 G Ld Lc Ic dc xc Lb Ib db xb Ia da La xa S h1 h2 u1 u2 lt vs e dS M k1 k2 k3 k4 s1 s2 s3 s4 v1 v2 ha ta hb tb hc tc hd1 td Id dd xd nd pd) :
  CutOk (XX w r g d os) B D U (faCode w r I F0 C1 C2) none (A_21 I G i Ld ld ed Lc lc ec Ic dc xc nc pc Lb lb eb Ib db xb nb pb Ia da La xa na pa F0 S h1 h2 u1 u2 lt pe) [(P+355,tupO [.str k tk,.str ⟨#[98]⟩ ty]),(G+355,listO vs e),(S+355,srtO dS),(dS+355,srtD M k1 k2 k3 k4 s1 s2 s3 s4 .none v1 v2),(M+355,dictO (A_3 ha ta Ia hb tb Ib hc tc Ic hd1 td Id) 4),(Id+355,infO dd Ld ⟨#[100]⟩ xd nd pd),(da+355,dictO [] 0),(db+355,dictO [] 0),(dc+355,dictO [] 0),(dd+355,dictO [] 0)] (N+355) (t) ({v:FaV // N0≤v.n}) (fun v=>.ok .next) (fun v=>[]) (fun v=>A_7 rd rc dc Lc xc mc rb db Lb xb mb da La xa ma S h1 h2 u1 u2 lt v.1) (fun v=>v.1.n+355) (fun v=>v.1.t) (fun v=>[]):=by
 refine .of_q MB hB hD.lo 2040 0 ?_
 k_data
 let P₀:Rows→Pk (XX w r g d os) B D U S₀ []:=fun x₀=>(.a [1,1,1] [I+355,I+355] 1 0 0 0 [] [2] (next_some (hd:=none) (I:=I+355) (H:=G+355) (i:=i) (e:=e) (n:=N+355) (t:=t) (vs:=vs) (v:=.ref (P+355)) hi) fun _=>(.a (d8 59 0x115150806000000000600000006000000061515151515010101020101010101010101020101010101010101020101010101010101020102020201) (ixL (A_29 F0 dS S N P I) (d6 40 0x6555544444544444454444445443000002222100)) 0 0 0 0 [] [] (lower_is (k:=k) (q:=⟨#[100]⟩) (tk:=tk) (n:=N+358) (t:=t+2) MB1 hB1 hD.up hk (hxk ▸ hlow)) fun _=>(.a [0] [] 272 0 0 0 [] (d8 6 0x120e0a080604) (add1_bd (S:=S) (dS:=dS) (M:=M) (N:=N+3) (t:=t+3) (Ia:=Ia) (Ib:=Ib) (Ic:=Ic) (Id:=Id) (Lb:=Lb) (Ld:=Ld) (db:=db) (dd:=dd) (ed:=ed) (h1:=k1) (h2:=k2) (h3:=k3) (h4:=k4) (ha:=ha) (hb:=hb) (hc:=hc) (hd1:=hd1) (u1:=s1) (u2:=s2) (u3:=s3) (u4:=s4) (u5:=ty) (u6:=t+2) (ta:=ta) (tb:=tb) (tc:=tc) (td:=td) (xb:=xb) (xd:=xd) (pb:=pb) (pd:=pd) (nb:=nb) (nd:=nd) (ld:=ld) (v1:=v1) (v2:=v2) MB1 hB1 hD.up (by omega)) fun v2=>(.o [] [] 2040 0 0 0 [] (d8 9 0x12100e0c0a08060402) (IH (lb1:=lb) (lc1:=lc) (ld1:=ld++[Value.str ⟨#[98]⟩ ty]) (eb1:=eb) (ec1:=ec) (ed1:=ed+1) (na1:=na) (nb1:=nb+1) (nc1:=nc) (pa1:=pa) (pb1:=v2.1.e) (pc1:=pc) (h31:=kh w r ⟨#[108,101,97,118,101,115]⟩) (h41:=kh w r ⟨#[99,111,109,101,115]⟩) (u31:=t) (u41:=t+1) (le1:=.str k tk) (co1:=.str ⟨#[98]⟩ ty) (pe1:=pe+2) (N1:=v2.1.n) (t1:=v2.1.t) (by have:=v2.2; omega) (by rw [hd] at e1; simp [hits_cons,hlow,hxx,ne_A] at e1; first | exact e1 | (rw [← e1,List.append_assoc]; rfl)) (by rw [hd] at e2; simp [hits_cons,hlow,hxx,ne_A] at e2; first | exact e2 | (rw [← e2,List.append_assoc]; rfl)) (by rw [hd] at e3; simp [hits_cons,hlow,hxx,ne_A] at e3; first | exact e3 | (rw [← e3,List.append_assoc]; rfl)) (by rw [hd] at e4; simp [nOf_cons,hxx,sOf,ne_B] at e4; omega) (by rw [hd] at e5; simp [nOf_cons,hxx,sOf,ne_B] at e5; omega) (by rw [hd] at e6; simp [nOf_cons,hxx,sOf,ne_B] at e6; omega) (by simp; omega)) fun v3=>(.e v3)))))
 exact ⟨P₀,by intro ⟨x1,x2,x3,x4⟩; cases x2 <;> kernel_rfl⟩
include MB hB in
theorem fa_0cd (hD:Lim D U 80) (hN:N0≤N) (hi:vs[i]? = some (.ref (P+355))) (hd:es.drop i = x :: es.drop (i+1)) (hk:Arg k) (hxk:x.k = k) (hlow:low x.k = sd) (hxx:x.x = .str sc ty) (e1:lb++hits sb (es.drop i) = rb) (e2:lc++hits sc (es.drop i) = rc) (e3:ld++hits sd (es.drop i) = rd) (e4:na + nOf sa (es.drop i) = ma) (e5:nb + nOf sb (es.drop i) = mb) (e6:nc + nOf sc (es.drop i) = mc) (e7:lb.length + lc.length + ld.length≤800) (IH:A_1 N0 es i rb rc rd ma mb mc lb lc ld w r g d os B D U I F0 C1 C2 G Ld Lc Ic dc xc Lb Ib db xb Ia da La xa S h1 h2 u1 u2 lt vs e dS M k1 k2 k3 k4 s1 s2 s3 s4 v1 v2 ha ta hb tb hc tc hd1 td Id dd xd nd pd) :
  CutOk (XX w r g d os) B D U (faCode w r I F0 C1 C2) none (A_21 I G i Ld ld ed Lc lc ec Ic dc xc nc pc Lb lb eb Ib db xb nb pb Ia da La xa na pa F0 S h1 h2 u1 u2 lt pe) [(P+355,tupO [.str k tk,.str ⟨#[99]⟩ ty]),(G+355,listO vs e),(S+355,srtO dS),(dS+355,srtD M k1 k2 k3 k4 s1 s2 s3 s4 .none v1 v2),(M+355,dictO (A_3 ha ta Ia hb tb Ib hc tc Ic hd1 td Id) 4),(Id+355,infO dd Ld ⟨#[100]⟩ xd nd pd),(da+355,dictO [] 0),(db+355,dictO [] 0),(dc+355,dictO [] 0),(dd+355,dictO [] 0)] (N+355) (t) ({v:FaV // N0≤v.n}) (fun v=>.ok .next) (fun v=>[]) (fun v=>A_7 rd rc dc Lc xc mc rb db Lb xb mb da La xa ma S h1 h2 u1 u2 lt v.1) (fun v=>v.1.n+355) (fun v=>v.1.t) (fun v=>[]):=by
 refine .of_q MB hB hD.lo 2040 0 ?_
 k_data
 let P₀:Rows→Pk (XX w r g d os) B D U S₀ []:=fun x₀=>(.a [1,1,1] [I+355,I+355] 1 0 0 0 [] [2] (next_some (hd:=none) (I:=I+355) (H:=G+355) (i:=i) (e:=e) (n:=N+355) (t:=t) (vs:=vs) (v:=.ref (P+355)) hi) fun _=>(.a (d8 59 0x115150806000000000600000006000000061515151515010101020101010101010101020101010101010101020101010101010101020102020201) (ixL (A_29 F0 dS S N P I) (d6 40 0x6555544444544444454444445443000002222100)) 0 0 0 0 [] [] (lower_is (k:=k) (q:=⟨#[100]⟩) (tk:=tk) (n:=N+358) (t:=t+2) MB1 hB1 hD.up hk (hxk ▸ hlow)) fun _=>(.a [0] [] 80 0 0 0 [] (d8 6 0x12100a080604) (add1_cd (S:=S) (dS:=dS) (M:=M) (N:=N+3) (t:=t+3) (Ia:=Ia) (Ib:=Ib) (Ic:=Ic) (Id:=Id) (Lc:=Lc) (Ld:=Ld) (dc:=dc) (dd:=dd) (ed:=ed) (h1:=k1) (h2:=k2) (h3:=k3) (h4:=k4) (ha:=ha) (hb:=hb) (hc:=hc) (hd1:=hd1) (u1:=s1) (u2:=s2) (u3:=s3) (u4:=s4) (u5:=ty) (u6:=t+2) (ta:=ta) (tb:=tb) (tc:=tc) (td:=td) (xc:=xc) (xd:=xd) (pc:=pc) (pd:=pd) (nc:=nc) (nd:=nd) (ld:=ld) (v1:=v1) (v2:=v2) MB1 hB1 hD.up (by omega)) fun v2=>(.o [] [] 2040 0 0 0 [] (d8 9 0x12100e0c0a08060402) (IH (lb1:=lb) (lc1:=lc) (ld1:=ld++[Value.str ⟨#[99]⟩ ty]) (eb1:=eb) (ec1:=ec) (ed1:=ed+1) (na1:=na) (nb1:=nb) (nc1:=nc+1) (pa1:=pa) (pb1:=pb) (pc1:=v2.1.e) (h31:=kh w r ⟨#[108,101,97,118,101,115]⟩) (h41:=kh w r ⟨#[99,111,109,101,115]⟩) (u31:=t) (u41:=t+1) (le1:=.str k tk) (co1:=.str ⟨#[99]⟩ ty) (pe1:=pe+2) (N1:=v2.1.n) (t1:=v2.1.t) (by have:=v2.2; omega) (by rw [hd] at e1; simp [hits_cons,hlow,hxx,ne_A] at e1; first | exact e1 | (rw [← e1,List.append_assoc]; rfl)) (by rw [hd] at e2; simp [hits_cons,hlow,hxx,ne_A] at e2; first | exact e2 | (rw [← e2,List.append_assoc]; rfl)) (by rw [hd] at e3; simp [hits_cons,hlow,hxx,ne_A] at e3; first | exact e3 | (rw [← e3,List.append_assoc]; rfl)) (by rw [hd] at e4; simp [nOf_cons,hxx,sOf,ne_B] at e4; omega) (by rw [hd] at e5; simp [nOf_cons,hxx,sOf,ne_B] at e5; omega) (by rw [hd] at e6; simp [nOf_cons,hxx,sOf,ne_B] at e6; omega) (by simp; omega)) fun v3=>(.e v3)))))
 exact ⟨P₀,by intro ⟨x1,x2,x3,x4⟩; cases x2 <;> kernel_rfl⟩
variable {h3 h4:Int} {u3 u4:Tok} {le co:Value}
include MB hB in
theorem fa_1ab (hD:Lim D U 80) (hN:N0≤N) (hi:vs[i]? = some (.ref (P+355))) (hd:es.drop i = x :: es.drop (i+1)) (hk:Arg k) (hxk:x.k = k) (hlow:low x.k = sb) (hxx:x.x = .str sa ty) (e1:lb++hits sb (es.drop i) = rb) (e2:lc++hits sc (es.drop i) = rc) (e3:ld++hits sd (es.drop i) = rd) (e4:na + nOf sa (es.drop i) = ma) (e5:nb + nOf sb (es.drop i) = mb) (e6:nc + nOf sc (es.drop i) = mc) (e7:lb.length + lc.length + ld.length≤800) (IH:A_1 N0 es i rb rc rd ma mb mc lb lc ld w r g d os B D U I F0 C1 C2 G Ld Lc Ic dc xc Lb Ib db xb Ia da La xa S h1 h2 u1 u2 lt vs e dS M k1 k2 k3 k4 s1 s2 s3 s4 v1 v2 ha ta hb tb hc tc hd1 td Id dd xd nd pd) :
  CutOk (XX w r g d os) B D U (faCode w r I F0 C1 C2) none [(I+355,iterO (G+355) (i)),(Ld+355,listO ld ed),(Lc+355,listO lc ec),(Ic+355,infO dc Lc ⟨#[99]⟩ xc nc pc),(Lb+355,listO lb eb),(Ib+355,infO db Lb ⟨#[98]⟩ xb nb pb),(Ia+355,infO da La ⟨#[97]⟩ xa na pa),(F0+355,frO (fl4 S h1 h2 h3 h4 u1 u2 u3 u4 lt le co) pe)] (A_19 P k tk ty G vs e S dS M k1 k2 k3 k4 s1 s2 s3 s4 v1 v2 ha ta Ia hb tb Ib hc tc Ic hd1 td Id dd Ld xd nd pd da db dc) (N+355) (t) ({v:FaV // N0≤v.n}) (fun v=>.ok .next) (fun v=>[]) (fun v=>A_7 rd rc dc Lc xc mc rb db Lb xb mb da La xa ma S h1 h2 u1 u2 lt v.1) (fun v=>v.1.n+355) (fun v=>v.1.t) (fun v=>[]):=by
 refine .of_q MB hB hD.lo 2040 0 ?_
 k_data
 let P₀:Rows→Pk (XX w r g d os) B D U S₀ []:=fun x₀=>(.a [1,1,1] [I+355,I+355] 1 0 0 0 [] [2] (next_some (hd:=none) (I:=I+355) (H:=G+355) (i:=i) (e:=e) (n:=N+355) (t:=t) (vs:=vs) (v:=.ref (P+355)) hi) fun _=>(.a (d8 59 0x115150806000000000600000006000000061515151515010101020101010101010101020101010101010101020101010101010101020102020201) (ixL (A_29 F0 dS S N P I) (d6 40 0x6555544444544444454444445443000002222100)) 0 0 0 0 [] [] (lower_is (k:=k) (q:=⟨#[98]⟩) (tk:=tk) (n:=N+358) (t:=t+2) MB1 hB1 hD.up hk (hxk ▸ hlow)) fun _=>(.a [0] [] 640 256 0 0 [3] (d6 6 0xec1864) (add1_ab (S:=S) (dS:=dS) (M:=M) (N:=N+3) (t:=t+3) (Ia:=Ia) (Ib:=Ib) (Ic:=Ic) (Id:=Id) (La:=La) (Lb:=Lb) (da:=da) (db:=db) (eb:=eb) (h1:=k1) (h2:=k2) (h3:=k3) (h4:=k4) (ha:=ha) (hb:=hb) (hc:=hc) (hd1:=hd1) (u1:=s1) (u2:=s2) (u3:=s3) (u4:=s4) (u5:=ty) (u6:=t+2) (ta:=ta) (tb:=tb) (tc:=tc) (td:=td) (xa:=xa) (xb:=xb) (pa:=pa) (pb:=pb) (na:=na) (nb:=nb) (lb:=lb) (v1:=v1) (v2:=v2) MB1 hB1 hD.up (by omega)) fun v2=>(.o [] [] 2040 0 0 0 [] (d8 9 0x12100e0c0a08060402) (IH (lb1:=lb++[Value.str ⟨#[97]⟩ ty]) (lc1:=lc) (ld1:=ld) (eb1:=eb+1) (ec1:=ec) (ed1:=ed) (na1:=na+1) (nb1:=nb) (nc1:=nc) (pa1:=v2.1.e) (pb1:=pb) (pc1:=pc) (h31:=h3) (h41:=h4) (u31:=u3) (u41:=u4) (le1:=.str k tk) (co1:=.str ⟨#[97]⟩ ty) (pe1:=pe) (N1:=v2.1.n) (t1:=v2.1.t) (by have:=v2.2; omega) (by rw [hd] at e1; simp [hits_cons,hlow,hxx,ne_A] at e1; first | exact e1 | (rw [← e1,List.append_assoc]; rfl)) (by rw [hd] at e2; simp [hits_cons,hlow,hxx,ne_A] at e2; first | exact e2 | (rw [← e2,List.append_assoc]; rfl)) (by rw [hd] at e3; simp [hits_cons,hlow,hxx,ne_A] at e3; first | exact e3 | (rw [← e3,List.append_assoc]; rfl)) (by rw [hd] at e4; simp [nOf_cons,hxx,sOf,ne_B] at e4; omega) (by rw [hd] at e5; simp [nOf_cons,hxx,sOf,ne_B] at e5; omega) (by rw [hd] at e6; simp [nOf_cons,hxx,sOf,ne_B] at e6; omega) (by simp; omega)) fun v3=>(.e v3)))))
 exact ⟨P₀,by intro ⟨x1,x2,x3,x4⟩; cases x2 <;> kernel_rfl⟩
include MB hB in
theorem fa_1ac (hD:Lim D U 80) (hN:N0≤N) (hi:vs[i]? = some (.ref (P+355))) (hd:es.drop i = x :: es.drop (i+1)) (hk:Arg k) (hxk:x.k = k) (hlow:low x.k = sc) (hxx:x.x = .str sa ty) (e1:lb++hits sb (es.drop i) = rb) (e2:lc++hits sc (es.drop i) = rc) (e3:ld++hits sd (es.drop i) = rd) (e4:na + nOf sa (es.drop i) = ma) (e5:nb + nOf sb (es.drop i) = mb) (e6:nc + nOf sc (es.drop i) = mc) (e7:lb.length + lc.length + ld.length≤800) (IH:A_1 N0 es i rb rc rd ma mb mc lb lc ld w r g d os B D U I F0 C1 C2 G Ld Lc Ic dc xc Lb Ib db xb Ia da La xa S h1 h2 u1 u2 lt vs e dS M k1 k2 k3 k4 s1 s2 s3 s4 v1 v2 ha ta hb tb hc tc hd1 td Id dd xd nd pd) :
  CutOk (XX w r g d os) B D U (faCode w r I F0 C1 C2) none [(I+355,iterO (G+355) (i)),(Ld+355,listO ld ed),(Lc+355,listO lc ec),(Ic+355,infO dc Lc ⟨#[99]⟩ xc nc pc),(Lb+355,listO lb eb),(Ib+355,infO db Lb ⟨#[98]⟩ xb nb pb),(Ia+355,infO da La ⟨#[97]⟩ xa na pa),(F0+355,frO (fl4 S h1 h2 h3 h4 u1 u2 u3 u4 lt le co) pe)] (A_19 P k tk ty G vs e S dS M k1 k2 k3 k4 s1 s2 s3 s4 v1 v2 ha ta Ia hb tb Ib hc tc Ic hd1 td Id dd Ld xd nd pd da db dc) (N+355) (t) ({v:FaV // N0≤v.n}) (fun v=>.ok .next) (fun v=>[]) (fun v=>A_7 rd rc dc Lc xc mc rb db Lb xb mb da La xa ma S h1 h2 u1 u2 lt v.1) (fun v=>v.1.n+355) (fun v=>v.1.t) (fun v=>[]):=by
 refine .of_q MB hB hD.lo 2040 0 ?_
 k_data
 let P₀:Rows→Pk (XX w r g d os) B D U S₀ []:=fun x₀=>(.a [1,1,1] [I+355,I+355] 1 0 0 0 [] [2] (next_some (hd:=none) (I:=I+355) (H:=G+355) (i:=i) (e:=e) (n:=N+355) (t:=t) (vs:=vs) (v:=.ref (P+355)) hi) fun _=>(.a (d8 59 0x115150806000000000600000006000000061515151515010101020101010101010101020101010101010101020101010101010101020102020201) (ixL (A_29 F0 dS S N P I) (d6 40 0x6555544444544444454444445443000002222100)) 0 0 0 0 [] [] (lower_is (k:=k) (q:=⟨#[99]⟩) (tk:=tk) (n:=N+358) (t:=t+2) MB1 hB1 hD.up hk (hxk ▸ hlow)) fun _=>(.a [0] [] 544 64 0 0 [3] (d8 6 0x100c01080604) (add1_ac (S:=S) (dS:=dS) (M:=M) (N:=N+3) (t:=t+3) (Ia:=Ia) (Ib:=Ib) (Ic:=Ic) (Id:=Id) (La:=La) (Lc:=Lc) (da:=da) (dc:=dc) (ec:=ec) (h1:=k1) (h2:=k2) (h3:=k3) (h4:=k4) (ha:=ha) (hb:=hb) (hc:=hc) (hd1:=hd1) (u1:=s1) (u2:=s2) (u3:=s3) (u4:=s4) (u5:=ty) (u6:=t+2) (ta:=ta) (tb:=tb) (tc:=tc) (td:=td) (xa:=xa) (xc:=xc) (pa:=pa) (pc:=pc) (na:=na) (nc:=nc) (lc:=lc) (v1:=v1) (v2:=v2) MB1 hB1 hD.up (by omega)) fun v2=>(.o [] [] 2040 0 0 0 [] (d8 9 0x12100e0c0a08060402) (IH (lb1:=lb) (lc1:=lc++[Value.str ⟨#[97]⟩ ty]) (ld1:=ld) (eb1:=eb) (ec1:=ec+1) (ed1:=ed) (na1:=na+1) (nb1:=nb) (nc1:=nc) (pa1:=v2.1.e) (pb1:=pb) (pc1:=pc) (h31:=h3) (h41:=h4) (u31:=u3) (u41:=u4) (le1:=.str k tk) (co1:=.str ⟨#[97]⟩ ty) (pe1:=pe) (N1:=v2.1.n) (t1:=v2.1.t) (by have:=v2.2; omega) (by rw [hd] at e1; simp [hits_cons,hlow,hxx,ne_A] at e1; first | exact e1 | (rw [← e1,List.append_assoc]; rfl)) (by rw [hd] at e2; simp [hits_cons,hlow,hxx,ne_A] at e2; first | exact e2 | (rw [← e2,List.append_assoc]; rfl)) (by rw [hd] at e3; simp [hits_cons,hlow,hxx,ne_A] at e3; first | exact e3 | (rw [← e3,List.append_assoc]; rfl)) (by rw [hd] at e4; simp [nOf_cons,hxx,sOf,ne_B] at e4; omega) (by rw [hd] at e5; simp [nOf_cons,hxx,sOf,ne_B] at e5; omega) (by rw [hd] at e6; simp [nOf_cons,hxx,sOf,ne_B] at e6; omega) (by simp; omega)) fun v3=>(.e v3)))))
 exact ⟨P₀,by intro ⟨x1,x2,x3,x4⟩; cases x2 <;> kernel_rfl⟩
include MB hB in
theorem fa_1bc (hD:Lim D U 80) (hN:N0≤N) (hi:vs[i]? = some (.ref (P+355))) (hd:es.drop i = x :: es.drop (i+1)) (hk:Arg k) (hxk:x.k = k) (hlow:low x.k = sc) (hxx:x.x = .str sb ty) (e1:lb++hits sb (es.drop i) = rb) (e2:lc++hits sc (es.drop i) = rc) (e3:ld++hits sd (es.drop i) = rd) (e4:na + nOf sa (es.drop i) = ma) (e5:nb + nOf sb (es.drop i) = mb) (e6:nc + nOf sc (es.drop i) = mc) (e7:lb.length + lc.length + ld.length≤800) (IH:A_1 N0 es i rb rc rd ma mb mc lb lc ld w r g d os B D U I F0 C1 C2 G Ld Lc Ic dc xc Lb Ib db xb Ia da La xa S h1 h2 u1 u2 lt vs e dS M k1 k2 k3 k4 s1 s2 s3 s4 v1 v2 ha ta hb tb hc tc hd1 td Id dd xd nd pd) :
  CutOk (XX w r g d os) B D U (faCode w r I F0 C1 C2) none [(I+355,iterO (G+355) (i)),(Ld+355,listO ld ed),(Lc+355,listO lc ec),(Ic+355,infO dc Lc ⟨#[99]⟩ xc nc pc),(Lb+355,listO lb eb),(Ib+355,infO db Lb ⟨#[98]⟩ xb nb pb),(Ia+355,infO da La ⟨#[97]⟩ xa na pa),(F0+355,frO (fl4 S h1 h2 h3 h4 u1 u2 u3 u4 lt le co) pe)] [(P+355,tupO [.str k tk,.str ⟨#[98]⟩ ty]),(G+355,listO vs e),(S+355,srtO dS),(dS+355,srtD M k1 k2 k3 k4 s1 s2 s3 s4 .none v1 v2),(M+355,dictO (A_3 ha ta Ia hb tb Ib hc tc Ic hd1 td Id) 4),(Id+355,infO dd Ld ⟨#[100]⟩ xd nd pd),(da+355,dictO [] 0),(db+355,dictO [] 0),(dc+355,dictO [] 0),(dd+355,dictO [] 0)] (N+355) (t) ({v:FaV // N0≤v.n}) (fun v=>.ok .next) (fun v=>[]) (fun v=>A_7 rd rc dc Lc xc mc rb db Lb xb mb da La xa ma S h1 h2 u1 u2 lt v.1) (fun v=>v.1.n+355) (fun v=>v.1.t) (fun v=>[]):=by
 refine .of_q MB hB hD.lo 2040 0 ?_
 k_data
 let P₀:Rows→Pk (XX w r g d os) B D U S₀ []:=fun x₀=>(.a [1,1,1] [I+355,I+355] 1 0 0 0 [] [2] (next_some (hd:=none) (I:=I+355) (H:=G+355) (i:=i) (e:=e) (n:=N+355) (t:=t) (vs:=vs) (v:=.ref (P+355)) hi) fun _=>(.a (d8 59 0x115150806000000000600000006000000061515151515010101020101010101010101020101010101010101020101010101010101020102020201) (ixL (A_29 F0 dS S N P I) (d6 40 0x6555544444544444454444445443000002222100)) 0 0 0 0 [] [] (lower_is (k:=k) (q:=⟨#[99]⟩) (tk:=tk) (n:=N+358) (t:=t+2) MB1 hB1 hD.up hk (hxk ▸ hlow)) fun _=>(.a [0] [] 288 64 0 0 [3] (d8 6 0x100e01080604) (add1_bc (S:=S) (dS:=dS) (M:=M) (N:=N+3) (t:=t+3) (Ia:=Ia) (Ib:=Ib) (Ic:=Ic) (Id:=Id) (Lb:=Lb) (Lc:=Lc) (db:=db) (dc:=dc) (ec:=ec) (h1:=k1) (h2:=k2) (h3:=k3) (h4:=k4) (ha:=ha) (hb:=hb) (hc:=hc) (hd1:=hd1) (u1:=s1) (u2:=s2) (u3:=s3) (u4:=s4) (u5:=ty) (u6:=t+2) (ta:=ta) (tb:=tb) (tc:=tc) (td:=td) (xb:=xb) (xc:=xc) (pb:=pb) (pc:=pc) (nb:=nb) (nc:=nc) (lc:=lc) (v1:=v1) (v2:=v2) MB1 hB1 hD.up (by omega)) fun v2=>(.o [] [] 2040 0 0 0 [] (d8 9 0x12100e0c0a08060402) (IH (lb1:=lb) (lc1:=lc++[Value.str ⟨#[98]⟩ ty]) (ld1:=ld) (eb1:=eb) (ec1:=ec+1) (ed1:=ed) (na1:=na) (nb1:=nb+1) (nc1:=nc) (pa1:=pa) (pb1:=v2.1.e) (pc1:=pc) (h31:=h3) (h41:=h4) (u31:=u3) (u41:=u4) (le1:=.str k tk) (co1:=.str ⟨#[98]⟩ ty) (pe1:=pe) (N1:=v2.1.n) (t1:=v2.1.t) (by have:=v2.2; omega) (by rw [hd] at e1; simp [hits_cons,hlow,hxx,ne_A] at e1; first | exact e1 | (rw [← e1,List.append_assoc]; rfl)) (by rw [hd] at e2; simp [hits_cons,hlow,hxx,ne_A] at e2; first | exact e2 | (rw [← e2,List.append_assoc]; rfl)) (by rw [hd] at e3; simp [hits_cons,hlow,hxx,ne_A] at e3; first | exact e3 | (rw [← e3,List.append_assoc]; rfl)) (by rw [hd] at e4; simp [nOf_cons,hxx,sOf,ne_B] at e4; omega) (by rw [hd] at e5; simp [nOf_cons,hxx,sOf,ne_B] at e5; omega) (by rw [hd] at e6; simp [nOf_cons,hxx,sOf,ne_B] at e6; omega) (by simp; omega)) fun v3=>(.e v3)))))
 exact ⟨P₀,by intro ⟨x1,x2,x3,x4⟩; cases x2 <;> kernel_rfl⟩
include MB hB in
theorem fa_1ad (hD:Lim D U 80) (hN:N0≤N) (hi:vs[i]? = some (.ref (P+355))) (hd:es.drop i = x :: es.drop (i+1)) (hk:Arg k) (hxk:x.k = k) (hlow:low x.k = sd) (hxx:x.x = .str sa ty) (e1:lb++hits sb (es.drop i) = rb) (e2:lc++hits sc (es.drop i) = rc) (e3:ld++hits sd (es.drop i) = rd) (e4:na + nOf sa (es.drop i) = ma) (e5:nb + nOf sb (es.drop i) = mb) (e6:nc + nOf sc (es.drop i) = mc) (e7:lb.length + lc.length + ld.length≤800) (IH:A_1 N0 es i rb rc rd ma mb mc lb lc ld w r g d os B D U I F0 C1 C2 G Ld Lc Ic dc xc Lb Ib db xb Ia da La xa S h1 h2 u1 u2 lt vs e dS M k1 k2 k3 k4 s1 s2 s3 s4 v1 v2 ha ta hb tb hc tc hd1 td Id dd xd nd pd) :
  CutOk (XX w r g d os) B D U (faCode w r I F0 C1 C2) none [(I+355,iterO (G+355) (i)),(Ld+355,listO ld ed),(Lc+355,listO lc ec),(Ic+355,infO dc Lc ⟨#[99]⟩ xc nc pc),(Lb+355,listO lb eb),(Ib+355,infO db Lb ⟨#[98]⟩ xb nb pb),(Ia+355,infO da La ⟨#[97]⟩ xa na pa),(F0+355,frO (fl4 S h1 h2 h3 h4 u1 u2 u3 u4 lt le co) pe)] (A_19 P k tk ty G vs e S dS M k1 k2 k3 k4 s1 s2 s3 s4 v1 v2 ha ta Ia hb tb Ib hc tc Ic hd1 td Id dd Ld xd nd pd da db dc) (N+355) (t) ({v:FaV // N0≤v.n}) (fun v=>.ok .next) (fun v=>[]) (fun v=>A_7 rd rc dc Lc xc mc rb db Lb xb mb da La xa ma S h1 h2 u1 u2 lt v.1) (fun v=>v.1.n+355) (fun v=>v.1.t) (fun v=>[]):=by
 refine .of_q MB hB hD.lo 2040 0 ?_
 k_data
 let P₀:Rows→Pk (XX w r g d os) B D U S₀ []:=fun x₀=>(.a [1,1,1] [I+355,I+355] 1 0 0 0 [] [2] (next_some (hd:=none) (I:=I+355) (H:=G+355) (i:=i) (e:=e) (n:=N+355) (t:=t) (vs:=vs) (v:=.ref (P+355)) hi) fun _=>(.a (d8 59 0x115150806000000000600000006000000061515151515010101020101010101010101020101010101010101020101010101010101020102020201) (ixL (A_29 F0 dS S N P I) (d6 40 0x6555544444544444454444445443000002222100)) 0 0 0 0 [] [] (lower_is (k:=k) (q:=⟨#[100]⟩) (tk:=tk) (n:=N+358) (t:=t+2) MB1 hB1 hD.up hk (hxk ▸ hlow)) fun _=>(.a [0] [] 528 0 0 0 [] (d8 6 0x120c0a080604) (add1_ad (S:=S) (dS:=dS) (M:=M) (N:=N+3) (t:=t+3) (Ia:=Ia) (Ib:=Ib) (Ic:=Ic) (Id:=Id) (La:=La) (Ld:=Ld) (da:=da) (dd:=dd) (ed:=ed) (h1:=k1) (h2:=k2) (h3:=k3) (h4:=k4) (ha:=ha) (hb:=hb) (hc:=hc) (hd1:=hd1) (u1:=s1) (u2:=s2) (u3:=s3) (u4:=s4) (u5:=ty) (u6:=t+2) (ta:=ta) (tb:=tb) (tc:=tc) (td:=td) (xa:=xa) (xd:=xd) (pa:=pa) (pd:=pd) (na:=na) (nd:=nd) (ld:=ld) (v1:=v1) (v2:=v2) MB1 hB1 hD.up (by omega)) fun v2=>(.o [] [] 2040 0 0 0 [] (d8 9 0x12100e0c0a08060402) (IH (lb1:=lb) (lc1:=lc) (ld1:=ld++[Value.str ⟨#[97]⟩ ty]) (eb1:=eb) (ec1:=ec) (ed1:=ed+1) (na1:=na+1) (nb1:=nb) (nc1:=nc) (pa1:=v2.1.e) (pb1:=pb) (pc1:=pc) (h31:=h3) (h41:=h4) (u31:=u3) (u41:=u4) (le1:=.str k tk) (co1:=.str ⟨#[97]⟩ ty) (pe1:=pe) (N1:=v2.1.n) (t1:=v2.1.t) (by have:=v2.2; omega) (by rw [hd] at e1; simp [hits_cons,hlow,hxx,ne_A] at e1; first | exact e1 | (rw [← e1,List.append_assoc]; rfl)) (by rw [hd] at e2; simp [hits_cons,hlow,hxx,ne_A] at e2; first | exact e2 | (rw [← e2,List.append_assoc]; rfl)) (by rw [hd] at e3; simp [hits_cons,hlow,hxx,ne_A] at e3; first | exact e3 | (rw [← e3,List.append_assoc]; rfl)) (by rw [hd] at e4; simp [nOf_cons,hxx,sOf,ne_B] at e4; omega) (by rw [hd] at e5; simp [nOf_cons,hxx,sOf,ne_B] at e5; omega) (by rw [hd] at e6; simp [nOf_cons,hxx,sOf,ne_B] at e6; omega) (by simp; omega)) fun v3=>(.e v3)))))
 exact ⟨P₀,by intro ⟨x1,x2,x3,x4⟩; cases x2 <;> kernel_rfl⟩
include MB hB in
theorem fa_1bd (hD:Lim D U 80) (hN:N0≤N) (hi:vs[i]? = some (.ref (P+355))) (hd:es.drop i = x :: es.drop (i+1)) (hk:Arg k) (hxk:x.k = k) (hlow:low x.k = sd) (hxx:x.x = .str sb ty) (e1:lb++hits sb (es.drop i) = rb) (e2:lc++hits sc (es.drop i) = rc) (e3:ld++hits sd (es.drop i) = rd) (e4:na + nOf sa (es.drop i) = ma) (e5:nb + nOf sb (es.drop i) = mb) (e6:nc + nOf sc (es.drop i) = mc) (e7:lb.length + lc.length + ld.length≤800) (IH:A_1 N0 es i rb rc rd ma mb mc lb lc ld w r g d os B D U I F0 C1 C2 G Ld Lc Ic dc xc Lb Ib db xb Ia da La xa S h1 h2 u1 u2 lt vs e dS M k1 k2 k3 k4 s1 s2 s3 s4 v1 v2 ha ta hb tb hc tc hd1 td Id dd xd nd pd) :
  CutOk (XX w r g d os) B D U (faCode w r I F0 C1 C2) none [(I+355,iterO (G+355) (i)),(Ld+355,listO ld ed),(Lc+355,listO lc ec),(Ic+355,infO dc Lc ⟨#[99]⟩ xc nc pc),(Lb+355,listO lb eb),(Ib+355,infO db Lb ⟨#[98]⟩ xb nb pb),(Ia+355,infO da La ⟨#[97]⟩ xa na pa),(F0+355,frO (fl4 S h1 h2 h3 h4 u1 u2 u3 u4 lt le co) pe)] [(P+355,tupO [.str k tk,.str ⟨#[98]⟩ ty]),(G+355,listO vs e),(S+355,srtO dS),(dS+355,srtD M k1 k2 k3 k4 s1 s2 s3 s4 .none v1 v2),(M+355,dictO (A_3 ha ta Ia hb tb Ib hc tc Ic hd1 td Id) 4),(Id+355,infO dd Ld ⟨#[100]⟩ xd nd pd),(da+355,dictO [] 0),(db+355,dictO [] 0),(dc+355,dictO [] 0),(dd+355,dictO [] 0)] (N+355) (t) ({v:FaV // N0≤v.n}) (fun v=>.ok .next) (fun v=>[]) (fun v=>A_7 rd rc dc Lc xc mc rb db Lb xb mb da La xa ma S h1 h2 u1 u2 lt v.1) (fun v=>v.1.n+355) (fun v=>v.1.t) (fun v=>[]):=by
 refine .of_q MB hB hD.lo 2040 0 ?_
 k_data
 let P₀:Rows→Pk (XX w r g d os) B D U S₀ []:=fun x₀=>(.a [1,1,1] [I+355,I+355] 1 0 0 0 [] [2] (next_some (hd:=none) (I:=I+355) (H:=G+355) (i:=i) (e:=e) (n:=N+355) (t:=t) (vs:=vs) (v:=.ref (P+355)) hi) fun _=>(.a (d8 59 0x115150806000000000600000006000000061515151515010101020101010101010101020101010101010101020101010101010101020102020201) (ixL (A_29 F0 dS S N P I) (d6 40 0x6555544444544444454444445443000002222100)) 0 0 0 0 [] [] (lower_is (k:=k) (q:=⟨#[100]⟩) (tk:=tk) (n:=N+358) (t:=t+2) MB1 hB1 hD.up hk (hxk ▸ hlow)) fun _=>(.a [0] [] 272 0 0 0 [] (d8 6 0x120e0a080604) (add1_bd (S:=S) (dS:=dS) (M:=M) (N:=N+3) (t:=t+3) (Ia:=Ia) (Ib:=Ib) (Ic:=Ic) (Id:=Id) (Lb:=Lb) (Ld:=Ld) (db:=db) (dd:=dd) (ed:=ed) (h1:=k1) (h2:=k2) (h3:=k3) (h4:=k4) (ha:=ha) (hb:=hb) (hc:=hc) (hd1:=hd1) (u1:=s1) (u2:=s2) (u3:=s3) (u4:=s4) (u5:=ty) (u6:=t+2) (ta:=ta) (tb:=tb) (tc:=tc) (td:=td) (xb:=xb) (xd:=xd) (pb:=pb) (pd:=pd) (nb:=nb) (nd:=nd) (ld:=ld) (v1:=v1) (v2:=v2) MB1 hB1 hD.up (by omega)) fun v2=>(.o [] [] 2040 0 0 0 [] (d8 9 0x12100e0c0a08060402) (IH (lb1:=lb) (lc1:=lc) (ld1:=ld++[Value.str ⟨#[98]⟩ ty]) (eb1:=eb) (ec1:=ec) (ed1:=ed+1) (na1:=na) (nb1:=nb+1) (nc1:=nc) (pa1:=pa) (pb1:=v2.1.e) (pc1:=pc) (h31:=h3) (h41:=h4) (u31:=u3) (u41:=u4) (le1:=.str k tk) (co1:=.str ⟨#[98]⟩ ty) (pe1:=pe) (N1:=v2.1.n) (t1:=v2.1.t) (by have:=v2.2; omega) (by rw [hd] at e1; simp [hits_cons,hlow,hxx,ne_A] at e1; first | exact e1 | (rw [← e1,List.append_assoc]; rfl)) (by rw [hd] at e2; simp [hits_cons,hlow,hxx,ne_A] at e2; first | exact e2 | (rw [← e2,List.append_assoc]; rfl)) (by rw [hd] at e3; simp [hits_cons,hlow,hxx,ne_A] at e3; first | exact e3 | (rw [← e3,List.append_assoc]; rfl)) (by rw [hd] at e4; simp [nOf_cons,hxx,sOf,ne_B] at e4; omega) (by rw [hd] at e5; simp [nOf_cons,hxx,sOf,ne_B] at e5; omega) (by rw [hd] at e6; simp [nOf_cons,hxx,sOf,ne_B] at e6; omega) (by simp; omega)) fun v3=>(.e v3)))))
 exact ⟨P₀,by intro ⟨x1,x2,x3,x4⟩; cases x2 <;> kernel_rfl⟩
include MB hB in
theorem fa_1cd (hD:Lim D U 80) (hN:N0≤N) (hi:vs[i]? = some (.ref (P+355))) (hd:es.drop i = x :: es.drop (i+1)) (hk:Arg k) (hxk:x.k = k) (hlow:low x.k = sd) (hxx:x.x = .str sc ty) (e1:lb++hits sb (es.drop i) = rb) (e2:lc++hits sc (es.drop i) = rc) (e3:ld++hits sd (es.drop i) = rd) (e4:na + nOf sa (es.drop i) = ma) (e5:nb + nOf sb (es.drop i) = mb) (e6:nc + nOf sc (es.drop i) = mc) (e7:lb.length + lc.length + ld.length≤800) (IH:A_1 N0 es i rb rc rd ma mb mc lb lc ld w r g d os B D U I F0 C1 C2 G Ld Lc Ic dc xc Lb Ib db xb Ia da La xa S h1 h2 u1 u2 lt vs e dS M k1 k2 k3 k4 s1 s2 s3 s4 v1 v2 ha ta hb tb hc tc hd1 td Id dd xd nd pd) :
  CutOk (XX w r g d os) B D U (faCode w r I F0 C1 C2) none [(I+355,iterO (G+355) (i)),(Ld+355,listO ld ed),(Lc+355,listO lc ec),(Ic+355,infO dc Lc ⟨#[99]⟩ xc nc pc),(Lb+355,listO lb eb),(Ib+355,infO db Lb ⟨#[98]⟩ xb nb pb),(Ia+355,infO da La ⟨#[97]⟩ xa na pa),(F0+355,frO (fl4 S h1 h2 h3 h4 u1 u2 u3 u4 lt le co) pe)] [(P+355,tupO [.str k tk,.str ⟨#[99]⟩ ty]),(G+355,listO vs e),(S+355,srtO dS),(dS+355,srtD M k1 k2 k3 k4 s1 s2 s3 s4 .none v1 v2),(M+355,dictO (A_3 ha ta Ia hb tb Ib hc tc Ic hd1 td Id) 4),(Id+355,infO dd Ld ⟨#[100]⟩ xd nd pd),(da+355,dictO [] 0),(db+355,dictO [] 0),(dc+355,dictO [] 0),(dd+355,dictO [] 0)] (N+355) (t) ({v:FaV // N0≤v.n}) (fun v=>.ok .next) (fun v=>[]) (fun v=>A_7 rd rc dc Lc xc mc rb db Lb xb mb da La xa ma S h1 h2 u1 u2 lt v.1) (fun v=>v.1.n+355) (fun v=>v.1.t) (fun v=>[]):=by
 refine .of_q MB hB hD.lo 2040 0 ?_
 k_data
 let P₀:Rows→Pk (XX w r g d os) B D U S₀ []:=fun x₀=>(.a [1,1,1] [I+355,I+355] 1 0 0 0 [] [2] (next_some (hd:=none) (I:=I+355) (H:=G+355) (i:=i) (e:=e) (n:=N+355) (t:=t) (vs:=vs) (v:=.ref (P+355)) hi) fun _=>(.a (d8 59 0x115150806000000000600000006000000061515151515010101020101010101010101020101010101010101020101010101010101020102020201) (ixL (A_29 F0 dS S N P I) (d6 40 0x6555544444544444454444445443000002222100)) 0 0 0 0 [] [] (lower_is (k:=k) (q:=⟨#[100]⟩) (tk:=tk) (n:=N+358) (t:=t+2) MB1 hB1 hD.up hk (hxk ▸ hlow)) fun _=>(.a [0] [] 80 0 0 0 [] (d8 6 0x12100a080604) (add1_cd (S:=S) (dS:=dS) (M:=M) (N:=N+3) (t:=t+3) (Ia:=Ia) (Ib:=Ib) (Ic:=Ic) (Id:=Id) (Lc:=Lc) (Ld:=Ld) (dc:=dc) (dd:=dd) (ed:=ed) (h1:=k1) (h2:=k2) (h3:=k3) (h4:=k4) (ha:=ha) (hb:=hb) (hc:=hc) (hd1:=hd1) (u1:=s1) (u2:=s2) (u3:=s3) (u4:=s4) (u5:=ty) (u6:=t+2) (ta:=ta) (tb:=tb) (tc:=tc) (td:=td) (xc:=xc) (xd:=xd) (pc:=pc) (pd:=pd) (nc:=nc) (nd:=nd) (ld:=ld) (v1:=v1) (v2:=v2) MB1 hB1 hD.up (by omega)) fun v2=>(.o [] [] 2040 0 0 0 [] (d8 9 0x12100e0c0a08060402) (IH (lb1:=lb) (lc1:=lc) (ld1:=ld++[Value.str ⟨#[99]⟩ ty]) (eb1:=eb) (ec1:=ec) (ed1:=ed+1) (na1:=na) (nb1:=nb) (nc1:=nc+1) (pa1:=pa) (pb1:=pb) (pc1:=v2.1.e) (h31:=h3) (h41:=h4) (u31:=u3) (u41:=u4) (le1:=.str k tk) (co1:=.str ⟨#[99]⟩ ty) (pe1:=pe) (N1:=v2.1.n) (t1:=v2.1.t) (by have:=v2.2; omega) (by rw [hd] at e1; simp [hits_cons,hlow,hxx,ne_A] at e1; first | exact e1 | (rw [← e1,List.append_assoc]; rfl)) (by rw [hd] at e2; simp [hits_cons,hlow,hxx,ne_A] at e2; first | exact e2 | (rw [← e2,List.append_assoc]; rfl)) (by rw [hd] at e3; simp [hits_cons,hlow,hxx,ne_A] at e3; first | exact e3 | (rw [← e3,List.append_assoc]; rfl)) (by rw [hd] at e4; simp [nOf_cons,hxx,sOf,ne_B] at e4; omega) (by rw [hd] at e5; simp [nOf_cons,hxx,sOf,ne_B] at e5; omega) (by rw [hd] at e6; simp [nOf_cons,hxx,sOf,ne_B] at e6; omega) (by simp; omega)) fun v3=>(.h (r':=(.ok .next)) (l':=[((I+355),iterE v3.1.i),((Ld+355),listO rd v3.1.ed),((Lc+355),listO rc v3.1.ec),((Ic+355),⟨(.ref 214),some (dc+355),.plain,⟨[some (.str ⟨#[99]⟩ xc),some (.int mc v3.1.pc),some (.ref (Lc+355))]⟩⟩),((Lb+355),listO rb v3.1.eb),((Ib+355),⟨(.ref 214),some (db+355),.plain,⟨[some (.str ⟨#[98]⟩ xb),some (.int mb v3.1.pb),some (.ref (Lb+355))]⟩⟩),((Ia+355),⟨(.ref 214),some (da+355),.plain,⟨[some (.str ⟨#[97]⟩ xa),some (.int ma v3.1.pa),some (.ref (La+355))]⟩⟩),((F0+355),frO [dE h1 ⟨#[115,111,114,116,101,114]⟩ u1 (.ref (S+355)),dE h2 ⟨#[108,101,116,116,101,114]⟩ u2 lt,dE v3.1.fh ⟨#[108,101,97,118,101,115]⟩ v3.1.fu v3.1.fx,dE v3.1.fg ⟨#[99,111,109,101,115]⟩ v3.1.fv v3.1.fy] v3.1.fe)]) (m':=(v3.1.n+355)) (k':=v3.1.t) (z':=[]) ⟨v3,rfl,rfl,rfl,rfl,rfl⟩)))))
 exact ⟨P₀,by intro ⟨x1,x2,x3,x4⟩; cases x2 <;> kernel_rfl⟩
include MB hB in
theorem fa_end (hD:Lim D U 80) (hN:N0≤N) (hi:vs[i]? = none) (hz:es.drop i = []) (e1:lb++hits sb (es.drop i) = rb) (e2:lc++hits sc (es.drop i) = rc) (e3:ld++hits sd (es.drop i) = rd) (e4:na + nOf sa (es.drop i) = ma) (e5:nb + nOf sb (es.drop i) = mb) (e6:nc + nOf sc (es.drop i) = mc) (e7:lb.length + lc.length + ld.length≤800) :
  CutOk (XX w r g d os) B D U (faCode w r I F0 C1 C2) none [(I+355,iterO (G+355) (i)),(Ld+355,listO ld ed),(Lc+355,listO lc ec),(Ic+355,infO dc Lc ⟨#[99]⟩ xc nc pc),(Lb+355,listO lb eb),(Ib+355,infO db Lb ⟨#[98]⟩ xb nb pb),(Ia+355,infO da La ⟨#[97]⟩ xa na pa),(F0+355,frO (fl4 S h1 h2 h3 h4 u1 u2 u3 u4 lt le co) pe)] [(G+355,listO vs e)] (N+355) (t) ({v:FaV // N0≤v.n}) (fun v=>.ok .next) (fun v=>[]) (fun v=>A_7 rd rc dc Lc xc mc rb db Lb xb mb da La xa ma S h1 h2 u1 u2 lt v.1) (fun v=>v.1.n+355) (fun v=>v.1.t) (fun v=>[]):=by
 refine .of_q MB hB hD.lo 1020 0 ?_
 intro S₀
 let P₀:Rows→Pk (XX w r g d os) B D U S₀ []:=fun x₀=>(.a [1,1,1] [I+355,I+355] 1 0 0 0 [] [0] (next_none (I:=I+355) (H:=G+355) (i:=i) (e:=e) (n:=N+355) (t:=t) (vs:=vs) hi) fun _=>(.k [1,1] [N+356] (r':=(.ok .next)) (l':=[((I+355),iterE i),((Ld+355),listO ld ed),((Lc+355),listO lc ec),((Ic+355),⟨(.ref 214),some (dc+355),.plain,⟨[some (.str ⟨#[99]⟩ xc),some (.int nc pc),some (.ref (Lc+355))]⟩⟩),((Lb+355),listO lb eb),((Ib+355),⟨(.ref 214),some (db+355),.plain,⟨[some (.str ⟨#[98]⟩ xb),some (.int nb pb),some (.ref (Lb+355))]⟩⟩),((Ia+355),⟨(.ref 214),some (da+355),.plain,⟨[some (.str ⟨#[97]⟩ xa),some (.int na pa),some (.ref (La+355))]⟩⟩),((F0+355),frO [dE h1 ⟨#[115,111,114,116,101,114]⟩ u1 (.ref (S+355)),dE h2 ⟨#[108,101,116,116,101,114]⟩ u2 lt,dE h3 ⟨#[108,101,97,118,101,115]⟩ u3 le,dE h4 ⟨#[99,111,109,101,115]⟩ u4 co] pe)]) (m':=(N+357)) (k':=t) (z':=[]) ⟨⟨⟨eb,ec,ed,pa,pb,pc,h3,h4,u3,u4,le,co,pe,i,N+2,t⟩,by show N0≤N+2; omega⟩,rfl,(by try dsimp only [S₀]; rw [hz] at e1 e2 e3 e4 e5 e6; simp [S₀,hits,nOf] at e1 e2 e3 e4 e5 e6; simp [S₀,setO,e1,e2,e3,e4,e5,e6]),rfl,rfl,rfl⟩))
 exact ⟨P₀,by intro x; kernel_rfl⟩
section
variable {w:World} {r:Rows} {g:Array GenState} {d:Drawn} {os:OsState} {B:Heap→Prop} {D U:Nat}
theorem dwn_cases {x:Ent} (h:Dwn x):∃ c l ty,x.x = .str c ty∧low x.k = l∧((c = sa∧l = sb)∨(c = sa∧l = sc)∨(c = sb∧l = sc)∨(c = sa∧l = sd)∨(c = sb∧l = sd)∨(c = sc∧l = sd)):=by
 obtain ⟨hk,y,ty,hy,hr,hx⟩:=h
 refine ⟨y,low x.k,ty,hx,rfl,?_⟩
 have hl:low x.k = sb∨low x.k = sc∨low x.k = sd:=by
  rcases hk with h | h | h | h | h | h <;> rw [h] <;> simp [low] <;> decide
 rcases hl with h | h | h <;> rw [h] at hr ⊢ <;> rcases hy with rfl | rfl | rfl | rfl <;> first | (exfalso; revert hr; decide) | simp
theorem fa_loop1 (MB:Mono B) (hB:∀ h,B h→(KF (pr w r)).In h) (hD:Lim D U 80) {I F0 C1 C2 S dS M G N0 e Ia Ib Ic Id La Lb Lc Ld da db dc dd:Nat} {h1 h2 k1 k2 k3 k4 ha hb hc hd1:Int} {u1 u2 s1 s2 s3 s4 ta tb tc td xa xb xc xd pd:Tok} {nd ma mb mc:Int} {rb rc rd:List Value} {v1 v2 lt:Value} {es:List Ent} (hg:∀ x∈es,Dwn x) (hp:∀ h,B h→PairsIn es h) :
  ∀ (m i:Nat),es.length = i + m→∀ (lb lc ld:List Value) (eb ec ed:Nat) (na nb nc:Int) (pa pb pc:Tok) (h3 h4:Int) (u3 u4:Tok) (le co:Value) (pe N t:Nat),N0≤N→lb++hits sb (es.drop (i)) = rb→lc++hits sc (es.drop (i)) = rc→ld++hits sd (es.drop (i)) = rd→na + nOf sa (es.drop (i)) = ma→nb + nOf sb (es.drop (i)) = mb→nc + nOf sc (es.drop (i)) = mc→ lb.length + lc.length + ld.length + m≤800 →
  CutOk (XX w r g d os) B D U (faCode w r I F0 C1 C2) none [(I+355,iterO (G+355) (i)),(Ld+355,listO ld ed),(Lc+355,listO lc ec),(Ic+355,infO dc Lc ⟨#[99]⟩ xc nc pc),(Lb+355,listO lb eb),(Ib+355,infO db Lb ⟨#[98]⟩ xb nb pb),(Ia+355,infO da La ⟨#[97]⟩ xa na pa),(F0+355,frO (fl4 S h1 h2 h3 h4 u1 u2 u3 u4 lt le co) pe)] [(G+355,listO (es.map Ent.v) e),(S+355,srtO dS),(dS+355,srtD M k1 k2 k3 k4 s1 s2 s3 s4 .none v1 v2),(M+355,dictO (A_3 ha ta Ia hb tb Ib hc tc Ic hd1 td Id) 4),(Id+355,infO dd Ld ⟨#[100]⟩ xd nd pd),(da+355,dictO [] 0),(db+355,dictO [] 0),(dc+355,dictO [] 0),(dd+355,dictO [] 0)] (N+355) t {v:FaV // N0≤v.n} (fun _=>.ok .next) (fun _=>[]) (fun v=>A_7 rd rc dc Lc xc mc rb db Lb xb mb da La xa ma S h1 h2 u1 u2 lt v.1) (fun v=>v.1.n+355) (fun v=>v.1.t) (fun _=>[]):=by
 intro m
 induction m with
 | zero =>
  intro i hi lb lc ld eb ec ed na nb nc pa pb pc h3 h4 u3 u4 le co pe N t hN e1 e2 e3 e4 e5 e6 e7
  exact CutOk.wk (fun h b i=>⟨b,.cons (i.nth 0 rfl) .nil⟩) (fa_end (es:=es) MB hB hD hN (by simp; omega) (List.drop_of_length_le (by omega)) e1 e2 e3 e4 e5 e6 (by omega))
 | succ m ih =>
  intro i hi lb lc ld eb ec ed na nb nc pa pb pc h3 h4 u3 u4 le co pe N t hN e1 e2 e3 e4 e5 e6 e7
  obtain ⟨x,hx,hm,hv',hd⟩:=getE hi
  obtain ⟨c,l,ty,hxx,hlow,hcc⟩:=dwn_cases (hg x hm)
  have hP:∀ h,B h→h.get? (x.P+355) = some (tupO [.str x.k x.tk,.str c ty]):=fun h b=>by rw [← hxx]; exact hp h b x hm
  have IH:=fun (lb1 lc1 ld1:List Value) (eb1 ec1 ed1:Nat) (na1 nb1 nc1:Int) (pa1 pb1 pc1:Tok) (h31 h41:Int) (u31 u41:Tok) (le1 co1:Value) (pe1 N1 t1:Nat) (q:N0≤N1) (e1:lb1++hits sb (es.drop (i+1)) = rb) (e2:lc1++hits sc (es.drop (i+1)) = rc) (e3:ld1++hits sd (es.drop (i+1)) = rd) (e4:na1 + nOf sa (es.drop (i+1)) = ma) (e5:nb1 + nOf sb (es.drop (i+1)) = mb) (e6:nc1 + nOf sc (es.drop (i+1)) = mc) (e8:lb1.length + lc1.length + ld1.length≤lb.length + lc.length + ld.length+1) => ih (i+1) (by omega) lb1 lc1 ld1 eb1 ec1 ed1 na1 nb1 nc1 pa1 pb1 pc1 h31 h41 u31 u41 le1 co1 pe1 N1 t1 q e1 e2 e3 e4 e5 e6 (by omega)
  have hk:Arg x.k:=.inr (.inr (hg x hm).1)
  rcases hcc with ⟨rfl,rfl⟩ | ⟨rfl,rfl⟩ | ⟨rfl,rfl⟩ | ⟨rfl,rfl⟩ | ⟨rfl,rfl⟩ | ⟨rfl,rfl⟩
  ·exact CutOk.wk (fun h b i=>⟨b,.cons (hP h b) i⟩) (fa_1ab MB hB hD hN hv' hd hk rfl hlow hxx e1 e2 e3 e4 e5 e6 (by omega) IH)
  ·exact CutOk.wk (fun h b i=>⟨b,.cons (hP h b) i⟩) (fa_1ac MB hB hD hN hv' hd hk rfl hlow hxx e1 e2 e3 e4 e5 e6 (by omega) IH)
  ·exact CutOk.wk (fun h b i=>⟨b,.cons (hP h b) i⟩) (fa_1bc MB hB hD hN hv' hd hk rfl hlow hxx e1 e2 e3 e4 e5 e6 (by omega) IH)
  ·exact CutOk.wk (fun h b i=>⟨b,.cons (hP h b) i⟩) (fa_1ad MB hB hD hN hv' hd hk rfl hlow hxx e1 e2 e3 e4 e5 e6 (by omega) IH)
  ·exact CutOk.wk (fun h b i=>⟨b,.cons (hP h b) i⟩) (fa_1bd MB hB hD hN hv' hd hk rfl hlow hxx e1 e2 e3 e4 e5 e6 (by omega) IH)
  ·exact CutOk.wk (fun h b i=>⟨b,.cons (hP h b) i⟩) (fa_1cd MB hB hD hN hv' hd hk rfl hlow hxx e1 e2 e3 e4 e5 e6 (by omega) IH)
theorem fa_loop0 (MB:Mono B) (hB:∀ h,B h→(KF (pr w r)).In h) (hD:Lim D U 80) {I F0 C1 C2 S dS M G e Ia Ib Ic Id La Lb Lc Ld da db dc dd:Nat} {h1 h2 k1 k2 k3 k4 ha hb hc hd1:Int} {u1 u2 s1 s2 s3 s4 ta tb tc td xa xb xc xd pa pb pc pd:Tok} {nd:Int} {v1 v2 lt:Value} {es:List Ent} (hg:∀ x∈es,Dwn x) (hp:∀ h,B h→PairsIn es h) (h0:0 < es.length∧es.length≤400) {pe N t:Nat} :
  CutOk (XX w r g d os) B D U (faCode w r I F0 C1 C2) none [(I+355,iterO (G+355) (0)),(Ld+355,listO [] 0),(Lc+355,listO [] 0),(Ic+355,infO dc Lc ⟨#[99]⟩ xc 0 pc),(Lb+355,listO [] 0),(Ib+355,infO db Lb ⟨#[98]⟩ xb 0 pb),(Ia+355,infO da La ⟨#[97]⟩ xa 0 pa),(F0+355,frO (fl2 S h1 h2 u1 u2 lt) pe)] [(G+355,listO (es.map Ent.v) e),(S+355,srtO dS),(dS+355,srtD M k1 k2 k3 k4 s1 s2 s3 s4 .none v1 v2),(M+355,dictO (A_3 ha ta Ia hb tb Ib hc tc Ic hd1 td Id) 4),(Id+355,infO dd Ld ⟨#[100]⟩ xd nd pd),(da+355,dictO [] 0),(db+355,dictO [] 0),(dc+355,dictO [] 0),(dd+355,dictO [] 0)] (N+355) t {v:FaV // N≤v.n} (fun _=>.ok .next) (fun _=>[]) (fun v=>[iterE v.1.i,listO (hits sd es) v.1.ed,listO (hits sc es) v.1.ec,infO dc Lc ⟨#[99]⟩ xc (nOf sc es) v.1.pc,listO (hits sb es) v.1.eb,infO db Lb ⟨#[98]⟩ xb (nOf sb es) v.1.pb,infO da La ⟨#[97]⟩ xa (nOf sa es) v.1.pa,frO (fl4 S h1 h2 v.1.fh v.1.fg u1 u2 v.1.fu v.1.fv lt v.1.fx v.1.fy) v.1.fe]) (fun v=>v.1.n+355) (fun v=>v.1.t) (fun _=>[]):=by
 obtain ⟨x,hx,hm,hv',hd⟩:=getE (es:=es) (i:=0) (m:=es.length - 1) (by omega)
 obtain ⟨c,l,ty,hxx,hlow,hcc⟩:=dwn_cases (hg x hm)
 have hP:∀ h,B h→h.get? (x.P+355) = some (tupO [.str x.k x.tk,.str c ty]):=fun h b=>by rw [← hxx]; exact hp h b x hm
 have IH:=fun (lb1 lc1 ld1:List Value) (eb1 ec1 ed1:Nat) (na1 nb1 nc1:Int) (pa1 pb1 pc1:Tok) (h31 h41:Int) (u31 u41:Tok) (le1 co1:Value) (pe1 N1 t1:Nat) (q:N≤N1) (e1:lb1++hits sb (es.drop (0+1)) = hits sb es) (e2:lc1++hits sc (es.drop (0+1)) = hits sc es) (e3:ld1++hits sd (es.drop (0+1)) = hits sd es) (e4:na1 + nOf sa (es.drop (0+1)) = nOf sa es) (e5:nb1 + nOf sb (es.drop (0+1)) = nOf sb es) (e6:nc1 + nOf sc (es.drop (0+1)) = nOf sc es) (e8:lb1.length + lc1.length + ld1.length≤([]:List Value).length + ([]:List Value).length + ([]:List Value).length+1) => fa_loop1 (g:=g) (d:=d) (os:=os) MB hB hD (I:=I) (F0:=F0) (C1:=C1) (C2:=C2) (S:=S) (dS:=dS) (M:=M) (G:=G) (e:=e) (Ia:=Ia) (Ib:=Ib) (Ic:=Ic) (Id:=Id) (La:=La) (Lb:=Lb) (Lc:=Lc) (Ld:=Ld) (da:=da) (db:=db) (dc:=dc) (dd:=dd) (h1:=h1) (h2:=h2) (k1:=k1) (k2:=k2) (k3:=k3) (k4:=k4) (ha:=ha) (hb:=hb) (hc:=hc) (hd1:=hd1) (u1:=u1) (u2:=u2) (s1:=s1) (s2:=s2) (s3:=s3) (s4:=s4) (ta:=ta) (tb:=tb) (tc:=tc) (td:=td) (xa:=xa) (xb:=xb) (xc:=xc) (xd:=xd) (pd:=pd) (nd:=nd) (v1:=v1) (v2:=v2) (lt:=lt) hg hp (es.length - 1) (0+1) (by omega) lb1 lc1 ld1 eb1 ec1 ed1 na1 nb1 nc1 pa1 pb1 pc1 h31 h41 u31 u41 le1 co1 pe1 N1 t1 q e1 e2 e3 e4 e5 e6 (by simp at e8; omega)
 have hk:Arg x.k:=.inr (.inr (hg x hm).1)
 rcases hcc with ⟨rfl,rfl⟩ | ⟨rfl,rfl⟩ | ⟨rfl,rfl⟩ | ⟨rfl,rfl⟩ | ⟨rfl,rfl⟩ | ⟨rfl,rfl⟩
 ·exact CutOk.wk (fun h b i=>⟨b,.cons (hP h b) i⟩) (fa_0ab (i:=0) (es:=es) MB hB hD (Nat.le_refl N) hv' hd hk rfl hlow hxx (by simp) (by simp) (by simp) (by simp) (by simp) (by simp) (by simp) IH)
 ·exact CutOk.wk (fun h b i=>⟨b,.cons (hP h b) i⟩) (fa_0ac (i:=0) (es:=es) MB hB hD (Nat.le_refl N) hv' hd hk rfl hlow hxx (by simp) (by simp) (by simp) (by simp) (by simp) (by simp) (by simp) IH)
 ·exact CutOk.wk (fun h b i=>⟨b,.cons (hP h b) i⟩) (fa_0bc (i:=0) (es:=es) MB hB hD (Nat.le_refl N) hv' hd hk rfl hlow hxx (by simp) (by simp) (by simp) (by simp) (by simp) (by simp) (by simp) IH)
 ·exact CutOk.wk (fun h b i=>⟨b,.cons (hP h b) i⟩) (fa_0ad (i:=0) (es:=es) MB hB hD (Nat.le_refl N) hv' hd hk rfl hlow hxx (by simp) (by simp) (by simp) (by simp) (by simp) (by simp) (by simp) IH)
 ·exact CutOk.wk (fun h b i=>⟨b,.cons (hP h b) i⟩) (fa_0bd (i:=0) (es:=es) MB hB hD (Nat.le_refl N) hv' hd hk rfl hlow hxx (by simp) (by simp) (by simp) (by simp) (by simp) (by simp) (by simp) IH)
 ·exact CutOk.wk (fun h b i=>⟨b,.cons (hP h b) i⟩) (fa_0cd (i:=0) (es:=es) MB hB hD (Nat.le_refl N) hv' hd hk rfl hlow hxx (by simp) (by simp) (by simp) (by simp) (by simp) (by simp) (by simp) IH)
end
end
section
noncomputable abbrev rcCode (w:World) (r:Rows) (L5 A I C F0:Nat):Code:=.compLoop (asgE (nthS (forB (nthS (fnBody (KF (pr w r)) 349) 1)) 0)) 0 (.ref (I+355)) (.ref (A+355)) { scope:=compSc (asgE (nthS (forB (nthS (fnBody (KF (pr w r)) 349) 1)) 0)),locals:=L5+355,globals:=3,cells:=[((⟨#[108,101,116,116,101,114]⟩:Str),C+355)],qual:=(⟨#[95,108,97,119,95,114,111,119,115,46,60,108,111,99,97,108,115,62,46]⟩:Str),func:=none,code:=.ref 348,frame:=some (F0+355),builtins:=0 }
structure RcV where
 fh:Int
 fg:Int
 fu:Tok
 fv:Tok
 fx:Value
 fy:Value
 ae:Nat
 i:Nat
 n:Nat
 t:Nat
include MB hB in
theorem eq_tt (hD:Lim D U 50) {x y:Str} (hx:x = sb∨x = sc∨x = sd) (hy:Let y) (h:x = y) {tx ty:Tok} {n t:Nat} :
  CutOk (XX w r g d os) B D U (.builtin "str.__eq__" ⟨[.str x tx,.str y ty],[]⟩) none [] [] n t Unit (fun _=>.ok (.ret (.bool true))) (fun _=>[]) (fun _=>[]) (fun _=>n) (fun _=>t) (fun _=>[]):=by
 have:=eq_ok (g:=g) (d:=d) (os:=os) MB hB hD hx hy (tx:=tx) (ty:=ty) (n:=n) (t:=t)
 rwa [decide_eq_true h] at this
include MB hB in
theorem eq_ff (hD:Lim D U 50) {x y:Str} (hx:x = sb∨x = sc∨x = sd) (hy:Let y) (h:x≠y) {tx ty:Tok} {n t:Nat} :
  CutOk (XX w r g d os) B D U (.builtin "str.__eq__" ⟨[.str x tx,.str y ty],[]⟩) none [] [] n t Unit (fun _=>.ok (.ret (.bool false))) (fun _=>[]) (fun _=>[]) (fun _=>n) (fun _=>t) (fun _=>[]):=by
 have:=eq_ok (g:=g) (d:=d) (os:=os) MB hB hD hx hy (tx:=tx) (ty:=ty) (n:=n) (t:=t)
 rwa [decide_eq_false h] at this
noncomputable abbrev A_11 (N0:Nat) (nm:Str) (es:List Ent) (i:Nat) (res acc:List Value) (w:World) (r:Rows) (g:Array GenState) (d:Drawn) (os:OsState) (B:Heap→Prop) (D U L5 A I C F0 G:Nat) (tn:Tok) (vs:List Value) (ge:Nat):Prop:=∀ (acc1:List Value) (ae1:Nat) (h11 h21:Int) (u11 u21:Tok) (v11 v21:Value) (N1 t1:Nat),N0≤N1→acc1++hits nm (es.drop (i+1)) = res→acc1.length≤acc.length+1→CutOk (XX w r g d os) B D U (rcCode w r L5 A I C F0) none [(L5+355,dictO [dE h11 (⟨#[108,101,97,118,101,115]⟩:Str) u11 v11,dE h21 (⟨#[99,111,109,101,115]⟩:Str) u21 v21] 2),(A+355,listO acc1 ae1),(I+355,iterO (G+355) (i+1))] [(C+355,cellO (.str nm tn)),(G+355,listO vs ge)] (N1+355) t1 ({v:RcV // N0≤v.n}) (fun _=>.ok .next) (fun _=>[]) (fun v=>[dictO [dE v.1.fh (⟨#[108,101,97,118,101,115]⟩:Str) v.1.fu v.1.fx,dE v.1.fg (⟨#[99,111,109,101,115]⟩:Str) v.1.fv v.1.fy] 2,listO res v.1.ae,iterE v.1.i]) (fun v=>v.1.n+355) (fun v=>v.1.t) (fun _=>[])
noncomputable abbrev A_27 (res:List Value) (χ:RcV):List Obj:=[dictO [dE χ.fh (⟨#[108,101,97,118,101,115]⟩:Str) χ.fu χ.fx,dE χ.fg (⟨#[99,111,109,101,115]⟩:Str) χ.fv χ.fy] 2,listO res χ.ae,iterE χ.i]
variable {L5 A I C F0 G P ge ae i N N0 t:Nat} {tn tk:Tok} {nm k y:Str} {ty:Tok} {vs acc res:List Value} {es:List Ent} {x:Ent}
include MB hB in
theorem rc_t0 (hD:Lim D U 60) (hN:N0≤N) (ha:acc.length≤900) (hk:Key k) (hy:Let nm) (hi:vs[i]? = some (.ref (P+355))) (hd:es.drop i = x :: es.drop (i+1)) (hxk:x.k = k) (hxx:x.x = .str y ty) (hh:low k = nm) (hr:acc++hits nm (es.drop i) = res) (IH:A_11 N0 nm es i res acc w r g d os B D U L5 A I C F0 G tn vs ge) :
  CutOk (XX w r g d os) B D U (rcCode w r L5 A I C F0) none [(L5+355,dictO [] 0),(A+355,listO acc ae),(I+355,iterO (G+355) i)] [(P+355,tupO [.str k tk,.str y ty]),(C+355,cellO (.str nm tn)),(G+355,listO vs ge)] (N+355) (t) ({v:RcV // N0≤v.n}) (fun v=>.ok .next) (fun v=>[]) (fun v=>A_27 res v.1) (fun v=>v.1.n+355) (fun v=>v.1.t) (fun v=>[]):=by
 refine .of_q MB hB hD.lo 56 0 ?_
 k_data
 let P₀:Rows→Pk (XX w r g d os) B D U S₀ []:=fun x₀=>(.a [5,1,5] [I+355,I+355] 4 0 0 0 [] [4] (next_some (hd:=none) (I:=I+355) (H:=G+355) (i:=i) (e:=ge) (n:=N+355) (t:=t) (vs:=vs) (v:=.ref (P+355)) hi) fun _=>(.a (d6 42 0x177777111211111111211111111211111111212225) (ix [L5+355,N+357,N+355,P+355,I+355] 33 0x433332222232222223222222322100000) 0 0 0 0 [] [] (lower_ok (k:=k) (tk:=tk) (n:=N+358) (t:=t+2) MB1 hB1 hD.up (.inr (.inr hk))) fun _=>(.a [4,1] [C+355] 0 0 0 0 [] [] (eq_tt (x:=low k) (y:=nm) (tx:=t+2) (ty:=tn) (n:=N+358) (t:=t+3) MB1 hB1 hD.up (key_low hk) hy hh) fun _=>(.a [7,1,9] [A+355,L5+355] 16 0 0 0 [] [] (append_ok (hd:=none) (H:=A+355) (e:=ae) (n:=N+358) (t:=t+3) (vs:=acc) (x:=.str y ty) (by omega)) fun _=>(.o [] [] 56 0 0 0 [] [2,4] (IH (acc1:=acc++[Value.str y ty]) (ae1:=ae+1) (h11:=kh w r ⟨#[108,101,97,118,101,115]⟩) (h21:=kh w r ⟨#[99,111,109,101,115]⟩) (u11:=t) (u21:=t+1) (v11:=.str k tk) (v21:=.str y ty) (N1:=N+3) (t1:=t+3) (by omega) (by rw [← hr,hd,hits_cons,hxk]; simp [hh,hxx]) (by simp)) fun v4=>(.e v4))))))
 exact ⟨P₀,by intro ⟨x1,x2,x3,x4⟩; cases x2 <;> kernel_rfl⟩
include MB hB in
theorem rc_f0 (hD:Lim D U 60) (hN:N0≤N) (ha:acc.length≤900) (hk:Key k) (hy:Let nm) (hi:vs[i]? = some (.ref (P+355))) (hd:es.drop i = x :: es.drop (i+1)) (hxk:x.k = k) (hxx:x.x = .str y ty) (hh:low k≠nm) (hr:acc++hits nm (es.drop i) = res) (IH:A_11 N0 nm es i res acc w r g d os B D U L5 A I C F0 G tn vs ge) :
  CutOk (XX w r g d os) B D U (rcCode w r L5 A I C F0) none [(L5+355,dictO [] 0),(A+355,listO acc ae),(I+355,iterO (G+355) i)] [(P+355,tupO [.str k tk,.str y ty]),(C+355,cellO (.str nm tn)),(G+355,listO vs ge)] (N+355) (t) ({v:RcV // N0≤v.n}) (fun v=>.ok .next) (fun v=>[]) (fun v=>A_27 res v.1) (fun v=>v.1.n+355) (fun v=>v.1.t) (fun v=>[]):=by
 refine .of_q MB hB hD.lo 56 0 ?_
 k_data
 let P₀:Rows→Pk (XX w r g d os) B D U S₀ []:=fun x₀=>(.a [5,1,5] [I+355,I+355] 4 0 0 0 [] [4] (next_some (hd:=none) (I:=I+355) (H:=G+355) (i:=i) (e:=ge) (n:=N+355) (t:=t) (vs:=vs) (v:=.ref (P+355)) hi) fun _=>(.a (d6 42 0x177777111211111111211111111211111111212225) (ix [L5+355,N+357,N+355,P+355,I+355] 33 0x433332222232222223222222322100000) 0 0 0 0 [] [] (lower_ok (k:=k) (tk:=tk) (n:=N+358) (t:=t+2) MB1 hB1 hD.up (.inr (.inr hk))) fun _=>(.a [4,1] [C+355] 0 0 0 0 [] [] (eq_ff (x:=low k) (y:=nm) (tx:=t+2) (ty:=tn) (n:=N+358) (t:=t+3) MB1 hB1 hD.up (key_low hk) hy hh) fun _=>(.o [] [] 56 0 0 0 [] [2,4] (IH (acc1:=acc) (ae1:=ae) (h11:=kh w r ⟨#[108,101,97,118,101,115]⟩) (h21:=kh w r ⟨#[99,111,109,101,115]⟩) (u11:=t) (u21:=t+1) (v11:=.str k tk) (v21:=.str y ty) (N1:=N+3) (t1:=t+3) (by omega) (by rw [← hr,hd,hits_cons,hxk]; simp [hh,hxx]) (by simp)) fun v3=>(.e v3)))))
 exact ⟨P₀,by intro ⟨x1,x2,x3,x4⟩; cases x2 <;> kernel_rfl⟩
variable {h1 h2:Int} {u1 u2:Tok} {v1 v2:Value}
include MB hB in
theorem rc_t1 (hD:Lim D U 60) (hN:N0≤N) (ha:acc.length≤900) (hk:Key k) (hy:Let nm) (hi:vs[i]? = some (.ref (P+355))) (hd:es.drop i = x :: es.drop (i+1)) (hxk:x.k = k) (hxx:x.x = .str y ty) (hh:low k = nm) (hr:acc++hits nm (es.drop i) = res) (IH:A_11 N0 nm es i res acc w r g d os B D U L5 A I C F0 G tn vs ge) :
  CutOk (XX w r g d os) B D U (rcCode w r L5 A I C F0) none [(L5+355,dictO [dE h1 (⟨#[108,101,97,118,101,115]⟩:Str) u1 v1,dE h2 (⟨#[99,111,109,101,115]⟩:Str) u2 v2] 2),(A+355,listO acc ae),(I+355,iterO (G+355) i)] [(P+355,tupO [.str k tk,.str y ty]),(C+355,cellO (.str nm tn)),(G+355,listO vs ge)] (N+355) (t) ({v:RcV // N0≤v.n}) (fun v=>.ok .next) (fun v=>[]) (fun v=>A_27 res v.1) (fun v=>v.1.n+355) (fun v=>v.1.t) (fun v=>[]):=by
 refine .of_q MB hB hD.lo 56 0 ?_
 k_data
 let P₀:Rows→Pk (XX w r g d os) B D U S₀ []:=fun x₀=>(.a [5,1,5] [I+355,I+355] 4 0 0 0 [] [4] (next_some (hd:=none) (I:=I+355) (H:=G+355) (i:=i) (e:=ge) (n:=N+355) (t:=t) (vs:=vs) (v:=.ref (P+355)) hi) fun _=>(.a (d6 42 0x177777111211111111211111111211111111212225) (ix [L5+355,N+357,N+355,P+355,I+355] 33 0x433332222232222223222222322100000) 0 0 0 0 [] [] (lower_ok (k:=k) (tk:=tk) (n:=N+358) (t:=t+2) MB1 hB1 hD.up (.inr (.inr hk))) fun _=>(.a [4,1] [C+355] 0 0 0 0 [] [] (eq_tt (x:=low k) (y:=nm) (tx:=t+2) (ty:=tn) (n:=N+358) (t:=t+3) MB1 hB1 hD.up (key_low hk) hy hh) fun _=>(.a [7,1,9] [A+355,L5+355] 16 0 0 0 [] [] (append_ok (hd:=none) (H:=A+355) (e:=ae) (n:=N+358) (t:=t+3) (vs:=acc) (x:=.str y ty) (by omega)) fun _=>(.o [] [] 56 0 0 0 [] [2,4] (IH (acc1:=acc++[Value.str y ty]) (ae1:=ae+1) (h11:=h1) (h21:=h2) (u11:=u1) (u21:=u2) (v11:=.str k tk) (v21:=.str y ty) (N1:=N+3) (t1:=t+3) (by omega) (by rw [← hr,hd,hits_cons,hxk]; simp [hh,hxx]) (by simp)) fun v4=>(.e v4))))))
 exact ⟨P₀,by intro ⟨x1,x2,x3,x4⟩; cases x2 <;> kernel_rfl⟩
include MB hB in
theorem rc_f1 (hD:Lim D U 60) (hN:N0≤N) (ha:acc.length≤900) (hk:Key k) (hy:Let nm) (hi:vs[i]? = some (.ref (P+355))) (hd:es.drop i = x :: es.drop (i+1)) (hxk:x.k = k) (hxx:x.x = .str y ty) (hh:low k≠nm) (hr:acc++hits nm (es.drop i) = res) (IH:A_11 N0 nm es i res acc w r g d os B D U L5 A I C F0 G tn vs ge) :
  CutOk (XX w r g d os) B D U (rcCode w r L5 A I C F0) none [(L5+355,dictO [dE h1 (⟨#[108,101,97,118,101,115]⟩:Str) u1 v1,dE h2 (⟨#[99,111,109,101,115]⟩:Str) u2 v2] 2),(A+355,listO acc ae),(I+355,iterO (G+355) i)] [(P+355,tupO [.str k tk,.str y ty]),(C+355,cellO (.str nm tn)),(G+355,listO vs ge)] (N+355) (t) ({v:RcV // N0≤v.n}) (fun v=>.ok .next) (fun v=>[]) (fun v=>A_27 res v.1) (fun v=>v.1.n+355) (fun v=>v.1.t) (fun v=>[]):=by
 refine .of_q MB hB hD.lo 56 0 ?_
 k_data
 let P₀:Rows→Pk (XX w r g d os) B D U S₀ []:=fun x₀=>(.a [5,1,5] [I+355,I+355] 4 0 0 0 [] [4] (next_some (hd:=none) (I:=I+355) (H:=G+355) (i:=i) (e:=ge) (n:=N+355) (t:=t) (vs:=vs) (v:=.ref (P+355)) hi) fun _=>(.a (d6 42 0x177777111211111111211111111211111111212225) (ix [L5+355,N+357,N+355,P+355,I+355] 33 0x433332222232222223222222322100000) 0 0 0 0 [] [] (lower_ok (k:=k) (tk:=tk) (n:=N+358) (t:=t+2) MB1 hB1 hD.up (.inr (.inr hk))) fun _=>(.a [4,1] [C+355] 0 0 0 0 [] [] (eq_ff (x:=low k) (y:=nm) (tx:=t+2) (ty:=tn) (n:=N+358) (t:=t+3) MB1 hB1 hD.up (key_low hk) hy hh) fun _=>(.o [] [] 56 0 0 0 [] [2,4] (IH (acc1:=acc) (ae1:=ae) (h11:=h1) (h21:=h2) (u11:=u1) (u21:=u2) (v11:=.str k tk) (v21:=.str y ty) (N1:=N+3) (t1:=t+3) (by omega) (by rw [← hr,hd,hits_cons,hxk]; simp [hh,hxx]) (by simp)) fun v3=>(.h (r':=(.ok .next)) (l':=[((L5+355),dictO [dE v3.1.fh ⟨#[108,101,97,118,101,115]⟩ v3.1.fu v3.1.fx,dE v3.1.fg ⟨#[99,111,109,101,115]⟩ v3.1.fv v3.1.fy] 2),((A+355),listO res v3.1.ae),((I+355),iterE v3.1.i)]) (m':=(v3.1.n+355)) (k':=v3.1.t) (z':=[]) ⟨v3,rfl,rfl,rfl,rfl,rfl⟩)))))
 exact ⟨P₀,by intro ⟨x1,x2,x3,x4⟩; cases x2 <;> kernel_rfl⟩
include MB hB in
theorem rc_end (hD:Lim D U 60) (hN:N0≤N) (hi:vs[i]? = none) (hz:es.drop i = []) (hr:acc++hits nm (es.drop i) = res) :
  CutOk (XX w r g d os) B D U (rcCode w r L5 A I C F0) none [(L5+355,dictO [dE h1 (⟨#[108,101,97,118,101,115]⟩:Str) u1 v1,dE h2 (⟨#[99,111,109,101,115]⟩:Str) u2 v2] 2),(A+355,listO acc ae),(I+355,iterO (G+355) i)] [(G+355,listO vs ge)] (N+355) (t) ({v:RcV // N0≤v.n}) (fun v=>.ok .next) (fun v=>[]) (fun v=>A_27 res v.1) (fun v=>v.1.n+355) (fun v=>v.1.t) (fun v=>[]):=by
 refine .of_q MB hB hD.lo 28 0 ?_
 intro S₀
 let P₀:Rows→Pk (XX w r g d os) B D U S₀ []:=fun x₀=>(.a [5,1,5] [I+355,I+355] 4 0 0 0 [] [0] (next_none (I:=I+355) (H:=G+355) (i:=i) (e:=ge) (n:=N+355) (t:=t) (vs:=vs) hi) fun _=>(.k [1] [N+356] (r':=(.ok .next)) (l':=[((L5+355),dictO [dE h1 ⟨#[108,101,97,118,101,115]⟩ u1 v1,dE h2 ⟨#[99,111,109,101,115]⟩ u2 v2] 2),((A+355),listO acc ae),((I+355),iterE i)]) (m':=(N+357)) (k':=t) (z':=[]) ⟨⟨⟨h1,h2,u1,u2,v1,v2,ae,i,N+2,t⟩,by show N0≤N+2; omega⟩,rfl,(by try dsimp only [S₀]; rw [← hr,hz]; simp [S₀,setO,hits]),rfl,rfl,rfl⟩))
 exact ⟨P₀,by intro x; kernel_rfl⟩
section
variable {w:World} {r:Rows} {g:Array GenState} {d:Drawn} {os:OsState} {B:Heap→Prop} {D U:Nat}
theorem rc_loop1 (MB:Mono B) (hB:∀ h,B h→(KF (pr w r)).In h) (hD:Lim D U 60) {L5 A I C F0 G ge N0:Nat} {nm:Str} {tn:Tok} {res:List Value} {es:List Ent} (hy:Let nm) (hg:∀ x∈es,Dwn x) (hp:∀ h,B h→PairsIn es h):∀ (m i:Nat),es.length = i + m→∀ (acc:List Value) (ae:Nat) (h1 h2:Int) (u1 u2:Tok) (v1 v2:Value) (N t:Nat),N0≤N→acc++hits nm (es.drop i) = res→acc.length + m≤900 →
  CutOk (XX w r g d os) B D U (rcCode w r L5 A I C F0) none [(L5+355,dictO [dE h1 (⟨#[108,101,97,118,101,115]⟩:Str) u1 v1,dE h2 (⟨#[99,111,109,101,115]⟩:Str) u2 v2] 2),(A+355,listO acc ae),(I+355,iterO (G+355) i)] [(C+355,cellO (.str nm tn)),(G+355,listO (es.map Ent.v) ge)] (N+355) t ({v:RcV // N0≤v.n}) (fun _=>.ok .next) (fun _=>[]) (fun v=>A_27 res v.1) (fun v=>v.1.n+355) (fun v=>v.1.t) (fun _=>[]):=by
 intro m
 induction m with
 | zero =>
  intro i hi acc ae h1 h2 u1 u2 v1 v2 N t hN hr ha
  exact CutOk.wk (fun h b i=>⟨b,.cons (i.nth 1 rfl) .nil⟩) (rc_end (es:=es) MB hB hD hN (by simp; omega) (List.drop_of_length_le (by omega)) hr)
 | succ m ih =>
  intro i hi acc ae h1 h2 u1 u2 v1 v2 N t hN hr ha
  obtain ⟨x,hx,hm,hv',hd⟩:=getE hi
  have IH:=fun (acc1:List Value) (ae1:Nat) (h11 h21:Int) (u11 u21:Tok) (v11 v21:Value) (N1 t1:Nat) (q:N0≤N1) (e1:acc1++hits nm (es.drop (i+1)) = res) (e2:acc1.length≤acc.length+1) => ih (i+1) (by omega) acc1 ae1 h11 h21 u11 u21 v11 v21 N1 t1 q e1 (by omega)
  obtain ⟨hk,y,ty,_,_,hxx⟩:=hg x hm
  have hP:∀ h,B h→h.get? (x.P+355) = some (tupO [.str x.k x.tk,.str y ty]):=fun h b=>by rw [← hxx]; exact hp h b x hm
  by_cases hh:low x.k = nm
  ·exact CutOk.wk (fun h b i=>⟨b,.cons (hP h b) i⟩) (rc_t1 MB hB hD hN (by omega) hk hy hv' hd rfl hxx hh hr IH)
  ·exact CutOk.wk (fun h b i=>⟨b,.cons (hP h b) i⟩) (rc_f1 MB hB hD hN (by omega) hk hy hv' hd rfl hxx hh hr IH)
theorem rc_loop0 (MB:Mono B) (hB:∀ h,B h→(KF (pr w r)).In h) (hD:Lim D U 60) {L5 A I C F0 G ge:Nat} {nm:Str} {tn:Tok} {es:List Ent} (hy:Let nm) (hg:∀ x∈es,Dwn x) (hp:∀ h,B h→PairsIn es h) (h0:0 < es.length∧es.length≤400) {N t:Nat} :
  CutOk (XX w r g d os) B D U (rcCode w r L5 A I C F0) none [(L5+355,dictO [] 0),(A+355,listO [] 0),(I+355,iterO (G+355) 0)] [(C+355,cellO (.str nm tn)),(G+355,listO (es.map Ent.v) ge)] (N+355) t ({v:RcV // N≤v.n}) (fun _=>.ok .next) (fun _=>[]) (fun v=>[dictO [dE v.1.fh (⟨#[108,101,97,118,101,115]⟩:Str) v.1.fu v.1.fx,dE v.1.fg (⟨#[99,111,109,101,115]⟩:Str) v.1.fv v.1.fy] 2,listO (hits nm es) v.1.ae,iterE v.1.i]) (fun v=>v.1.n+355) (fun v=>v.1.t) (fun _=>[]):=by
 obtain ⟨x,hx,hm,hv',hd⟩:=getE (es:=es) (i:=0) (m:=es.length - 1) (by omega)
 have IH:=fun (acc1:List Value) (ae1:Nat) (h11 h21:Int) (u11 u21:Tok) (v11 v21:Value) (N1 t1:Nat) (q:N≤N1) (e1:acc1++hits nm (es.drop (0+1)) = hits nm es) (e2:acc1.length≤([]:List Value).length+1) => rc_loop1 (g:=g) (d:=d) (os:=os) MB hB hD (L5:=L5) (A:=A) (I:=I) (C:=C) (F0:=F0) (G:=G) (ge:=ge) (tn:=tn) hy hg hp (es.length - 1) (0+1) (by omega) acc1 ae1 h11 h21 u11 u21 v11 v21 N1 t1 q e1 (by simp at e2; omega)
 obtain ⟨hk,y,ty,_,_,hxx⟩:=hg x hm
 have hP:∀ h,B h→h.get? (x.P+355) = some (tupO [.str x.k x.tk,.str y ty]):=fun h b=>by rw [← hxx]; exact hp h b x hm
 by_cases hh:low x.k = nm
 ·exact CutOk.wk (fun h b i=>⟨b,.cons (hP h b) i⟩) (rc_t0 (i:=0) MB hB hD (Nat.le_refl N) (by simp) hk hy hv' hd rfl hxx hh (by simp) IH)
 ·exact CutOk.wk (fun h b i=>⟨b,.cons (hP h b) i⟩) (rc_f0 (i:=0) MB hB hD (Nat.le_refl N) (by simp) hk hy hv' hd rfl hxx hh (by simp) IH)
end
end
section
structure Mx where
 k:Tok
 n:Nat
 t:Nat
variable {x N t:Nat} {t1 t2:Tok}
include MB hB in
theorem max_t (hD:Lim D U 50) (h:1 < x) :
  CutOk (XX w r g d os) B D U (.builtin "max" ⟨[.int 1 t1,.int (x:Nat) t2],[]⟩) none [] [] (N+355) (t) ({v:Mx // N≤v.n}) (fun v=>.ok (.ret (.int ((max 1 x:Nat):Int) v.1.k))) (fun v=>[]) (fun v=>[]) (fun v=>v.1.n+355) (fun v=>v.1.t) (fun v=>[]):=by
 refine .of_q MB hB hD.lo 0 0 ?_
 intro S₀
 let P₀:Rows→Pk (XX w r g d os) B D U S₀ []:=fun x₀=>(.a (d6 32 0x13353313131111133533131311111111) (ix [N+356,N+355,N+357] 23 0x11102000010022220000100) 0 0 0 1 [] [] (igt_t (hd:=none) (n:=N+358) (t:=t) (a:=↑x) (b:=1) (ta:=t2) (tb:=t1) (by omega)) fun _=>(.k (d6 18 0x555133533131311111) (ix [N+357,N+359,N+356,N+355] 15 0x22223221000) (r':=(.ok (.ret (.int (↑x) t2)))) (l':=[]) (m':=(N+360)) (k':=t) (z':=[]) ⟨⟨⟨t2,N+5,t⟩,by show N≤N+5; omega⟩,(by try dsimp only [S₀]; rw [Nat.max_eq_right (by omega)]),rfl,rfl,rfl,rfl⟩))
 exact ⟨P₀,by intro ⟨x1,x2,x3,x4⟩; cases x2 <;> kernel_rfl⟩
include MB hB in
theorem max_f (hD:Lim D U 50) (h:¬ 1 < x) :
  CutOk (XX w r g d os) B D U (.builtin "max" ⟨[.int 1 t1,.int (x:Nat) t2],[]⟩) none [] [] (N+355) (t) ({v:Mx // N≤v.n}) (fun v=>.ok (.ret (.int ((max 1 x:Nat):Int) v.1.k))) (fun v=>[]) (fun v=>[]) (fun v=>v.1.n+355) (fun v=>v.1.t) (fun v=>[]):=by
 refine .of_q MB hB hD.lo 0 0 ?_
 intro S₀
 let P₀:Rows→Pk (XX w r g d os) B D U S₀ []:=fun x₀=>(.a (d6 32 0x13353313131111133533131311111111) (ix [N+356,N+355,N+357] 23 0x11102000010022220000100) 0 0 0 1 [] [] (igt_f (hd:=none) (n:=N+358) (t:=t) (a:=↑x) (b:=1) (ta:=t2) (tb:=t1) (by omega)) fun _=>(.k (d6 15 0x555133533131311) (ix [N+357,N+359,N+356,N+355] 12 0x22223221000) (r':=(.ok (.ret (.int 1 t1)))) (l':=[]) (m':=(N+360)) (k':=t) (z':=[]) ⟨⟨⟨t1,N+5,t⟩,by show N≤N+5; omega⟩,(by try dsimp only [S₀]; rw [Nat.max_eq_left (by omega)]; rfl),rfl,rfl,rfl,rfl⟩))
 exact ⟨P₀,by intro ⟨x1,x2,x3,x4⟩; cases x2 <;> kernel_rfl⟩
include MB hB in
theorem max1_ok (hD:Lim D U 50) :
  CutOk (XX w r g d os) B D U (.builtin "max" ⟨[.int 1 t1,.int (x:Nat) t2],[]⟩) none [] [] (N+355) t {v:Mx // N≤v.n} (fun v=>.ok (.ret (.int ((max 1 x:Nat):Int) v.1.k))) (fun _=>[]) (fun _=>[]) (fun v=>v.1.n+355) (fun v=>v.1.t) (fun _=>[]):=by
 by_cases h:1 < x
 ·exact max_t MB hB hD h
 ·exact max_f MB hB hD h
noncomputable def turned (k:Nat) (l:List Value):List Value:=l.drop (k % max 1 l.length)++l.take (k % max 1 l.length)
structure RwV where
 a:Nat
 b:Nat
 c:Nat
 d:Nat
 n:Nat
 t:Nat
end
section
noncomputable def tryB:List Stmt→List Stmt
 | [.Try b _ _ _ _] => b
 | _ => []
noncomputable def tryH:List Stmt→List ExceptHandler
 | [.Try _ h _ _ _] => h
 | _ => []
noncomputable def tryP:List Stmt→Pos
 | [.Try _ _ _ _ p] => p
 | _ => ⟨0,0,0,0⟩
noncomputable abbrev frS (es:List DictEntry) (ep:Nat) (sl:Array (Option Value)):Obj:=⟨.type "frame",none,.dict ⟨es⟩ ep,sl⟩
noncomputable abbrev eC (w:World) (r:Rows) (Ff:Nat):Env:={ scope:=fnScope (KF (pr w r)) 301,locals:=Ff+355,globals:=3,cells:=[],qual:=(⟨#[84,111,112,111,108,111,103,105,99,97,108,83,111,114,116,101,114,46,95,102,105,110,100,95,99,121,99,108,101,46,60,108,111,99,97,108,115,62,46]⟩:Str),func:=some 301,code:=.ref 300,frame:=some (Ff+355),builtins:=0 }
noncomputable abbrev eP (w:World) (r:Rows) (Ff:Nat):Env:={ scope:=fnScope (KF (pr w r)) 266,locals:=Ff+355,globals:=3,cells:=[],qual:=(⟨#[84,111,112,111,108,111,103,105,99,97,108,83,111,114,116,101,114,46,112,114,101,112,97,114,101,46,60,108,111,99,97,108,115,62,46]⟩:Str),func:=some 266,code:=.ref 265,frame:=some (Ff+355),builtins:=0 }
noncomputable abbrev eF (w:World) (r:Rows) (Ff C1 C2:Nat):Env:={ scope:=fnScope (KF (pr w r)) 327,locals:=Ff+355,globals:=3,cells:=[((⟨#[115,116,97,114,116,115]⟩:Str),C2+355),((⟨#[116,97,98,108,101]⟩:Str),C1+355)],qual:=(⟨#[95,108,97,119,95,102,108,111,119,46,60,108,111,99,97,108,115,62,46]⟩:Str),func:=some 327,code:=.ref 326,frame:=some (Ff+355),builtins:=0 }
noncomputable abbrev eL (w:World) (r:Rows) (Ff C3 C4:Nat):Env:={ scope:=fnScope (KF (pr w r)) 354,locals:=Ff+355,globals:=3,cells:=[((⟨#[119,104,111,108,101]⟩:Str),C4+355),((⟨#[115,105,110,103,108,101]⟩:Str),C3+355)],qual:=(⟨#[108,97,119,46,60,108,111,99,97,108,115,62,46]⟩:Str),func:=some 354,code:=.ref 353,frame:=some (Ff+355),builtins:=0 }
noncomputable abbrev fsL (w:World) (r:Rows) (L C3 C4:Nat):List Env:=[eL w r L C3 C4]
noncomputable abbrev fsF (w:World) (r:Rows) (Ff C1 C2 L C3 C4:Nat):List Env:=eF w r Ff C1 C2 :: fsL w r L C3 C4
noncomputable abbrev fsP (w:World) (r:Rows) (P Ff C1 C2 L C3 C4:Nat):List Env:=eP w r P :: fsF w r Ff C1 C2 L C3 C4
noncomputable abbrev fsC (w:World) (r:Rows) (C P Ff C1 C2 L C3 C4:Nat):List Env:=eC w r C :: fsP w r P Ff C1 C2 L C3 C4
noncomputable abbrev iwCode (w:World) (r:Rows) (C:Nat):Code:=.whileLoop (whT (nthS (whB (nthS (forB (nthS (fnBody (KF (pr w r)) 301) 5)) 1)) 1)) [.Try (tryB (whB (nthS (whB (nthS (forB (nthS (fnBody (KF (pr w r)) 301) 5)) 1)) 1))) (tryH (whB (nthS (whB (nthS (forB (nthS (fnBody (KF (pr w r)) 301) 5)) 1)) 1))) [] [] (tryP (whB (nthS (whB (nthS (forB (nthS (fnBody (KF (pr w r)) 301) 5)) 1)) 1)))] (whO (nthS (whB (nthS (forB (nthS (fnBody (KF (pr w r)) 301) 5)) 1)) 1)) (eC w r C)
noncomputable abbrev iwT (bk:Stk→Value) (pl:Stk→Nat→Value) (w:World) (r:Rows) (C P Ff C1 C2 L C3 C4:Nat):Sem PySem.Fin:=tryWhile bk pl (fsC w r C P Ff C1 C2 L C3 C4) (whT (nthS (whB (nthS (forB (nthS (fnBody (KF (pr w r)) 301) 5)) 1)) 1)) (tryB (whB (nthS (whB (nthS (forB (nthS (fnBody (KF (pr w r)) 301) 5)) 1)) 1))) (tryH (whB (nthS (whB (nthS (forB (nthS (fnBody (KF (pr w r)) 301) 5)) 1)) 1))) (tryP (whB (nthS (whB (nthS (forB (nthS (fnBody (KF (pr w r)) 301) 5)) 1)) 1))) (whO (nthS (whB (nthS (forB (nthS (fnBody (KF (pr w r)) 301) 5)) 1)) 1)) (eC w r C)
theorem fc_tryH (w:World) (r:Rows):(tryH (whB (nthS (whB (nthS (forB (nthS (fnBody (KF (pr w r)) 301) 5)) 1)) 1))).isEmpty = false:=by kernel_rfl
theorem iw_hT {X:Env0} {w:World} {r:Rows} {D U C P Ff C1 C2 L C3 C4:Nat}:HT X D U (some ⟨none,some (fsC w r C P Ff C1 C2 L C3 C4)⟩) (iwCode w r C) (iwT bkS (plS (C+355)) w r C P Ff C1 C2 L C3 C4) :=
 ⟨fun A hA h1 h2 Q E s h=>tryW_hT rfl rfl (fc_tryH w r) A hA h1 h2 Q E s h⟩
noncomputable abbrev slC (P:Nat):Array (Option Value):=⟨[some (.ref 300),some (.ref 3),none,some (.ref (P+355)),none,some (.ref 301),some (.ref 0)]⟩
noncomputable abbrev slP (Ff:Nat):Array (Option Value):=⟨[some (.ref 265),some (.ref 3),none,some (.ref (Ff+355)),none,some (.ref 266),some (.ref 0)]⟩
noncomputable abbrev slF (L C1 C2:Nat):Array (Option Value):=⟨[some (.ref 326),some (.ref 3),none,some (.ref (L+355)),none,some (.ref 327),some (.ref 0),some (.ref (C2+355)),some (.ref (C1+355))]⟩
noncomputable abbrev slL (z:Value) (C3 C4:Nat):Array (Option Value):=⟨[some (.ref 353),some (.ref 3),none,some z,none,some (.ref 354),some (.ref 0),some (.ref (C4+355)),some (.ref (C3+355))]⟩
noncomputable abbrev lcC (S M T1 T2 T3 T4:Nat) (g1 g2 g3 g4 g5 g6 g7:Int) (q1 q2 q3 q4 q5 q6 q7:Tok) (y:Value):List DictEntry:=[dE g1 (⟨#[115,101,108,102]⟩:Str) q1 (.ref (S+355)),dE g2 (⟨#[110,50,105]⟩:Str) q2 (.ref (M+355)),dE g3 (⟨#[115,116,97,99,107]⟩:Str) q3 (.ref (T1+355)),dE g4 (⟨#[105,116,115,116,97,99,107]⟩:Str) q4 (.ref (T2+355)),dE g5 (⟨#[115,101,101,110]⟩:Str) q5 (.ref (T3+355)),dE g6 (⟨#[110,111,100,101,50,115,116,97,99,107,105]⟩:Str) q6 (.ref (T4+355)),dE g7 (⟨#[110,111,100,101]⟩:Str) q7 y]
noncomputable abbrev methO (I:Nat):Obj:=⟨.type "method-wrapper",none,.fields #[.builtin "list_iterator.__next__",.ref (I+355)],#[]⟩
noncomputable abbrev llL (c2 c3 c4 c5:Int) (d2 d3 d4 d5:Tok) (y1 y2 y3 y4:Value):List DictEntry:=[dE c2 (⟨#[115,99,114,105,112,116]⟩:Str) d2 y1,dE c3 (⟨#[100,114,97,119,115]⟩:Str) d3 y2,dE c4 (⟨#[112,97,105,114,115]⟩:Str) d4 y3,dE c5 (⟨#[115,116,97,114,116,115]⟩:Str) d5 y4]
structure Ms where
 s:Value
 z:Value
 p:Nat
 q:Nat
 a:Nat
 b:Nat
 n:Nat
 t:Nat
structure Mss extends Ms where
 es:Array (Int × Value)
 ep:Nat
 tb:SetTable
variable {C S M T1 T2 T3 T4 I Mt H i e e1 e2 pe N t:Nat} {g1 g2 g3 g4 g5 g6 g7:Int} {q1 q2 q3 q4 q5 q6 q7 tx ty:Tok} {vs:List Value} {nx:Value} {kx ky:Str} {sl:Array (Option Value)}
include MB hB in
theorem iw_next (hD:Lim D U 60) (hv:vs[i]? = some (.str ky ty)) :
  CutOk (XX w r g d os) B D U (iwCode w r C) none [(I+355,iterO (H+355) i),(C+355,frS (lcC S M T1 T2 T3 T4 g1 g2 g3 g4 g5 g6 g7 q1 q2 q3 q4 q5 q6 q7 nx) pe sl)] [(Mt+355,methO I),(T2+355,listO [.ref (Mt+355)] e2),(T1+355,listO [.str kx tx] e1),(H+355,listO vs e)] (N+355) (t) ({v:Mx // N≤v.n}) (fun v=>.ok .next) (fun v=>[]) (fun v=>[iterO (H+355) (i+1),frS (lcC S M T1 T2 T3 T4 g1 g2 g3 g4 g5 g6 g7 q1 q2 q3 q4 q5 q6 q7 (.str ky ty)) pe sl]) (fun v=>v.1.n+355) (fun v=>v.1.t) (fun v=>[]):=by
 refine .of_q MB hB hD.lo 3 0 ?_
 intro S₀
 let P₀:Rows→Pk (XX w r g d os) B D U S₀ []:=fun x₀=>(.a (d6 23 0x22124141444113616161663) (ix [Mt+355,T2+355,C+355,T1+355] 15 0x233333211111000) 1 0 0 0 [] [6] (next_some (hd:=none) (I:=I+355) (H:=H+355) (i:=i) (e:=e) (n:=N+355) (t:=t+4) (vs:=vs) (v:=.str ky ty) hv) fun _=>(.f [3,3] [C+355,C+355] ⟨⟨pe,N+0,(t+5)⟩,by show N≤N+0; omega⟩))
 exact ⟨P₀,by intro x; kernel_rfl⟩
variable {P Ff C1 C2 L C3 C4 e4 pf pp pl0:Nat} {tz:Tok} {S1:Nat} {a1 a2 a3 a4 c1 c2 c3 c4 c5:Int} {b1 b2 b3 b4 d1 d2 d3 d4 d5:Tok} {x1 x2 x3 y1 y2 y3 y4:Value} {hq:Int} {tq:Tok}
include MB hB in
theorem iw_stop0 (hD:Lim D U 60) (hv:vs[i]? = none) :
  CutOk (XX w r g d os) B D U (iwCode w r C) (some ⟨none,some (fsC w r C P Ff C1 C2 L C3 C4)⟩) [(I+355,iterO (H+355) i),(T4+355,dictO [dE hq kx tq (.int 0 tz)] e4),(T2+355,listO [.ref (Mt+355)] e2),(T1+355,listO [.str kx tx] e1),(C+355,frS (lcC S M T1 T2 T3 T4 g1 g2 g3 g4 g5 g6 g7 q1 q2 q3 q4 q5 q6 q7 nx) pe ⟨[]⟩),(P+355,frS ([dE c1 (⟨#[115,101,108,102]⟩:Str) d1 (.ref (S+355))]) pp ⟨[]⟩),(Ff+355,frS (fl4 S1 a1 a2 a3 a4 b1 b2 b3 b4 x1 x2 x3) pf ⟨[]⟩),(L+355,frS (llL c2 c3 c4 c5 d2 d3 d4 d5 y1 y2 y3 y4) pl0 ⟨[]⟩)] [(Mt+355,methO I),(H+355,listO vs e)] (N+355) (t) ({v:Ms // N≤v.n}) (fun v=>.ok .brk) (fun v=>[]) (fun v=>[iterE i,dictO [] v.1.q,listO [] v.1.a,listO [] v.1.b,frS (lcC S M T1 T2 T3 T4 g1 g2 g3 g4 g5 g6 g7 q1 q2 q3 q4 q5 q6 q7 nx) pe (slC P),frS ([dE c1 (⟨#[115,101,108,102]⟩:Str) d1 (.ref (S+355))]) pp (slP Ff),frS (fl4 S1 a1 a2 a3 a4 b1 b2 b3 b4 x1 x2 x3) pf (slF L C1 C2),frS (llL c2 c3 c4 c5 d2 d3 d4 d5 y1 y2 y3 y4) pl0 (slL v.1.z C3 C4)]) (fun v=>v.1.n+355) (fun v=>v.1.t) (fun v=>[]):=by
 refine CutOk.of_pkT iw_hT MB hB hD.lo (fun _ _ hp=>nomatch hp) (fun _=>rfl) 2040 0 ?_
 intro S₀
 let P₀:Rows→Pk (XX w r g d os) B D U S₀ []:=fun x₀=>(.a (d6 23 0x22125151555119717171779) (ix [Mt+355,T2+355,C+355,T1+355] 15 0x233333211111000) 1 0 0 0 [] [2] (CutOk.wkS ((some ⟨none,some (fsC w r C P Ff C1 C2 L C3 C4)⟩):Hd) (next_none (I:=I+355) (H:=H+355) (i:=i) (e:=e) (n:=N+355) (t:=t+4) (vs:=vs) hv)) fun _=>(.s (d8 8 0x1311110f0f0d0d01) (ix [L+355,Ff+355,P+355,C+355,N+356] 8 0x43322110) fun v1=>(.s [19] [L+355] fun v2=>(.a (d6 30 0x9199dddd1d1ddddff1131300111333) (ix [T4+355,T1+355,C+355,N+357,N+356] 23 0x44433443322111111111000) 16 0 0 0 [] [] (ddel_ok (hd:=some { v:=some ((.ref (N+356))),f:=some (fsC w r C P Ff C1 C2 L C3 C4) }) (nn:=N+358) (t:=t+4) (a:=T4+355) (ep:=e4) (k:=kx) (tk:=tx) (h1:=hq) (u1:=tq) (v1:=.int 0 tz)) fun _=>(.f (d6 23 0xd1d1d1ddf11bbbb1b1bbbbf) (ix [T1+355,C+355,T2+355] 16 0x1222222222100000) ⟨⟨.none,bkS v1,0,e4+1,e2+1,e1+1,N+3,(t+7)⟩,by show N≤N+3; omega⟩)))))
 exact ⟨P₀,by intro x; kernel_rfl⟩
include MB hB in
theorem iw_stop (hD:Lim D U 60) (hv:vs[i]? = none) :
  CutOk (XX w r g d os) B D U (iwCode w r C) (some ⟨none,some (fsC w r C P Ff C1 C2 L C3 C4)⟩) [(I+355,iterO (H+355) i),(T4+355,dictO [dE hq kx tq (.int 0 tz)] e4),(T2+355,listO [.ref (Mt+355)] e2),(T1+355,listO [.str kx tx] e1),(C+355,frS (lcC S M T1 T2 T3 T4 g1 g2 g3 g4 g5 g6 g7 q1 q2 q3 q4 q5 q6 q7 nx) pe (slC P))] [(Mt+355,methO I),(H+355,listO vs e)] (N+355) (t) ({v:Ms // N≤v.n}) (fun v=>.ok .brk) (fun v=>[]) (fun v=>[iterE i,dictO [] v.1.q,listO [] v.1.a,listO [] v.1.b,frS (lcC S M T1 T2 T3 T4 g1 g2 g3 g4 g5 g6 g7 q1 q2 q3 q4 q5 q6 q7 nx) pe (slC P)]) (fun v=>v.1.n+355) (fun v=>v.1.t) (fun v=>[]):=by
 refine CutOk.of_pkT iw_hT MB hB hD.lo (fun _ _ hp=>nomatch hp) (fun _=>rfl) 248 0 ?_
 intro S₀
 let P₀:Rows→Pk (XX w r g d os) B D U S₀ []:=fun x₀=>(.a (d6 23 0x22125151555119717171779) (ix [Mt+355,T2+355,C+355,T1+355] 15 0x233333211111000) 1 0 0 0 [] [2] (CutOk.wkS ((some ⟨none,some (fsC w r C P Ff C1 C2 L C3 C4)⟩):Hd) (next_none (I:=I+355) (H:=H+355) (i:=i) (e:=e) (n:=N+355) (t:=t+4) (vs:=vs) hv)) fun _=>(.s [1,13] [C+355,N+356] fun v1=>(.a (d6 30 0x9199dddd1d1ddddff1131300111333) (ix [T4+355,T1+355,C+355,N+357,N+356] 23 0x44433443322111111111000) 16 0 0 0 [] [] (ddel_ok (hd:=some { v:=some ((.ref (N+356))),f:=some (fsC w r C P Ff C1 C2 L C3 C4) }) (nn:=N+358) (t:=t+4) (a:=T4+355) (ep:=e4) (k:=kx) (tk:=tx) (h1:=hq) (u1:=tq) (v1:=.int 0 tz)) fun _=>(.f (d6 23 0xd1d1d1ddf11bbbb1b1bbbbf) (ix [T1+355,C+355,T2+355] 16 0x1222222222100000) ⟨⟨.none,.none,0,e4+1,e2+1,e1+1,N+3,(t+7)⟩,by show N≤N+3; omega⟩))))
 exact ⟨P₀,by intro x; kernel_rfl⟩
noncomputable abbrev owCode (w:World) (r:Rows) (C:Nat):Code:=.whileLoop (whT (nthS (forB (nthS (fnBody (KF (pr w r)) 301) 5)) 1)) (whB (nthS (forB (nthS (fnBody (KF (pr w r)) 301) 5)) 1)) (whO (nthS (forB (nthS (fnBody (KF (pr w r)) 301) 5)) 1)) (eC w r C)
include MB hB in
theorem ow_next {C P Ff C1 C2 L C3 C4 S M T1 T2 T3 T4 I Mt H i e e1 e2 e4 pe N t:Nat} {g1 g2 g3 g4 g5 g6 g7:Int} {q1 q2 q3 q4 q5 q6 q7 tx ty tz:Tok} {vs:List Value} {kx ky:Str} {hq:Int} {tq:Tok} {es:Array (Int × Value)} {tb:SetTable} {e3 m:Nat} {Sx:Str→Bool} {N0:Nat} {kz:Str} {tyz:Tok} (hD:Lim D U 70) (hN:N0≤N) (hS:SetIs (XX w r g d os) es tb Sx m) (hy:Sx ky = true) (hne:ky≠kx) (hv:vs[i]? = some (.str kz tyz)) (IH:∀ (N1 t1:Nat),N0≤N1→CutOk (XX w r g d os) B D U (owCode w r C) (some ⟨none,some (fsC w r C P Ff C1 C2 L C3 C4)⟩) [(I+355,iterO (H+355) (i+1)),(T4+355,dictO [dE hq kx tq (.int 0 tz)] e4),(T2+355,listO [.ref (Mt+355)] e2),(T1+355,listO [.str kx tx] e1),(C+355,frS (lcC S M T1 T2 T3 T4 g1 g2 g3 g4 g5 g6 g7 q1 q2 q3 q4 q5 q6 q7 (.str kz tyz)) pe (slC P))] [(Mt+355,methO I),(H+355,listO vs e),(T3+355,seto es e3 tb)] (N1+355) t1 {v:Ms // N0≤v.n} (fun _=>.ok .next) (fun _=>[]) (fun v=>[iterE v.1.p,dictO [] v.1.q,listO [] v.1.a,listO [] v.1.b,frS (lcC S M T1 T2 T3 T4 g1 g2 g3 g4 g5 g6 g7 q1 q2 q3 q4 q5 q6 q7 v.1.s) pe (slC P)]) (fun v=>v.1.n+355) (fun v=>v.1.t) (fun _=>[])) :
  CutOk (XX w r g d os) B D U (owCode w r C) (some ⟨none,some (fsC w r C P Ff C1 C2 L C3 C4)⟩) [(I+355,iterO (H+355) i),(T4+355,dictO [dE hq kx tq (.int 0 tz)] e4),(T2+355,listO [.ref (Mt+355)] e2),(T1+355,listO [.str kx tx] e1),(C+355,frS (lcC S M T1 T2 T3 T4 g1 g2 g3 g4 g5 g6 g7 q1 q2 q3 q4 q5 q6 q7 (.str ky ty)) pe (slC P))] [(Mt+355,methO I),(H+355,listO vs e),(T3+355,seto es e3 tb)] (N+355) (t) ({v:Ms // N0≤v.n}) (fun v=>.ok .next) (fun v=>[]) (fun v=>[iterE v.1.p,dictO [] v.1.q,listO [] v.1.a,listO [] v.1.b,frS (lcC S M T1 T2 T3 T4 g1 g2 g3 g4 g5 g6 g7 q1 q2 q3 q4 q5 q6 q7 v.1.s) pe (slC P)]) (fun v=>v.1.n+355) (fun v=>v.1.t) (fun v=>[]):=by
 refine .of_q MB hB hD.lo 31 0 ?_
 k_data
 let P₀:Rows→Pk (XX w r g d os) B D U S₀ []:=fun x₀=>(.a (d6 6 0x616699) (ixL [T3+355,C+355] [0,0,0,1,1]) 0 0 0 0 [] [4] (sin_t (hd:=some { v:=none,f:=some (fsC w r C P Ff C1 C2 L C3 C4) }) (nn:=N+355) (t:=t) (a:=T3+355) (es:=es) (ep:=e3) (tb:=tb) (S:=Sx) (n:=m) (k:=ky) (tk:=ty) hS hy) fun _=>(.a (d6 6 0x313399) (ixL [T4+355,C+355] [0,0,0,1,1]) 0 2 0 0 [0] [1] (din_f (hd:=some { v:=none,f:=some (fsC w r C P Ff C1 C2 L C3 C4) }) (n:=N+355) (t:=t+1) (ep:=e4) (k:=ky) (tk:=ty) (a:=T4+355) (h1:=hq) (k1:=kx) (u1:=tq) (v1:=.int 0 tz) hne (beq_eq_false_iff_ne.mpr (by show T4+355≠1; omega))) fun _=>(.a [] [] 17 12 0 0 [1,2] [0,1,3,2] (CutOk.wkS ((some ⟨none,some (fsC w r C P Ff C1 C2 L C3 C4)⟩):Hd) (iw_next (C:=C) (S:=S) (M:=M) (T1:=T1) (T2:=T2) (T3:=T3) (T4:=T4) (I:=I) (Mt:=Mt) (H:=H) (i:=i) (e:=e) (e1:=e1) (e2:=e2) (pe:=pe) (N:=N) (t:=t+2) (g1:=g1) (g2:=g2) (g3:=g3) (g4:=g4) (g5:=g5) (g6:=g6) (g7:=g7) (q1:=q1) (q2:=q2) (q3:=q3) (q4:=q4) (q5:=q5) (q6:=q6) (q7:=q7) (tx:=tx) (ty:=tyz) (vs:=vs) (nx:=.str ky ty) (kx:=kx) (ky:=kz) (sl:={ toList:=[some (Value.ref 300),some (Value.ref 3),none,some ((.ref (P+355))),none,some (Value.ref 301),some (Value.ref 0)] }) MB1 hB1 hD.up hv)) fun v2=>(.o [] [] 31 0 0 0 [] [0,2,4] (IH (N1:=v2.1.n) (t1:=v2.1.t) (by have:=v2.2; omega)) fun v3=>(.e v3)))))
 exact ⟨P₀,by intro x; kernel_rfl⟩
variable {es:Array (Int × Value)} {tb:SetTable} {e3 m:Nat} {Sx:Str→Bool} {N0:Nat}
include MB hB in
theorem ow_stop (hD:Lim D U 70) (hN:N0≤N) (hS:SetIs (XX w r g d os) es tb Sx m) (hy:Sx ky = true) (hne:ky≠kx) (hv:vs[i]? = none) :
  CutOk (XX w r g d os) B D U (owCode w r C) (some ⟨none,some (fsC w r C P Ff C1 C2 L C3 C4)⟩) [(I+355,iterO (H+355) i),(T4+355,dictO [dE hq kx tq (.int 0 tz)] e4),(T2+355,listO [.ref (Mt+355)] e2),(T1+355,listO [.str kx tx] e1),(C+355,frS (lcC S M T1 T2 T3 T4 g1 g2 g3 g4 g5 g6 g7 q1 q2 q3 q4 q5 q6 q7 (.str ky ty)) pe (slC P))] [(Mt+355,methO I),(H+355,listO vs e),(T3+355,seto es e3 tb)] (N+355) (t) ({v:Ms // N0≤v.n}) (fun v=>.ok .next) (fun v=>[]) (fun v=>[iterE v.1.p,dictO [] v.1.q,listO [] v.1.a,listO [] v.1.b,frS (lcC S M T1 T2 T3 T4 g1 g2 g3 g4 g5 g6 g7 q1 q2 q3 q4 q5 q6 q7 v.1.s) pe (slC P)]) (fun v=>v.1.n+355) (fun v=>v.1.t) (fun v=>[]):=by
 refine .of_q MB hB hD.lo 31 0 ?_
 k_data
 let P₀:Rows→Pk (XX w r g d os) B D U S₀ []:=fun x₀=>(.a (d6 6 0x616699) (ixL [T3+355,C+355] [0,0,0,1,1]) 0 0 0 0 [] [4] (sin_t (hd:=some { v:=none,f:=some (fsC w r C P Ff C1 C2 L C3 C4) }) (nn:=N+355) (t:=t) (a:=T3+355) (es:=es) (ep:=e3) (tb:=tb) (S:=Sx) (n:=m) (k:=ky) (tk:=ty) hS hy) fun _=>(.a (d6 6 0x313399) (ixL [T4+355,C+355] [0,0,0,1,1]) 0 2 0 0 [0] [1] (din_f (hd:=some { v:=none,f:=some (fsC w r C P Ff C1 C2 L C3 C4) }) (n:=N+355) (t:=t+1) (ep:=e4) (k:=ky) (tk:=ty) (a:=T4+355) (h1:=hq) (k1:=kx) (u1:=tq) (v1:=.int 0 tz) hne (beq_eq_false_iff_ne.mpr (by show T4+355≠1; omega))) fun _=>(.a [] [] 31 0 0 0 [] [0,2] (iw_stop (Ff:=Ff) (C1:=C1) (C2:=C2) (L:=L) (C3:=C3) (C4:=C4) (C:=C) (P:=P) (S:=S) (M:=M) (T1:=T1) (T2:=T2) (T3:=T3) (T4:=T4) (I:=I) (Mt:=Mt) (H:=H) (i:=i) (e:=e) (e1:=e1) (e2:=e2) (e4:=e4) (pe:=pe) (N:=N) (t:=t+2) (g1:=g1) (g2:=g2) (g3:=g3) (g4:=g4) (g5:=g5) (g6:=g6) (g7:=g7) (q1:=q1) (q2:=q2) (q3:=q3) (q4:=q4) (q5:=q5) (q6:=q6) (q7:=q7) (tx:=tx) (tz:=tz) (vs:=vs) (nx:=.str ky ty) (kx:=kx) (hq:=hq) (tq:=tq) MB1 hB1 hD.up hv) fun v2=>(.f [] [] ⟨{v2.1 with s:=.str ky ty,p:=i},by have:=v2.2; show N0≤v2.1.n; omega⟩))))
 exact ⟨P₀,by intro x; kernel_rfl⟩
section
variable {w:World} {r:Rows} {g:Array GenState} {d:Drawn} {os:OsState} {B:Heap→Prop} {D U:Nat}
theorem ow_loop (MB:Mono B) (hB:∀ h,B h→(KF (pr w r)).In h) (hD:Lim D U 70) {C P Ff C1 C2 L C3 C4 S M T1 T2 T3 T4 I Mt H e e1 e2 e3 e4 pe N0 m:Nat} {g1 g2 g3 g4 g5 g6 g7 hq:Int} {q1 q2 q3 q4 q5 q6 q7 tx tq tz:Tok} {vs:List Value} {kx:Str} {es:Array (Int × Value)} {tb:SetTable} {Sx:Str→Bool}
  (hS:SetIs (XX w r g d os) es tb Sx m) (hall:∀ v∈vs,∃ k t,v = .str k t∧Sx k = true∧k≠kx) :
  ∀ (m i:Nat),vs.length = i + m→∀ (ky:Str) (ty:Tok) (N t:Nat),N0≤N→Sx ky = true→ky≠kx →
  CutOk (XX w r g d os) B D U (owCode w r C) (some ⟨none,some (fsC w r C P Ff C1 C2 L C3 C4)⟩) [(I+355,iterO (H+355) i),(T4+355,dictO [dE hq kx tq (.int 0 tz)] e4),(T2+355,listO [.ref (Mt+355)] e2),(T1+355,listO [.str kx tx] e1),(C+355,frS (lcC S M T1 T2 T3 T4 g1 g2 g3 g4 g5 g6 g7 q1 q2 q3 q4 q5 q6 q7 (.str ky ty)) pe (slC P))] [(Mt+355,methO I),(H+355,listO vs e),(T3+355,seto es e3 tb)] (N+355) t {v:Ms // N0≤v.n} (fun _=>.ok .next) (fun _=>[]) (fun v=>[iterE v.1.p,dictO [] v.1.q,listO [] v.1.a,listO [] v.1.b,frS (lcC S M T1 T2 T3 T4 g1 g2 g3 g4 g5 g6 g7 q1 q2 q3 q4 q5 q6 q7 v.1.s) pe (slC P)]) (fun v=>v.1.n+355) (fun v=>v.1.t) (fun _=>[]):=by
 intro k
 induction k with
 | zero =>
  intro i hi ky ty N t hN hy hne
  exact ow_stop MB hB hD hN hS hy hne (by simp; omega)
 | succ k ih =>
  intro i hi ky ty N t hN hy hne
  obtain ⟨v,hv⟩:∃ v,vs[i]? = some v:=⟨_,List.getElem?_eq_getElem (by omega)⟩
  obtain ⟨kz,tyz,rfl,h1,h2⟩:=hall v (List.mem_of_getElem? hv)
  exact ow_next MB hB hD hN hS hy hne hv fun N1 t1 h=>ih (i+1) (by omega) kz tyz N1 t1 h h1 h2
end
include MB hB in
theorem fs_next {C P S M T1 T2 T3 T4 e e1 e2 e4 pe N t:Nat} {g1 g2 g3 g4 g5 g6 g7:Int} {q1 q2 q3 q4 q5 q6 q7:Tok} {vs:List Value} {kx:Str} {dI LI M4:Nat} {nI:Int} {tI pI tX:Tok} {ne:List DictEntry} {es:Array (Int × Value)} {tb:SetTable} {ep e3 IX m:Nat} {Sx:Str→Bool} {kz:Str} {tyz:Tok} (hD:Lim D U 80) (hS:SetIs (XX w r g d os) es tb Sx m) (hm:m≤10) (hsx:Sx kx = false) (hd1:dstr ne = true) (hd2:dhas ne kx = true) (hd3:dlook ne kx = .ref (IX+355)) (hv:vs[0]? = some (.str kz tyz)) (hall:∀ v∈vs,∃ k t,v = .str k t∧(Sx k || decide (k = kx)) = true∧k≠kx) (hz:(Sx kz || decide (kz = kx)) = true) (hzne:kz≠kx) :
  CutOk (XX w r g d os) B D U (owCode w r C) (some ⟨none,some (fsC w r C P Ff C1 C2 L C3 C4)⟩) [(T4+355,dictO [] e4),(T3+355,seto es e3 tb),(T2+355,listO [] e2),(T1+355,listO [] e1),(C+355,frS (lcC S M T1 T2 T3 T4 g1 g2 g3 g4 g5 g6 g7 q1 q2 q3 q4 q5 q6 q7 (.str kx tX)) pe (slC P))] [(M+355,dictO ne M4),(IX+355,infO dI LI kx tI nI pI),(dI+355,dictO [] 0),(LI+355,listO vs e)] (N+355) (t) ({v:Mss // N≤v.n∧SetIs (XX w r g d os) v.es v.tb (fun k=>Sx k || decide (k = kx)) (m+1)}) (fun v=>.ok .next) (fun v=>[]) (fun v=>[dictO [] v.1.q,seto v.1.es v.1.ep v.1.tb,listO [] v.1.a,listO [] v.1.b,frS (lcC S M T1 T2 T3 T4 g1 g2 g3 g4 g5 g6 g7 q1 q2 q3 q4 q5 q6 q7 v.1.s) pe (slC P)]) (fun v=>v.1.n+355) (fun v=>v.1.t) (fun v=>[]):=by
 refine .of_q MB hB hD.lo 124 0 ?_
 k_data
 let P₀:Rows→Pk (XX w r g d os) B D U S₀ []:=fun x₀=>(.a (d6 6 0x313399) (ixL [T3+355,C+355] [0,0,0,1,1]) 0 2 0 0 [0] [1] (sin_f (hd:=some { v:=none,f:=some (fsC w r C P Ff C1 C2 L C3 C4) }) (nn:=N+355) (t:=t) (a:=T3+355) (es:=es) (ep:=e3) (tb:=tb) (S:=Sx) (n:=m) (k:=kx) (tk:=tX) hS hsx) fun _=>(.a (d6 8 0x31933339) (ix [T3+355,C+355] 7 0x1000010) 2 0 0 0 [] [] (sadd_ok (hd:=some { v:=none,f:=some (fsC w r C P Ff C1 C2 L C3 C4) }) (nn:=N+355) (t:=t+1) (a:=T3+355) (es:=es) (ep:=e3) (tb:=tb) (S:=Sx) (n:=m) (k:=kx) (tk:=tX) hS hsx (Nat.lt_of_lt_of_le (show m+1 < 12 by omega) (by decide))) fun v1=>(.a (d6 14 0x21222990055559) (ix [M+355,C+355,T2+355] 11 0x12222110000) 0 0 0 0 [] [0] (dget_is (hd:=some { v:=none,f:=some (fsC w r C P Ff C1 C2 L C3 C4) }) (n:=N+355) (t:=t+2) (H:=M+355) (es:=ne) (ep:=M4) (k:=kx) (tk:=tX) (v:=.ref (IX+355)) hd1 hd2 hd3) fun _=>(.a (d6 91 0xbbb1b1dbbbbd555511515155ddb1b1b11d009991911111111111111818811140400100040010100000000410004) (ix [T1+355,C+355,T4+355,T2+355,N+355,LI+355,IX+355] 43 0x6666655544444443333100011222222221000010000) 66 49 0 0 [0,1,2] [1,3,5,6] (CutOk.wkS ((some ⟨none,some (fsC w r C P Ff C1 C2 L C3 C4)⟩):Hd) (iw_next (C:=C) (S:=S) (M:=M) (T1:=T1) (T2:=T2) (T3:=T3) (T4:=T4) (I:=N) (Mt:=N+1) (H:=LI) (i:=0) (e:=e) (e1:=e1+1) (e2:=e2+1) (pe:=pe) (N:=N+2) (t:=t+8) (g1:=g1) (g2:=g2) (g3:=g3) (g4:=g4) (g5:=g5) (g6:=g6) (g7:=g7) (q1:=q1) (q2:=q2) (q3:=q3) (q4:=q4) (q5:=q5) (q6:=q6) (q7:=q7) (tx:=tX) (ty:=tyz) (vs:=vs) (nx:=.str kx tX) (kx:=kx) (ky:=kz) (sl:={ toList:=[some (Value.ref 300),some (Value.ref 3),none,some ((.ref (P+355))),none,some (Value.ref 301),some (Value.ref 0)] }) MB1 hB1 hD.up hv)) fun v3=>(.a [] [] 118 9 0 0 [0,2] [1,6,3] (ow_loop (C:=C) (P:=P) (Ff:=Ff) (C1:=C1) (C2:=C2) (L:=L) (C3:=C3) (C4:=C4) (S:=S) (M:=M) (T1:=T1) (T2:=T2) (T3:=T3) (T4:=T4) (I:=N) (Mt:=N+1) (H:=LI) (e:=e) (e1:=e1+1) (e2:=e2+1) (e3:=v1.1.ep) (e4:=e4+1) (pe:=pe) (g1:=g1) (g2:=g2) (g3:=g3) (g4:=g4) (g5:=g5) (g6:=g6) (g7:=g7) (hq:=ko w r kx) (q1:=q1) (q2:=q2) (q3:=q3) (q4:=q4) (q5:=q5) (q6:=q6) (q7:=q7) (tx:=tX) (tq:=tX) (tz:=t+6) (vs:=vs) (kx:=kx) (es:=v1.1.es) (tb:=v1.1.tb) (Sx:=fun k=>Sx k || decide (k = kx)) (N:=v3.1.n) (t:=v3.1.t) (N0:=N) MB1 hB1 hD.up v1.2 hall (vs.length - 1) 1 (by have:=(List.getElem?_eq_some_iff.mp hv).1; omega) kz tyz (by have:=v3.2; omega) hz hzne) fun v4=>(.e ⟨⟨⟨v4.1.s,.none,0,v4.1.q,v4.1.a,v4.1.b,v4.1.n,v4.1.t⟩,v1.1.es,v1.1.ep,v1.1.tb⟩,by have:=v4.2; exact ⟨by show N≤v4.1.n; omega,v1.2⟩⟩))))))
 exact ⟨P₀,by intro ⟨x1,x2,x3,x4⟩; cases x2 <;> kernel_rfl⟩
include MB hB in
theorem fs_stop {C P S M T1 T2 T3 T4 e e1 e2 e4 pe N t:Nat} {g1 g2 g3 g4 g5 g6 g7:Int} {q1 q2 q3 q4 q5 q6 q7:Tok} {vs:List Value} {kx:Str} {dI LI M4:Nat} {nI:Int} {tI pI tX:Tok} {ne:List DictEntry} {es:Array (Int × Value)} {tb:SetTable} {ep e3 IX m:Nat} {Sx:Str→Bool} (hD:Lim D U 80) (hS:SetIs (XX w r g d os) es tb Sx m) (hm:m≤10) (hsx:Sx kx = false) (hd1:dstr ne = true) (hd2:dhas ne kx = true) (hd3:dlook ne kx = .ref (IX+355)) (hv:vs[0]? = none) :
  CutOk (XX w r g d os) B D U (owCode w r C) (some ⟨none,some (fsC w r C P Ff C1 C2 L C3 C4)⟩) [(T4+355,dictO [] e4),(T3+355,seto es e3 tb),(T2+355,listO [] e2),(T1+355,listO [] e1),(C+355,frS (lcC S M T1 T2 T3 T4 g1 g2 g3 g4 g5 g6 g7 q1 q2 q3 q4 q5 q6 q7 (.str kx tX)) pe (slC P))] [(M+355,dictO ne M4),(IX+355,infO dI LI kx tI nI pI),(dI+355,dictO [] 0),(LI+355,listO vs e)] (N+355) (t) ({v:Mss // N≤v.n∧SetIs (XX w r g d os) v.es v.tb (fun k=>Sx k || decide (k = kx)) (m+1)}) (fun v=>.ok .next) (fun v=>[]) (fun v=>[dictO [] v.1.q,seto v.1.es v.1.ep v.1.tb,listO [] v.1.a,listO [] v.1.b,frS (lcC S M T1 T2 T3 T4 g1 g2 g3 g4 g5 g6 g7 q1 q2 q3 q4 q5 q6 q7 v.1.s) pe (slC P)]) (fun v=>v.1.n+355) (fun v=>v.1.t) (fun v=>[]):=by
 refine .of_q MB hB hD.lo 124 0 ?_
 k_data
 let P₀:Rows→Pk (XX w r g d os) B D U S₀ []:=fun x₀=>(.a (d6 6 0x313399) (ixL [T3+355,C+355] [0,0,0,1,1]) 0 2 0 0 [0] [1] (sin_f (hd:=some { v:=none,f:=some (fsC w r C P Ff C1 C2 L C3 C4) }) (nn:=N+355) (t:=t) (a:=T3+355) (es:=es) (ep:=e3) (tb:=tb) (S:=Sx) (n:=m) (k:=kx) (tk:=tX) hS hsx) fun _=>(.a (d6 8 0x31933339) (ix [T3+355,C+355] 7 0x1000010) 2 0 0 0 [] [] (sadd_ok (hd:=some { v:=none,f:=some (fsC w r C P Ff C1 C2 L C3 C4) }) (nn:=N+355) (t:=t+1) (a:=T3+355) (es:=es) (ep:=e3) (tb:=tb) (S:=Sx) (n:=m) (k:=kx) (tk:=tX) hS hsx (Nat.lt_of_lt_of_le (show m+1 < 12 by omega) (by decide))) fun v1=>(.a (d6 14 0x21222990055559) (ix [M+355,C+355,T2+355] 11 0x12222110000) 0 0 0 0 [] [0] (dget_is (hd:=some { v:=none,f:=some (fsC w r C P Ff C1 C2 L C3 C4) }) (n:=N+355) (t:=t+2) (H:=M+355) (es:=ne) (ep:=M4) (k:=kx) (tk:=tX) (v:=.ref (IX+355)) hd1 hd2 hd3) fun _=>(.a (d6 91 0xbbb1b1dbbbbd555511515155ddb1b1b11d009991911111111111111818811140400100040010100000000410004) (ix [T1+355,C+355,T4+355,T2+355,N+355,LI+355,IX+355] 43 0x6666655544444443333100011222222221000010000) 118 1 0 0 [0] [1,6] (iw_stop (Ff:=Ff) (C1:=C1) (C2:=C2) (L:=L) (C3:=C3) (C4:=C4) (C:=C) (P:=P) (S:=S) (M:=M) (T1:=T1) (T2:=T2) (T3:=T3) (T4:=T4) (I:=N) (Mt:=N+1) (H:=LI) (i:=0) (e:=e) (e1:=e1+1) (e2:=e2+1) (e4:=e4+1) (pe:=pe) (N:=N+2) (t:=t+8) (g1:=g1) (g2:=g2) (g3:=g3) (g4:=g4) (g5:=g5) (g6:=g6) (g7:=g7) (q1:=q1) (q2:=q2) (q3:=q3) (q4:=q4) (q5:=q5) (q6:=q6) (q7:=q7) (tx:=tX) (tz:=t+6) (vs:=vs) (nx:=.str kx tX) (kx:=kx) (hq:=ko w r kx) (tq:=tX) MB1 hB1 hD.up hv) fun v3=>(.f [] [] ⟨⟨⟨.str kx tX,.none,0,v3.1.q,v3.1.a,v3.1.b,v3.1.n,v3.1.t⟩,v1.1.es,v1.1.ep,v1.1.tb⟩,by have:=v3.2; exact ⟨by show N≤v3.1.n; omega,v1.2⟩⟩)))))
 exact ⟨P₀,by intro ⟨x1,x2,x3,x4⟩; cases x2 <;> kernel_rfl⟩
include MB hB in
theorem fs_stop0 {C P Ff C1 C2 L C3 C4 S M T1 T2 T3 T4 e e1 e2 e4 pe pf pp pl0 N t:Nat} {g1 g2 g3 g4 g5 g6 g7:Int} {q1 q2 q3 q4 q5 q6 q7:Tok} {vs:List Value} {kx:Str} {S1 dI LI M4:Nat} {nI:Int} {tI pI tX:Tok} {ne:List DictEntry} {a1 a2 a3 a4 c1 c2 c3 c4 c5:Int} {b1 b2 b3 b4 d1 d2 d3 d4 d5:Tok} {x1 x2 x3 y1 y2 y3 y4:Value} {es:Array (Int × Value)} {tb:SetTable} {ep e3 IX m:Nat} {Sx:Str→Bool} (hD:Lim D U 80) (hS:SetIs (XX w r g d os) es tb Sx m) (hm:m≤10) (hsx:Sx kx = false) (hd1:dstr ne = true) (hd2:dhas ne kx = true) (hd3:dlook ne kx = .ref (IX+355)) (hv:vs[0]? = none) :
  CutOk (XX w r g d os) B D U (owCode w r C) (some ⟨none,some (fsC w r C P Ff C1 C2 L C3 C4)⟩) [(T4+355,dictO [] e4),(T3+355,seto es e3 tb),(T2+355,listO [] e2),(T1+355,listO [] e1),(C+355,frS (lcC S M T1 T2 T3 T4 g1 g2 g3 g4 g5 g6 g7 q1 q2 q3 q4 q5 q6 q7 (.str kx tX)) pe ⟨[]⟩),(P+355,frS ([dE c1 (⟨#[115,101,108,102]⟩:Str) d1 (.ref (S+355))]) pp ⟨[]⟩),(Ff+355,frS (fl4 S1 a1 a2 a3 a4 b1 b2 b3 b4 x1 x2 x3) pf ⟨[]⟩),(L+355,frS (llL c2 c3 c4 c5 d2 d3 d4 d5 y1 y2 y3 y4) pl0 ⟨[]⟩)] [(M+355,dictO ne M4),(IX+355,infO dI LI kx tI nI pI),(dI+355,dictO [] 0),(LI+355,listO vs e)] (N+355) (t) ({v:Mss // N≤v.n∧SetIs (XX w r g d os) v.es v.tb (fun k=>Sx k || decide (k = kx)) (m+1)}) (fun v=>.ok .next) (fun v=>[]) (fun v=>[dictO [] v.1.q,seto v.1.es v.1.ep v.1.tb,listO [] v.1.a,listO [] v.1.b,frS (lcC S M T1 T2 T3 T4 g1 g2 g3 g4 g5 g6 g7 q1 q2 q3 q4 q5 q6 q7 v.1.s) pe (slC P),frS ([dE c1 (⟨#[115,101,108,102]⟩:Str) d1 (.ref (S+355))]) pp (slP Ff),frS (fl4 S1 a1 a2 a3 a4 b1 b2 b3 b4 x1 x2 x3) pf (slF L C1 C2),frS (llL c2 c3 c4 c5 d2 d3 d4 d5 y1 y2 y3 y4) pl0 (slL v.1.z C3 C4)]) (fun v=>v.1.n+355) (fun v=>v.1.t) (fun v=>[]):=by
 refine .of_q MB hB hD.lo 1020 0 ?_
 k_data
 let P₀:Rows→Pk (XX w r g d os) B D U S₀ []:=fun x₀=>(.a (d6 6 0x313399) (ixL [T3+355,C+355] [0,0,0,1,1]) 0 2 0 0 [0] [1] (sin_f (hd:=some { v:=none,f:=some (fsC w r C P Ff C1 C2 L C3 C4) }) (nn:=N+355) (t:=t) (a:=T3+355) (es:=es) (ep:=e3) (tb:=tb) (S:=Sx) (n:=m) (k:=kx) (tk:=tX) hS hsx) fun _=>(.a (d6 8 0x31933339) (ix [T3+355,C+355] 7 0x1000010) 2 0 0 0 [] [] (sadd_ok (hd:=some { v:=none,f:=some (fsC w r C P Ff C1 C2 L C3 C4) }) (nn:=N+355) (t:=t+1) (a:=T3+355) (es:=es) (ep:=e3) (tb:=tb) (S:=Sx) (n:=m) (k:=kx) (tk:=tX) hS hsx (Nat.lt_of_lt_of_le (show m+1 < 12 by omega) (by decide))) fun v1=>(.a (d6 14 0x21222990055559) (ix [M+355,C+355,T2+355] 11 0x12222110000) 0 0 0 0 [] [0] (dget_is (hd:=some { v:=none,f:=some (fsC w r C P Ff C1 C2 L C3 C4) }) (n:=N+355) (t:=t+2) (H:=M+355) (es:=ne) (ep:=M4) (k:=kx) (tk:=tX) (v:=.ref (IX+355)) hd1 hd2 hd3) fun _=>(.a (d6 91 0xbbb1b1dbbbbd555511515155ddb1b1b11d009991911111111111111818811140400100040010100000000410004) (ix [T1+355,C+355,T4+355,T2+355,N+355,LI+355,IX+355] 43 0x6666655544444443333100011222222221000010000) 1014 1 0 0 [0] [1,6] (iw_stop0 (C:=C) (P:=P) (Ff:=Ff) (C1:=C1) (C2:=C2) (L:=L) (C3:=C3) (C4:=C4) (S:=S) (M:=M) (T1:=T1) (T2:=T2) (T3:=T3) (T4:=T4) (I:=N) (Mt:=N+1) (H:=LI) (i:=0) (e:=e) (e1:=e1+1) (e2:=e2+1) (e4:=e4+1) (pe:=pe) (pf:=pf) (pp:=pp) (pl0:=pl0) (N:=N+2) (t:=t+8) (g1:=g1) (g2:=g2) (g3:=g3) (g4:=g4) (g5:=g5) (g6:=g6) (g7:=g7) (q1:=q1) (q2:=q2) (q3:=q3) (q4:=q4) (q5:=q5) (q6:=q6) (q7:=q7) (tx:=tX) (tz:=t+6) (vs:=vs) (nx:=.str kx tX) (kx:=kx) (S1:=S1) (a1:=a1) (a2:=a2) (a3:=a3) (a4:=a4) (c1:=c1) (c2:=c2) (c3:=c3) (c4:=c4) (c5:=c5) (b1:=b1) (b2:=b2) (b3:=b3) (b4:=b4) (d1:=d1) (d2:=d2) (d3:=d3) (d4:=d4) (d5:=d5) (x1:=x1) (x2:=x2) (x3:=x3) (y1:=y1) (y2:=y2) (y3:=y3) (y4:=y4) (hq:=ko w r kx) (tq:=tX) MB1 hB1 hD.up hv) fun v3=>(.f [] [] ⟨⟨⟨.str kx tX,v3.1.z,0,v3.1.q,v3.1.a,v3.1.b,v3.1.n,v3.1.t⟩,v1.1.es,v1.1.ep,v1.1.tb⟩,by have:=v3.2; exact ⟨by show N≤v3.1.n; omega,v1.2⟩⟩)))))
 exact ⟨P₀,by intro ⟨x1,x2,x3,x4⟩; cases x2 <;> kernel_rfl⟩
end
section
variable {w:World} {r:Rows} {g:Array GenState} {d:Drawn} {os:OsState} {B:Heap→Prop} {D U:Nat}
theorem fs_any (MB:Mono B) (hB:∀ h,B h→(KF (pr w r)).In h) (hD:Lim D U 80) {C P Ff C1 C2 L C3 C4 S M T1 T2 T3 T4 e e1 e2 e3 e4 pe m N t dI LI M4 IX:Nat} {g1 g2 g3 g4 g5 g6 g7 nI:Int} {q1 q2 q3 q4 q5 q6 q7 tI pI tX:Tok} {vs:List Value} {kx:Str} {es:Array (Int × Value)} {tb:SetTable} {Sx:Str→Bool} {ne:List DictEntry}
  (hS:SetIs (XX w r g d os) es tb Sx m) (hm:m≤10) (hsx:Sx kx = false) (hd1:dstr ne = true) (hd2:dhas ne kx = true) (hd3:dlook ne kx = .ref (IX+355)) (hall:∀ v∈vs,∃ k t,v = .str k t∧(Sx k || decide (k = kx)) = true∧k≠kx) :
  CutOk (XX w r g d os) B D U (owCode w r C) (some ⟨none,some (fsC w r C P Ff C1 C2 L C3 C4)⟩) [(T4+355,dictO [] e4),(T3+355,seto es e3 tb),(T2+355,listO [] e2),(T1+355,listO [] e1),(C+355,frS (lcC S M T1 T2 T3 T4 g1 g2 g3 g4 g5 g6 g7 q1 q2 q3 q4 q5 q6 q7 (.str kx tX)) pe (slC P))] [(M+355,dictO ne M4),(IX+355,infO dI LI kx tI nI pI),(dI+355,dictO [] 0),(LI+355,listO vs e)] (N+355) t {v:Mss // N≤v.n∧SetIs (XX w r g d os) v.es v.tb (fun k=>Sx k || decide (k = kx)) (m+1)} (fun _=>.ok .next) (fun _=>[]) (fun v=>[dictO [] v.1.q,seto v.1.es v.1.ep v.1.tb,listO [] v.1.a,listO [] v.1.b,frS (lcC S M T1 T2 T3 T4 g1 g2 g3 g4 g5 g6 g7 q1 q2 q3 q4 q5 q6 q7 v.1.s) pe (slC P)]) (fun v=>v.1.n+355) (fun v=>v.1.t) (fun _=>[]):=by
 cases vs with
 | nil => exact fs_stop (ep:=0) MB hB hD hS hm hsx hd1 hd2 hd3 rfl
 | cons x l =>
  obtain ⟨kz,tyz,rfl,h1,h2⟩:=hall x (.head _)
  exact fs_next (ep:=0) MB hB hD hS hm hsx hd1 hd2 hd3 (kz:=kz) (tyz:=tyz) rfl hall h1 h2
end
noncomputable def sx0:Str→Bool:=fun _=>false
noncomputable def sx1:Str→Bool:=fun k=>sx0 k || decide (k = sa)
noncomputable def sx2:Str→Bool:=fun k=>sx1 k || decide (k = sb)
noncomputable def sx3:Str→Bool:=fun k=>sx2 k || decide (k = sc)
structure Mf where
 z:Value
 n:Nat
 t:Nat
noncomputable abbrev A_22 (ha:Int) (ta:Tok) (Ia:Nat) (hb:Int) (tb:Tok) (Ib:Nat) (hc:Int) (tc:Tok) (Ic:Nat) (hd1:Int) (td:Tok) (Id:Nat):List DictEntry:=[dE ha ⟨#[97]⟩ ta ((.ref (Ia+355))),dE hb ⟨#[98]⟩ tb ((.ref (Ib+355))),dE hc ⟨#[99]⟩ tc ((.ref (Ic+355))),dE hd1 ⟨#[100]⟩ td ((.ref (Id+355)))]
include MB hB in
theorem fc_ok {S S1 dS M N t Ia Ib Ic Id La Lb Lc Ld da db dc dd eb ec ed ea P Ff C1 C2 L C3 C4 pf pp pl0:Nat} {h1 h2 h3 h4 ha hb hc hd1:Int} {u1 u2 u3 u4 ta tb tc td xa xb xc xd pa pb pc pd:Tok} {na nb nc nd:Int} {lb lc ld:List Value} {rd v1 v2:Value} {a1 a2 a3 a4 c1 c2 c3 c4 c5:Int} {b1 b2 b3 b4 d1 d2 d3 d4 d5:Tok} {x1 x2 x3 y1 y2 y3 y4:Value} (hD:Lim D U 90) (gb:∀ v∈lb,∃ t,v = .str sa t) (gc:∀ v∈lc,∃ k t,v = .str k t∧(k = sa∨k = sb)) (gd:∀ v∈ld,∃ k t,v = .str k t∧(k = sa∨k = sb∨k = sc)) :
  CutOk (XX w r g d os) B D U (.call (.ref 301) ⟨[.ref (S+355)],[]⟩) (some ⟨none,some (fsP w r P Ff C1 C2 L C3 C4)⟩) [(P+355,frS ([dE c1 (⟨#[115,101,108,102]⟩:Str) d1 (.ref (S+355))]) pp ⟨[]⟩),(Ff+355,frS (fl4 S1 a1 a2 a3 a4 b1 b2 b3 b4 x1 x2 x3) pf ⟨[]⟩),(L+355,frS (llL c2 c3 c4 c5 d2 d3 d4 d5 y1 y2 y3 y4) pl0 ⟨[]⟩)] [(S+355,srtO dS),(dS+355,srtD M h1 h2 h3 h4 u1 u2 u3 u4 rd v1 v2),(M+355,dictO (A_3 ha ta Ia hb tb Ib hc tc Ic hd1 td Id) 4),(Ia+355,infO da La ⟨#[97]⟩ xa na pa),(Ib+355,infO db Lb ⟨#[98]⟩ xb nb pb),(Ic+355,infO dc Lc ⟨#[99]⟩ xc nc pc),(Id+355,infO dd Ld ⟨#[100]⟩ xd nd pd),(La+355,listO [] ea),(Lb+355,listO lb eb),(Lc+355,listO lc ec),(Ld+355,listO ld ed),(da+355,dictO [] 0),(db+355,dictO [] 0),(dc+355,dictO [] 0),(dd+355,dictO [] 0)] (N+355) (t) ({v:Mf // N≤v.n}) (fun v=>.ok (.ret .none)) (fun v=>[]) (fun v=>[frS ([dE c1 (⟨#[115,101,108,102]⟩:Str) d1 (.ref (S+355))]) pp (slP Ff),frS (fl4 S1 a1 a2 a3 a4 b1 b2 b3 b4 x1 x2 x3) pf (slF L C1 C2),frS (llL c2 c3 c4 c5 d2 d3 d4 d5 y1 y2 y3 y4) pl0 (slL v.1.z C3 C4)]) (fun v=>v.1.n+355) (fun v=>v.1.t) (fun v=>[]):=by
 refine CutOk.of_pkR (fun v:Bool => ⟨r.a,v,r.c,r.d⟩) r.b rfl MB hB hD.lo (fun _ _ hp=>nomatch hp) (fun _=>rfl) 1792 0 ?_
 k_data
 let P₀:Rows→Pk (XX w r g d os) B D U S₀ []:=fun x₀=>(.a (d6 80 0x51115155bbbb11111661111111166616166999771111111111110055331140220002100021101100) (ix [N+358,N+355,N+360,M+355,dS+355,S+355] 51 0x111555541111110000001111133333322222332222211110000) 510 0 1 3 [] [4,6,22,14] (fs_stop0 (C:=N) (P:=P) (Ff:=Ff) (C1:=C1) (C2:=C2) (L:=L) (C3:=C3) (C4:=C4) (S:=S) (M:=M) (T1:=N+1) (T2:=N+2) (T3:=N+3) (T4:=N+4) (e:=ea) (e1:=0) (e2:=0) (e4:=0) (pe:=7) (pf:=pf) (pp:=pp) (pl0:=pl0) (N:=N+6) (t:=t+9) (g1:=kh w r ⟨#[115,101,108,102]⟩) (g2:=kh w r ⟨#[110,50,105]⟩) (g3:=kh w r ⟨#[115,116,97,99,107]⟩) (g4:=kh w r ⟨#[105,116,115,116,97,99,107]⟩) (g5:=kh w r ⟨#[115,101,101,110]⟩) (g6:=kh w r ⟨#[110,111,100,101,50,115,116,97,99,107,105]⟩) (g7:=kh w r ⟨#[110,111,100,101]⟩) (q1:=t) (q2:=t+2) (q3:=t+3) (q4:=t+4) (q5:=t+5) (q6:=t+6) (q7:=t+7) (vs:=[]) (kx:=⟨#[97]⟩) (S1:=S1) (dI:=da) (LI:=La) (M4:=4) (nI:=na) (tI:=xa) (pI:=pa) (tX:=ta) (ne:=(A_22 ha ta Ia hb tb Ib hc tc Ic hd1 td Id)) (a1:=a1) (a2:=a2) (a3:=a3) (a4:=a4) (c1:=c1) (c2:=c2) (c3:=c3) (c4:=c4) (c5:=c5) (b1:=b1) (b2:=b2) (b3:=b3) (b4:=b4) (d1:=d1) (d2:=d2) (d3:=d3) (d4:=d4) (d5:=d5) (x1:=x1) (x2:=x2) (x3:=x3) (y1:=y1) (y2:=y2) (y3:=y3) (y4:=y4) (es:=#[]) (tb:=SetTable.fresh 0 0 !(pr w r).followText "set-order") (e3:=0) (IX:=Ia) (ep:=0) (Sx:=sx0) (m:=0) MB1 hB1 hD.up (setis_empty rfl) (by decide) rfl rfl rfl rfl rfl) fun v0=>(.a (d6 22 0x5155bbbb11111661111111) (ix [N+358,N+355,N+360,M+355] 18 0x222233222221111000) 0 4 1 3 [0] [1] (sin_f (hd:=some { v:=none,f:=some (fsC w r N P Ff C1 C2 L C3 C4) }) (nn:=v0.1.n+355) (t:=v0.1.t+1) (a:=N+358) (es:=v0.1.es) (ep:=v0.1.ep) (tb:=v0.1.tb) (k:=⟨#[98]⟩) (tk:=tb) (S:=sx1) v0.2.2 (by decide)) fun _=>(.a [] [] 62 0 1 3 [] [4,8,24,16] (fs_any (C:=N) (P:=P) (Ff:=Ff) (C1:=C1) (C2:=C2) (L:=L) (C3:=C3) (C4:=C4) (S:=S) (M:=M) (T1:=N+1) (T2:=N+2) (T3:=N+3) (T4:=N+4) (e:=eb) (e1:=v0.1.b) (e2:=v0.1.a) (e3:=v0.1.ep) (e4:=v0.1.q) (pe:=7) (N:=v0.1.n) (t:=v0.1.t+2) (dI:=db) (LI:=Lb) (M4:=4) (IX:=Ib) (g1:=kh w r ⟨#[115,101,108,102]⟩) (g2:=kh w r ⟨#[110,50,105]⟩) (g3:=kh w r ⟨#[115,116,97,99,107]⟩) (g4:=kh w r ⟨#[105,116,115,116,97,99,107]⟩) (g5:=kh w r ⟨#[115,101,101,110]⟩) (g6:=kh w r ⟨#[110,111,100,101,50,115,116,97,99,107,105]⟩) (g7:=kh w r ⟨#[110,111,100,101]⟩) (nI:=nb) (q1:=t) (q2:=t+2) (q3:=t+3) (q4:=t+4) (q5:=t+5) (q6:=t+6) (q7:=t+7) (tI:=xb) (pI:=pb) (tX:=tb) (vs:=lb) (kx:=⟨#[98]⟩) (es:=v0.1.es) (tb:=v0.1.tb) (ne:=(A_22 ha ta Ia hb tb Ib hc tc Ic hd1 td Id)) (Sx:=sx1) (m:=1) MB1 hB1 hD.up v0.2.2 (by decide) (by decide) rfl rfl rfl (fun v hv=>by obtain ⟨t,rfl⟩:=gb v hv; exact ⟨_,_,rfl,by decide,by decide⟩)) fun v2=>(.a (d6 22 0x5155bbbb11111661111111) (ix [N+358,N+355,N+360,M+355] 18 0x222233222221111000) 0 4 1 3 [0] [1] (sin_f (hd:=some { v:=none,f:=some (fsC w r N P Ff C1 C2 L C3 C4) }) (nn:=v2.1.n+355) (t:=v2.1.t+1) (a:=N+358) (es:=v2.1.es) (ep:=v2.1.ep) (tb:=v2.1.tb) (k:=⟨#[99]⟩) (tk:=tc) (S:=sx2) v2.2.2 (by decide)) fun _=>(.a [] [] 62 0 1 3 [] [4,10,26,18] (fs_any (C:=N) (P:=P) (Ff:=Ff) (C1:=C1) (C2:=C2) (L:=L) (C3:=C3) (C4:=C4) (S:=S) (M:=M) (T1:=N+1) (T2:=N+2) (T3:=N+3) (T4:=N+4) (e:=ec) (e1:=v2.1.b) (e2:=v2.1.a) (e3:=v2.1.ep) (e4:=v2.1.q) (pe:=7) (N:=v2.1.n) (t:=v2.1.t+2) (dI:=dc) (LI:=Lc) (M4:=4) (IX:=Ic) (g1:=kh w r ⟨#[115,101,108,102]⟩) (g2:=kh w r ⟨#[110,50,105]⟩) (g3:=kh w r ⟨#[115,116,97,99,107]⟩) (g4:=kh w r ⟨#[105,116,115,116,97,99,107]⟩) (g5:=kh w r ⟨#[115,101,101,110]⟩) (g6:=kh w r ⟨#[110,111,100,101,50,115,116,97,99,107,105]⟩) (g7:=kh w r ⟨#[110,111,100,101]⟩) (nI:=nc) (q1:=t) (q2:=t+2) (q3:=t+3) (q4:=t+4) (q5:=t+5) (q6:=t+6) (q7:=t+7) (tI:=xc) (pI:=pc) (tX:=tc) (vs:=lc) (kx:=⟨#[99]⟩) (es:=v2.1.es) (tb:=v2.1.tb) (ne:=(A_22 ha ta Ia hb tb Ib hc tc Ic hd1 td Id)) (Sx:=sx2) (m:=2) MB1 hB1 hD.up v2.2.2 (by decide) (by decide) rfl rfl rfl (fun v hv=>by obtain ⟨k,t,rfl,h⟩:=gc v hv; rcases h with rfl | rfl <;> exact ⟨_,_,rfl,by decide,by decide⟩)) fun v4=>(.a (d6 22 0x5155bbbb11111661111111) (ix [N+358,N+355,N+360,M+355] 18 0x222233222221111000) 0 4 1 3 [0] [1] (sin_f (hd:=some { v:=none,f:=some (fsC w r N P Ff C1 C2 L C3 C4) }) (nn:=v4.1.n+355) (t:=v4.1.t+1) (a:=N+358) (es:=v4.1.es) (ep:=v4.1.ep) (tb:=v4.1.tb) (k:=⟨#[100]⟩) (tk:=td) (S:=sx3) v4.2.2 (by decide)) fun _=>(.a [] [] 62 0 1 3 [] [4,12,28,20] (fs_any (C:=N) (P:=P) (Ff:=Ff) (C1:=C1) (C2:=C2) (L:=L) (C3:=C3) (C4:=C4) (S:=S) (M:=M) (T1:=N+1) (T2:=N+2) (T3:=N+3) (T4:=N+4) (e:=ed) (e1:=v4.1.b) (e2:=v4.1.a) (e3:=v4.1.ep) (e4:=v4.1.q) (pe:=7) (N:=v4.1.n) (t:=v4.1.t+2) (dI:=dd) (LI:=Ld) (M4:=4) (IX:=Id) (g1:=kh w r ⟨#[115,101,108,102]⟩) (g2:=kh w r ⟨#[110,50,105]⟩) (g3:=kh w r ⟨#[115,116,97,99,107]⟩) (g4:=kh w r ⟨#[105,116,115,116,97,99,107]⟩) (g5:=kh w r ⟨#[115,101,101,110]⟩) (g6:=kh w r ⟨#[110,111,100,101,50,115,116,97,99,107,105]⟩) (g7:=kh w r ⟨#[110,111,100,101]⟩) (nI:=nd) (q1:=t) (q2:=t+2) (q3:=t+3) (q4:=t+4) (q5:=t+5) (q6:=t+6) (q7:=t+7) (tI:=xd) (pI:=pd) (tX:=td) (vs:=ld) (kx:=⟨#[100]⟩) (es:=v4.1.es) (tb:=v4.1.tb) (ne:=(A_22 ha ta Ia hb tb Ib hc tc Ic hd1 td Id)) (Sx:=sx3) (m:=3) MB1 hB1 hD.up v4.2.2 (by decide) (by decide) rfl rfl rfl (fun v hv=>by obtain ⟨k,t,rfl,h⟩:=gd v hv; rcases h with rfl | rfl | rfl <;> exact ⟨_,_,rfl,by decide,by decide⟩)) fun v6=>(.k (d6 14 0x11111661111111) (ix [v6.1.n+356,N+360,M+355] 10 0x1111221110) (r':=(.ok (.ret .none))) (l':=[((P+355),⟨(.type "frame"),none,.dict ⟨[dE c1 ⟨#[115,101,108,102]⟩ d1 (.ref (S+355))]⟩ pp,⟨[some (.ref 265),some (.ref 3),none,some (.ref (Ff+355)),none,some (.ref 266),some (.ref 0)]⟩⟩),((Ff+355),⟨(.type "frame"),none,.dict ⟨[dE a1 ⟨#[115,111,114,116,101,114]⟩ b1 (.ref (S1+355)),dE a2 ⟨#[108,101,116,116,101,114]⟩ b2 x1,dE a3 ⟨#[108,101,97,118,101,115]⟩ b3 x2,dE a4 ⟨#[99,111,109,101,115]⟩ b4 x3]⟩ pf,⟨[some (.ref 326),some (.ref 3),none,some (.ref (L+355)),none,some (.ref 327),some (.ref 0),some (.ref (C2+355)),some (.ref (C1+355))]⟩⟩),((L+355),⟨(.type "frame"),none,.dict ⟨[dE c2 ⟨#[115,99,114,105,112,116]⟩ d2 y1,dE c3 ⟨#[100,114,97,119,115]⟩ d3 y2,dE c4 ⟨#[112,97,105,114,115]⟩ d4 y3,dE c5 ⟨#[115,116,97,114,116,115]⟩ d5 y4]⟩ pl0,⟨[some (.ref 353),some (.ref 3),none,some v0.1.z,none,some (.ref 354),some (.ref 0),some (.ref (C4+355)),some (.ref (C3+355))]⟩⟩)]) (m':=(v6.1.n+357)) (k':=v6.1.t) (z':=[]) ⟨⟨⟨v0.1.z,(v6.1.n)+2,v6.1.t⟩,by have:=v0.2.1; have:=v2.2.1; have:=v4.2.1; have:=v6.2.1; show N≤(v6.1.n)+2; omega⟩,(by k_end),(by k_end),(by k_end),(by k_end),(by k_end)⟩))))))))
 exact ⟨P₀,by intro v; cases v <;> kernel_rfl⟩
structure Mp where
 z:Value
 R:Nat
 e:Nat
 n:Nat
 t:Nat
include MB hB in
theorem prep_ok {S S1 dS M N t Ia Ib Ic Id La Lb Lc Ld da db dc dd eb ec ed ea Ff C1 C2 L C3 C4 pf pl0:Nat} {h1 h2 h3 h4 ha hb hc hd1:Int} {u1 u2 u3 u4 ta tb tc td xa xb xc xd pa pb pc pd:Tok} {na nb nc:Int} {lb lc ld:List Value} {v1 v2:Value} {a1 a2 a3 a4 c2 c3 c4 c5:Int} {b1 b2 b3 b4 d2 d3 d4 d5:Tok} {x1 x2 x3 y1 y2 y3 y4:Value} (hD:Lim D U 98) (pa0:na≠0) (pb0:nb≠0) (pc0:nc≠0) (gb:∀ v∈lb,∃ t,v = .str sa t) (gc:∀ v∈lc,∃ k t,v = .str k t∧(k = sa∨k = sb)) (gd:∀ v∈ld,∃ k t,v = .str k t∧(k = sa∨k = sb∨k = sc)) :
  CutOk (XX w r g d os) B D U (.call (.ref 266) ⟨[.ref (S+355)],[]⟩) (some ⟨none,some (fsF w r Ff C1 C2 L C3 C4)⟩) [(dS+355,srtD M h1 h2 h3 h4 u1 u2 u3 u4 .none v1 v2),(Ff+355,frS (fl4 S1 a1 a2 a3 a4 b1 b2 b3 b4 x1 x2 x3) pf ⟨[]⟩),(L+355,frS (llL c2 c3 c4 c5 d2 d3 d4 d5 y1 y2 y3 y4) pl0 ⟨[]⟩)] [(S+355,srtO dS),(M+355,dictO (A_3 ha ta Ia hb tb Ib hc tc Ic hd1 td Id) 4),(Ia+355,infO da La ⟨#[97]⟩ xa na pa),(Ib+355,infO db Lb ⟨#[98]⟩ xb nb pb),(Ic+355,infO dc Lc ⟨#[99]⟩ xc nc pc),(Id+355,infO dd Ld ⟨#[100]⟩ xd 0 pd),(La+355,listO [] ea),(Lb+355,listO lb eb),(Lc+355,listO lc ec),(Ld+355,listO ld ed),(da+355,dictO [] 0),(db+355,dictO [] 0),(dc+355,dictO [] 0),(dd+355,dictO [] 0)] (N+355) (t) ({v:Mp // N≤v.n}) (fun v=>.ok (.ret .none)) (fun v=>[(N+358,listO [.str ⟨#[100]⟩ xd] v.1.e)]) (fun v=>[srtD M h1 h2 h3 h4 u1 u2 u3 u4 (.ref (N+358)) v1 v2,frS (fl4 S1 a1 a2 a3 a4 b1 b2 b3 b4 x1 x2 x3) pf (slF L C1 C2),frS (llL c2 c3 c4 c5 d2 d3 d4 d5 y1 y2 y3 y4) pl0 (slL v.1.z C3 C4)]) (fun v=>v.1.n+355) (fun v=>v.1.t) (fun v=>[]):=by
 refine CutOk.of_pk MB hB hD.lo (by intro v p hp; simp only [List.mem_cons,List.not_mem_nil,or_false] at hp; rcases hp with rfl <;> (have hv:=v.2; dsimp only at *; omega)) (fun _=>rfl) 904 0 ?_
 k_data
 let P₀:Rows→Pk (XX w r g d os) B D U S₀ []:=fun x₀=>(.a (cond x₀.a (d6 100 0x1606001000600101000000006100061115555554455151511144111111414144443022000210002130220002100021101100) (d6 106 0x1606001000600101000000006100061115555554455151515151551144111111414144443022000210002130220002100021101100)) (cond x₀.a (ix [Ia+355,N+359,N+357,M+355,N+356,dS+355,S+355,N+355] 47 0x77766665766665333333444433222223322222211100000) (ix [Ia+355,N+359,N+357,M+355,N+356,dS+355,S+355,N+355] 51 0x777666657666653333334444332222222223322222211100000)) 0 0 1 3 [] [] (ieq_f (hd:=some { v:=none,f:=some (fsP w r N Ff C1 C2 L C3 C4) }) (n:=N+360) (t:=t+6) (a:=na) (b:=0) (ta:=pa) (tb:=t+5) pa0) fun _=>(.a (d6 48 0x180800100080010100000000810008111555555445515151) (ix [Ib+355,N+359,N+357,M+355] 20 0x22223322222211100000) 0 0 1 3 [] [] (ieq_f (hd:=some { v:=none,f:=some (fsP w r N Ff C1 C2 L C3 C4) }) (n:=N+360) (t:=t+9) (a:=nb) (b:=0) (ta:=pb) (tb:=t+8) pb0) fun _=>(.a (d6 48 0x1a0a001000a0010100000000a1000a111555555445515151) (ix [Ic+355,N+359,N+357,M+355] 20 0x22223322222211100000) 0 0 1 3 [] [] (ieq_f (hd:=some { v:=none,f:=some (fsP w r N Ff C1 C2 L C3 C4) }) (n:=N+360) (t:=t+12) (a:=nc) (b:=0) (ta:=pc) (tb:=t+11) pc0) fun _=>(.a (d6 48 0x1c0c001000c0010100000000c1000c111555555445515151) (ix [Id+355,N+359,N+357,M+355] 20 0x22223322222211100000) 0 0 1 3 [] [] (ieq_t (hd:=some { v:=none,f:=some (fsP w r N Ff C1 C2 L C3 C4) }) (n:=N+360) (t:=t+15) (a:=0) (b:=0) (ta:=pd) (tb:=t+14) rfl) fun _=>(.a (d6 89 0xf20000200020002dfff0200020210210002d5551555445515151333131c0c001000c0010100000000c1000c1) (ix [dS+355,S+355,N+355,N+359,N+361,N+357,M+355,N+358,Id+355] 38 0x38888877775555665554333211111000211110) 832 128 1 3 [1] (d8 15 0x1a18161412100e0c0a080604020100) (fc_ok (S:=S) (S1:=S1) (dS:=dS) (M:=M) (N:=N+7) (t:=t+18) (Ia:=Ia) (Ib:=Ib) (Ic:=Ic) (Id:=Id) (La:=La) (Lb:=Lb) (Lc:=Lc) (Ld:=Ld) (da:=da) (db:=db) (dc:=dc) (dd:=dd) (eb:=eb) (ec:=ec) (ed:=ed) (ea:=ea) (P:=N) (Ff:=Ff) (C1:=C1) (C2:=C2) (L:=L) (C3:=C3) (C4:=C4) (pf:=pf) (pp:=1) (pl0:=pl0) (h1:=h1) (h2:=h2) (h3:=h3) (h4:=h4) (ha:=ha) (hb:=hb) (hc:=hc) (hd1:=hd1) (u1:=u1) (u2:=u2) (u3:=u3) (u4:=u4) (ta:=ta) (tb:=tb) (tc:=tc) (td:=td) (xa:=xa) (xb:=xb) (xc:=xc) (xd:=xd) (pa:=pa) (pb:=pb) (pc:=pc) (pd:=pd) (na:=na) (nb:=nb) (nc:=nc) (nd:=0) (lb:=lb) (lc:=lc) (ld:=ld) (rd:=.ref (N+358)) (v1:=v1) (v2:=v2) (a1:=a1) (a2:=a2) (a3:=a3) (a4:=a4) (c1:=kh w r ⟨#[115,101,108,102]⟩) (c2:=c2) (c3:=c3) (c4:=c4) (c5:=c5) (b1:=b1) (b2:=b2) (b3:=b3) (b4:=b4) (d1:=t) (d2:=d2) (d3:=d3) (d4:=d4) (d5:=d5) (x1:=x1) (x2:=x2) (x3:=x3) (y1:=y1) (y2:=y2) (y3:=y3) (y4:=y4) MB1 hB1 hD.up gb gc gd) fun v4=>(.f [13,13,13] (ixL [N+355] [0,0,0]) ⟨⟨v4.1.z,0,1,(v4.1.n)+0,(v4.1.t+1)⟩,by have:=v4.2; show N≤(v4.1.n)+0; omega⟩))))))
 exact ⟨P₀,by intro ⟨x1,x2,x3,x4⟩; cases x1 <;> cases x2 <;> kernel_rfl⟩
section
noncomputable abbrev eD (w:World) (r:Rows) (C:Nat):Env:={ scope:=fnScope (KF (pr w r)) 294,locals:=C+355,globals:=3,cells:=[],qual:=(⟨#[84,111,112,111,108,111,103,105,99,97,108,83,111,114,116,101,114,46,100,111,110,101,46,60,108,111,99,97,108,115,62,46]⟩:Str),func:=some 294,code:=.ref 293,frame:=some (C+355),builtins:=0 }
noncomputable abbrev dnCode (w:World) (r:Rows) (I C:Nat):Code:=.forLoop (forT (nthS (forB (nthS (fnBody (KF (pr w r)) 294) 2)) 4)) (.ref (I+355)) (forB (nthS (forB (nthS (fnBody (KF (pr w r)) 294) 2)) 4)) (forO (nthS (forB (nthS (fnBody (KF (pr w r)) 294) 2)) 4)) (eD w r C)
noncomputable abbrev ld6 (S M G IX:Nat) (g1 g2 g3 g4 g5 g6:Int) (q1 q2 q3 q4 q5 q6:Tok) (nx sx:Value) (l:List DictEntry):List DictEntry:=dE g1 (⟨#[115,101,108,102]⟩:Str) q1 (.ref (S+355)) :: dE g2 (⟨#[110,111,100,101,115]⟩:Str) q2 (.ref (G+355)) :: dE g3 (⟨#[110,50,105]⟩:Str) q3 (.ref (M+355)) :: dE g4 (⟨#[110,111,100,101]⟩:Str) q4 nx :: dE g5 (⟨#[110,111,100,101,105,110,102,111]⟩:Str) q5 (.ref (IX+355)) :: dE g6 (⟨#[115,116,97,116]⟩:Str) q6 sx :: l
noncomputable abbrev ld2 (g7 g8:Int) (q7 q8:Tok) (y z:Value):List DictEntry:=[dE g7 (⟨#[115,117,99,99,101,115,115,111,114]⟩:Str) q7 y,dE g8 (⟨#[115,117,99,99,101,115,115,111,114,95,105,110,102,111]⟩:Str) q8 z]
noncomputable def rdyV:List Value→Int→Int→Int→List Value
 | [],_,_,_ => []
 | y :: l,na,nb,nc => if sOf y = sa then (if na - 1 = 0 then [y] else [])++rdyV l (na - 1) nb nc else if sOf y = sb then (if nb - 1 = 0 then [y] else [])++rdyV l na (nb - 1) nc else (if nc - 1 = 0 then [y] else [])++rdyV l na nb (nc - 1)
structure DnV where
 eR:Nat
 pa:Tok
 pb:Tok
 pc:Tok
 fh:Int
 fg:Int
 fu:Tok
 fv:Tok
 fx:Value
 fy:Value
 fe:Nat
 i:Nat
 n:Nat
 t:Nat
theorem cntV_cons {q:Str} {y:Value} {l:List Value}:cntV q (y :: l) = (if sOf y = q then 1 else 0) + cntV q l:=by
 unfold cntV
 by_cases h:sOf y = q <;> simp [h] <;> omega
noncomputable abbrev A_2 (N0:Nat) (vs:List Value) (i:Nat) (rr:List Value) (ma mb mc:Int) (rl:List Value) (w:World) (r:Rows) (g:Array GenState) (d:Drawn) (os:OsState) (B:Heap→Prop) (D U I C L S M G IX:Nat) (g1 g2 g3 g4 g5 g6:Int) (q1 q2 q3 q4 q5 q6:Tok) (nx sx:Value) (R Ic dc Lc:Nat) (xc:Tok) (Ib db Lb:Nat) (xb:Tok) (Ia da La:Nat) (xa:Tok) (dS:Nat) (h1 h2 h3 h4:Int) (u1 u2 u3 u4:Tok) (v1 v2:Value) (ha:Int) (ta:Tok) (hb:Int) (tb:Tok) (hc:Int) (tc:Tok) (hd1:Int) (td:Tok) (Id e:Nat):Prop:=∀ (rl1:List Value) (er1:Nat) (na1 nb1 nc1:Int) (pa1 pb1 pc1:Tok) (g71 g81:Int) (q71 q81:Tok) (yv1 zv1:Value) (pe1 N1 t1:Nat),N0≤N1→rl1++rdyV (vs.drop (i+1)) na1 nb1 nc1 = rr→na1 - (cntV sa (vs.drop (i+1)):Nat) = ma→nb1 - (cntV sb (vs.drop (i+1)):Nat) = mb→nc1 - (cntV sc (vs.drop (i+1)):Nat) = mc→rl1.length≤rl.length+1→CutOk (XX w r g d os) B D U (dnCode w r I C) none [(I+355,iterO (L+355) (i+1)),(C+355,frO (ld6 S M G IX g1 g2 g3 g4 g5 g6 q1 q2 q3 q4 q5 q6 nx sx (ld2 g71 g81 q71 q81 yv1 zv1)) pe1),(R+355,listO rl1 er1),(Ic+355,infO dc Lc ⟨#[99]⟩ xc nc1 pc1),(Ib+355,infO db Lb ⟨#[98]⟩ xb nb1 pb1),(Ia+355,infO da La ⟨#[97]⟩ xa na1 pa1)] [(S+355,srtO dS),(dS+355,srtD M h1 h2 h3 h4 u1 u2 u3 u4 (.ref (R+355)) v1 v2),(M+355,dictO (A_3 ha ta Ia hb tb Ib hc tc Ic hd1 td Id) 4),(L+355,listO vs e),(da+355,dictO [] 0),(db+355,dictO [] 0),(dc+355,dictO [] 0)] (N1+355) t1 ({v:DnV // N0≤v.n}) (fun _=>.ok .next) (fun _=>[]) (fun v=>[iterE v.1.i,frO (ld6 S M G IX g1 g2 g3 g4 g5 g6 q1 q2 q3 q4 q5 q6 nx sx (ld2 v.1.fh v.1.fg v.1.fu v.1.fv v.1.fx v.1.fy)) v.1.fe,listO rr v.1.eR,infO dc Lc ⟨#[99]⟩ xc mc v.1.pc,infO db Lb ⟨#[98]⟩ xb mb v.1.pb,infO da La ⟨#[97]⟩ xa ma v.1.pa]) (fun v=>v.1.n+355) (fun v=>v.1.t) (fun _=>[])
noncomputable abbrev A_6 (S M G IX:Nat) (g1 g2 g3 g4 g5 g6:Int) (q1 q2 q3 q4 q5 q6:Tok) (nx sx:Value) (rr:List Value) (dc Lc:Nat) (xc:Tok) (mc:Int) (db Lb:Nat) (xb:Tok) (mb:Int) (da La:Nat) (xa:Tok) (ma:Int) (χ:DnV):List Obj:=[iterE χ.i,frO (ld6 S M G IX g1 g2 g3 g4 g5 g6 q1 q2 q3 q4 q5 q6 nx sx (ld2 χ.fh χ.fg χ.fu χ.fv χ.fx χ.fy)) χ.fe,listO rr χ.eR,infO dc Lc ⟨#[99]⟩ xc mc χ.pc,infO db Lb ⟨#[98]⟩ xb mb χ.pb,infO da La ⟨#[97]⟩ xa ma χ.pa]
noncomputable abbrev A_9 (S dS M:Nat) (h1 h2 h3 h4:Int) (u1 u2 u3 u4:Tok) (R:Nat) (v1 v2:Value) (ha:Int) (ta:Tok) (Ia:Nat) (hb:Int) (tb:Tok) (Ib:Nat) (hc:Int) (tc:Tok) (Ic:Nat) (hd1:Int) (td:Tok) (Id L:Nat) (vs:List Value) (e da db dc:Nat):List (Addr × Obj):=[(S+355,srtO dS),(dS+355,srtD M h1 h2 h3 h4 u1 u2 u3 u4 (.ref (R+355)) v1 v2),(M+355,dictO (A_3 ha ta Ia hb tb Ib hc tc Ic hd1 td Id) 4),(L+355,listO vs e),(da+355,dictO [] 0),(db+355,dictO [] 0),(dc+355,dictO [] 0)]
variable {I C S dS M G IX L R N N0 t i e pe er Ia Ib Ic Id La Lb Lc da db dc:Nat} {h1 h2 h3 h4 ha hb hc hd1 g1 g2 g3 g4 g5 g6:Int} {u1 u2 u3 u4 q1 q2 q3 q4 q5 q6 ta tb tc td xa xb xc pa pb pc ty:Tok} {na nb nc ma mb mc:Int} {rl rr vs:List Value} {v1 v2 nx sx:Value}
include MB hB in
theorem dn_0a1 (hD:Lim D U 70) (hN:N0≤N) (hl:rl.length≤900) (hi:vs[i]? = some (.str ⟨#[97]⟩ ty)) (hd:vs.drop i = .str ⟨#[97]⟩ ty :: vs.drop (i+1)) (hz:na - 1 = 0) (e1:rl++rdyV (vs.drop i) na nb nc = rr) (e2:na - (cntV sa (vs.drop i):Nat) = ma) (e3:nb - (cntV sb (vs.drop i):Nat) = mb) (e4:nc - (cntV sc (vs.drop i):Nat) = mc) (IH:A_2 N0 vs i rr ma mb mc rl w r g d os B D U I C L S M G IX g1 g2 g3 g4 g5 g6 q1 q2 q3 q4 q5 q6 nx sx R Ic dc Lc xc Ib db Lb xb Ia da La xa dS h1 h2 h3 h4 u1 u2 u3 u4 v1 v2 ha ta hb tb hc tc hd1 td Id e) :
  CutOk (XX w r g d os) B D U (dnCode w r I C) none [(I+355,iterO (L+355) (i)),(C+355,frO (ld6 S M G IX g1 g2 g3 g4 g5 g6 q1 q2 q3 q4 q5 q6 nx sx []) pe),(R+355,listO rl er),(Ic+355,infO dc Lc ⟨#[99]⟩ xc nc pc),(Ib+355,infO db Lb ⟨#[98]⟩ xb nb pb),(Ia+355,infO da La ⟨#[97]⟩ xa na pa)] (A_9 S dS M h1 h2 h3 h4 u1 u2 u3 u4 R v1 v2 ha ta Ia hb tb Ib hc tc Ic hd1 td Id L vs e da db dc) (N+355) (t) ({v:DnV // N0≤v.n}) (fun v=>.ok .next) (fun v=>[]) (fun v=>A_6 S M G IX g1 g2 g3 g4 g5 g6 q1 q2 q3 q4 q5 q6 nx sx rr dc Lc xc mc db Lb xb mb da La xa ma v.1) (fun v=>v.1.n+355) (fun v=>v.1.t) (fun v=>[]):=by
 refine .of_q MB hB hD.lo 63 0 ?_
 intro S₀
 let P₀:Rows→Pk (XX w r g d os) B D U S₀ []:=fun x₀=>(.a [1,1,1] [I+355,I+355] 1 0 0 0 [] [6] (next_some (hd:=none) (I:=I+355) (H:=L+355) (i:=i) (e:=e) (n:=N+355) (t:=t) (vs:=vs) (v:=.str ⟨#[97]⟩ ty) hi) fun _=>(.a (d6 9 0x616663333) (ix [M+355,C+355] 8 0x11110000) 0 0 0 0 [] [4] (dget_ok (hd:=none) (n:=N+355) (t:=t+1) (H:=M+355) (es:=(A_3 ha ta Ia hb tb Ib hc tc Ic hd1 td Id)) (ep:=4) (k:=⟨#[97]⟩) (tk:=ty) rfl rfl) fun _=>(.a (d6 96 0x1b0b001000b0010100000000b1000b3b0b001000b0010100000b0b10b1000b11b0b001000b0010100000000b1000b333) (ix [Ia+355,C+355] 21 0x111000000000000100000) 0 0 0 0 [] [] (ieq_t (hd:=none) (n:=N+355) (t:=t+9) (a:=na - 1) (b:=0) (ta:=t+5) (tb:=t+8) hz) fun _=>(.a (d6 21 0x513555540220002100023) (ix [R+355,C+355,dS+355,S+355] 12 0x133332000010) 4 0 0 0 [] [] (append_ok (hd:=none) (H:=R+355) (e:=er) (n:=N+355) (t:=t+10) (vs:=rl) (x:=.str ⟨#[97]⟩ ty) (by omega)) fun _=>(.o [] [] 63 0 0 0 [] (d6 7 0xca86420) (IH (rl1:=rl++[Value.str ⟨#[97]⟩ ty]) (er1:=er+1) (na1:=na - 1) (nb1:=nb) (nc1:=nc) (pa1:=t+5) (pb1:=pb) (pc1:=pc) (g71:=kh w r ⟨#[115,117,99,99,101,115,115,111,114]⟩) (g81:=kh w r ⟨#[115,117,99,99,101,115,115,111,114,95,105,110,102,111]⟩) (q71:=t) (q81:=t+2) (yv1:=.str ⟨#[97]⟩ ty) (zv1:=.ref (Ia+355)) (pe1:=pe+2) (N1:=N) (t1:=t+10) (by omega) (by rw [hd] at e1; simp only [rdyV,sOf,show (⟨#[97]⟩:Str) = sa from rfl,show ¬ (sb = sa) from by decide,show ¬ (sc = sa) from by decide,show ¬ (sc = sb) from by decide,if_true,if_false,if_pos hz] at e1; rw [List.append_assoc]; exact e1) (by rw [hd,cntV_cons] at e2; simp only [sOf,show (⟨#[97]⟩:Str) = sa from rfl,ne_B,if_true,if_false] at e2; omega) (by rw [hd,cntV_cons] at e3; simp only [sOf,show (⟨#[97]⟩:Str) = sa from rfl,ne_B,if_true,if_false] at e3; omega) (by rw [hd,cntV_cons] at e4; simp only [sOf,show (⟨#[97]⟩:Str) = sa from rfl,ne_B,if_true,if_false] at e4; omega) (by simp)) fun v4=>(.e v4))))))
 exact ⟨P₀,by intro ⟨x1,x2,x3,x4⟩; cases x2 <;> kernel_rfl⟩
include MB hB in
theorem dn_0a0 (hD:Lim D U 70) (hN:N0≤N) (hl:rl.length≤900) (hi:vs[i]? = some (.str ⟨#[97]⟩ ty)) (hd:vs.drop i = .str ⟨#[97]⟩ ty :: vs.drop (i+1)) (hz:¬ na - 1 = 0) (e1:rl++rdyV (vs.drop i) na nb nc = rr) (e2:na - (cntV sa (vs.drop i):Nat) = ma) (e3:nb - (cntV sb (vs.drop i):Nat) = mb) (e4:nc - (cntV sc (vs.drop i):Nat) = mc) (IH:A_2 N0 vs i rr ma mb mc rl w r g d os B D U I C L S M G IX g1 g2 g3 g4 g5 g6 q1 q2 q3 q4 q5 q6 nx sx R Ic dc Lc xc Ib db Lb xb Ia da La xa dS h1 h2 h3 h4 u1 u2 u3 u4 v1 v2 ha ta hb tb hc tc hd1 td Id e) :
  CutOk (XX w r g d os) B D U (dnCode w r I C) none [(I+355,iterO (L+355) (i)),(C+355,frO (ld6 S M G IX g1 g2 g3 g4 g5 g6 q1 q2 q3 q4 q5 q6 nx sx []) pe),(R+355,listO rl er),(Ic+355,infO dc Lc ⟨#[99]⟩ xc nc pc),(Ib+355,infO db Lb ⟨#[98]⟩ xb nb pb),(Ia+355,infO da La ⟨#[97]⟩ xa na pa)] (A_9 S dS M h1 h2 h3 h4 u1 u2 u3 u4 R v1 v2 ha ta Ia hb tb Ib hc tc Ic hd1 td Id L vs e da db dc) (N+355) (t) ({v:DnV // N0≤v.n}) (fun v=>.ok .next) (fun v=>[]) (fun v=>A_6 S M G IX g1 g2 g3 g4 g5 g6 q1 q2 q3 q4 q5 q6 nx sx rr dc Lc xc mc db Lb xb mb da La xa ma v.1) (fun v=>v.1.n+355) (fun v=>v.1.t) (fun v=>[]):=by
 refine .of_q MB hB hD.lo 63 0 ?_
 intro S₀
 let P₀:Rows→Pk (XX w r g d os) B D U S₀ []:=fun x₀=>(.a [1,1,1] [I+355,I+355] 1 0 0 0 [] [6] (next_some (hd:=none) (I:=I+355) (H:=L+355) (i:=i) (e:=e) (n:=N+355) (t:=t) (vs:=vs) (v:=.str ⟨#[97]⟩ ty) hi) fun _=>(.a (d6 9 0x616663333) (ix [M+355,C+355] 8 0x11110000) 0 0 0 0 [] [4] (dget_ok (hd:=none) (n:=N+355) (t:=t+1) (H:=M+355) (es:=(A_3 ha ta Ia hb tb Ib hc tc Ic hd1 td Id)) (ep:=4) (k:=⟨#[97]⟩) (tk:=ty) rfl rfl) fun _=>(.a (d6 96 0x1b0b001000b0010100000000b1000b3b0b001000b0010100000b0b10b1000b11b0b001000b0010100000000b1000b333) (ix [Ia+355,C+355] 21 0x111000000000000100000) 0 0 0 0 [] [] (ieq_f (hd:=none) (n:=N+355) (t:=t+9) (a:=na - 1) (b:=0) (ta:=t+5) (tb:=t+8) hz) fun _=>(.o [] [] 63 0 0 0 [] (d6 7 0xca86420) (IH (rl1:=rl) (er1:=er) (na1:=na - 1) (nb1:=nb) (nc1:=nc) (pa1:=t+5) (pb1:=pb) (pc1:=pc) (g71:=kh w r ⟨#[115,117,99,99,101,115,115,111,114]⟩) (g81:=kh w r ⟨#[115,117,99,99,101,115,115,111,114,95,105,110,102,111]⟩) (q71:=t) (q81:=t+2) (yv1:=.str ⟨#[97]⟩ ty) (zv1:=.ref (Ia+355)) (pe1:=pe+2) (N1:=N) (t1:=t+9) (by omega) (by rw [hd] at e1; simp only [rdyV,sOf,show (⟨#[97]⟩:Str) = sa from rfl,show ¬ (sb = sa) from by decide,show ¬ (sc = sa) from by decide,show ¬ (sc = sb) from by decide,if_true,if_false,if_neg hz] at e1; exact e1) (by rw [hd,cntV_cons] at e2; simp only [sOf,show (⟨#[97]⟩:Str) = sa from rfl,ne_B,if_true,if_false] at e2; omega) (by rw [hd,cntV_cons] at e3; simp only [sOf,show (⟨#[97]⟩:Str) = sa from rfl,ne_B,if_true,if_false] at e3; omega) (by rw [hd,cntV_cons] at e4; simp only [sOf,show (⟨#[97]⟩:Str) = sa from rfl,ne_B,if_true,if_false] at e4; omega) (by omega)) fun v3=>(.e v3)))))
 exact ⟨P₀,by intro ⟨x1,x2,x3,x4⟩; cases x2 <;> kernel_rfl⟩
include MB hB in
theorem dn_0b1 (hD:Lim D U 70) (hN:N0≤N) (hl:rl.length≤900) (hi:vs[i]? = some (.str ⟨#[98]⟩ ty)) (hd:vs.drop i = .str ⟨#[98]⟩ ty :: vs.drop (i+1)) (hz:nb - 1 = 0) (e1:rl++rdyV (vs.drop i) na nb nc = rr) (e2:na - (cntV sa (vs.drop i):Nat) = ma) (e3:nb - (cntV sb (vs.drop i):Nat) = mb) (e4:nc - (cntV sc (vs.drop i):Nat) = mc) (IH:A_2 N0 vs i rr ma mb mc rl w r g d os B D U I C L S M G IX g1 g2 g3 g4 g5 g6 q1 q2 q3 q4 q5 q6 nx sx R Ic dc Lc xc Ib db Lb xb Ia da La xa dS h1 h2 h3 h4 u1 u2 u3 u4 v1 v2 ha ta hb tb hc tc hd1 td Id e) :
  CutOk (XX w r g d os) B D U (dnCode w r I C) none [(I+355,iterO (L+355) (i)),(C+355,frO (ld6 S M G IX g1 g2 g3 g4 g5 g6 q1 q2 q3 q4 q5 q6 nx sx []) pe),(R+355,listO rl er),(Ic+355,infO dc Lc ⟨#[99]⟩ xc nc pc),(Ib+355,infO db Lb ⟨#[98]⟩ xb nb pb),(Ia+355,infO da La ⟨#[97]⟩ xa na pa)] (A_9 S dS M h1 h2 h3 h4 u1 u2 u3 u4 R v1 v2 ha ta Ia hb tb Ib hc tc Ic hd1 td Id L vs e da db dc) (N+355) (t) ({v:DnV // N0≤v.n}) (fun v=>.ok .next) (fun v=>[]) (fun v=>A_6 S M G IX g1 g2 g3 g4 g5 g6 q1 q2 q3 q4 q5 q6 nx sx rr dc Lc xc mc db Lb xb mb da La xa ma v.1) (fun v=>v.1.n+355) (fun v=>v.1.t) (fun v=>[]):=by
 refine .of_q MB hB hD.lo 63 0 ?_
 intro S₀
 let P₀:Rows→Pk (XX w r g d os) B D U S₀ []:=fun x₀=>(.a [1,1,1] [I+355,I+355] 1 0 0 0 [] [6] (next_some (hd:=none) (I:=I+355) (H:=L+355) (i:=i) (e:=e) (n:=N+355) (t:=t) (vs:=vs) (v:=.str ⟨#[98]⟩ ty) hi) fun _=>(.a (d6 9 0x616663333) (ix [M+355,C+355] 8 0x11110000) 0 0 0 0 [] [4] (dget_ok (hd:=none) (n:=N+355) (t:=t+1) (H:=M+355) (es:=(A_3 ha ta Ia hb tb Ib hc tc Ic hd1 td Id)) (ep:=4) (k:=⟨#[98]⟩) (tk:=ty) rfl rfl) fun _=>(.a (d6 96 0x190900100090010100000000910009390900100090010100000909109100091190900100090010100000000910009333) (ix [Ib+355,C+355] 21 0x111000000000000100000) 0 0 0 0 [] [] (ieq_t (hd:=none) (n:=N+355) (t:=t+9) (a:=nb - 1) (b:=0) (ta:=t+5) (tb:=t+8) hz) fun _=>(.a (d6 21 0x513555540220002100023) (ix [R+355,C+355,dS+355,S+355] 12 0x133332000010) 4 0 0 0 [] [] (append_ok (hd:=none) (H:=R+355) (e:=er) (n:=N+355) (t:=t+10) (vs:=rl) (x:=.str ⟨#[98]⟩ ty) (by omega)) fun _=>(.o [] [] 63 0 0 0 [] (d6 7 0xca86420) (IH (rl1:=rl++[Value.str ⟨#[98]⟩ ty]) (er1:=er+1) (na1:=na) (nb1:=nb - 1) (nc1:=nc) (pa1:=pa) (pb1:=t+5) (pc1:=pc) (g71:=kh w r ⟨#[115,117,99,99,101,115,115,111,114]⟩) (g81:=kh w r ⟨#[115,117,99,99,101,115,115,111,114,95,105,110,102,111]⟩) (q71:=t) (q81:=t+2) (yv1:=.str ⟨#[98]⟩ ty) (zv1:=.ref (Ib+355)) (pe1:=pe+2) (N1:=N) (t1:=t+10) (by omega) (by rw [hd] at e1; simp only [rdyV,sOf,show (⟨#[98]⟩:Str) = sb from rfl,show ¬ (sb = sa) from by decide,show ¬ (sc = sa) from by decide,show ¬ (sc = sb) from by decide,if_true,if_false,if_pos hz] at e1; rw [List.append_assoc]; exact e1) (by rw [hd,cntV_cons] at e2; simp only [sOf,show (⟨#[98]⟩:Str) = sb from rfl,ne_B,if_true,if_false] at e2; omega) (by rw [hd,cntV_cons] at e3; simp only [sOf,show (⟨#[98]⟩:Str) = sb from rfl,ne_B,if_true,if_false] at e3; omega) (by rw [hd,cntV_cons] at e4; simp only [sOf,show (⟨#[98]⟩:Str) = sb from rfl,ne_B,if_true,if_false] at e4; omega) (by simp)) fun v4=>(.e v4))))))
 exact ⟨P₀,by intro ⟨x1,x2,x3,x4⟩; cases x2 <;> kernel_rfl⟩
include MB hB in
theorem dn_0b0 (hD:Lim D U 70) (hN:N0≤N) (hl:rl.length≤900) (hi:vs[i]? = some (.str ⟨#[98]⟩ ty)) (hd:vs.drop i = .str ⟨#[98]⟩ ty :: vs.drop (i+1)) (hz:¬ nb - 1 = 0) (e1:rl++rdyV (vs.drop i) na nb nc = rr) (e2:na - (cntV sa (vs.drop i):Nat) = ma) (e3:nb - (cntV sb (vs.drop i):Nat) = mb) (e4:nc - (cntV sc (vs.drop i):Nat) = mc) (IH:A_2 N0 vs i rr ma mb mc rl w r g d os B D U I C L S M G IX g1 g2 g3 g4 g5 g6 q1 q2 q3 q4 q5 q6 nx sx R Ic dc Lc xc Ib db Lb xb Ia da La xa dS h1 h2 h3 h4 u1 u2 u3 u4 v1 v2 ha ta hb tb hc tc hd1 td Id e) :
  CutOk (XX w r g d os) B D U (dnCode w r I C) none [(I+355,iterO (L+355) (i)),(C+355,frO (ld6 S M G IX g1 g2 g3 g4 g5 g6 q1 q2 q3 q4 q5 q6 nx sx []) pe),(R+355,listO rl er),(Ic+355,infO dc Lc ⟨#[99]⟩ xc nc pc),(Ib+355,infO db Lb ⟨#[98]⟩ xb nb pb),(Ia+355,infO da La ⟨#[97]⟩ xa na pa)] (A_9 S dS M h1 h2 h3 h4 u1 u2 u3 u4 R v1 v2 ha ta Ia hb tb Ib hc tc Ic hd1 td Id L vs e da db dc) (N+355) (t) ({v:DnV // N0≤v.n}) (fun v=>.ok .next) (fun v=>[]) (fun v=>A_6 S M G IX g1 g2 g3 g4 g5 g6 q1 q2 q3 q4 q5 q6 nx sx rr dc Lc xc mc db Lb xb mb da La xa ma v.1) (fun v=>v.1.n+355) (fun v=>v.1.t) (fun v=>[]):=by
 refine .of_q MB hB hD.lo 63 0 ?_
 intro S₀
 let P₀:Rows→Pk (XX w r g d os) B D U S₀ []:=fun x₀=>(.a [1,1,1] [I+355,I+355] 1 0 0 0 [] [6] (next_some (hd:=none) (I:=I+355) (H:=L+355) (i:=i) (e:=e) (n:=N+355) (t:=t) (vs:=vs) (v:=.str ⟨#[98]⟩ ty) hi) fun _=>(.a (d6 9 0x616663333) (ix [M+355,C+355] 8 0x11110000) 0 0 0 0 [] [4] (dget_ok (hd:=none) (n:=N+355) (t:=t+1) (H:=M+355) (es:=(A_3 ha ta Ia hb tb Ib hc tc Ic hd1 td Id)) (ep:=4) (k:=⟨#[98]⟩) (tk:=ty) rfl rfl) fun _=>(.a (d6 96 0x190900100090010100000000910009390900100090010100000909109100091190900100090010100000000910009333) (ix [Ib+355,C+355] 21 0x111000000000000100000) 0 0 0 0 [] [] (ieq_f (hd:=none) (n:=N+355) (t:=t+9) (a:=nb - 1) (b:=0) (ta:=t+5) (tb:=t+8) hz) fun _=>(.o [] [] 63 0 0 0 [] (d6 7 0xca86420) (IH (rl1:=rl) (er1:=er) (na1:=na) (nb1:=nb - 1) (nc1:=nc) (pa1:=pa) (pb1:=t+5) (pc1:=pc) (g71:=kh w r ⟨#[115,117,99,99,101,115,115,111,114]⟩) (g81:=kh w r ⟨#[115,117,99,99,101,115,115,111,114,95,105,110,102,111]⟩) (q71:=t) (q81:=t+2) (yv1:=.str ⟨#[98]⟩ ty) (zv1:=.ref (Ib+355)) (pe1:=pe+2) (N1:=N) (t1:=t+9) (by omega) (by rw [hd] at e1; simp only [rdyV,sOf,show (⟨#[98]⟩:Str) = sb from rfl,show ¬ (sb = sa) from by decide,show ¬ (sc = sa) from by decide,show ¬ (sc = sb) from by decide,if_true,if_false,if_neg hz] at e1; exact e1) (by rw [hd,cntV_cons] at e2; simp only [sOf,show (⟨#[98]⟩:Str) = sb from rfl,ne_B,if_true,if_false] at e2; omega) (by rw [hd,cntV_cons] at e3; simp only [sOf,show (⟨#[98]⟩:Str) = sb from rfl,ne_B,if_true,if_false] at e3; omega) (by rw [hd,cntV_cons] at e4; simp only [sOf,show (⟨#[98]⟩:Str) = sb from rfl,ne_B,if_true,if_false] at e4; omega) (by omega)) fun v3=>(.e v3)))))
 exact ⟨P₀,by intro ⟨x1,x2,x3,x4⟩; cases x2 <;> kernel_rfl⟩
include MB hB in
theorem dn_0c1 (hD:Lim D U 70) (hN:N0≤N) (hl:rl.length≤900) (hi:vs[i]? = some (.str ⟨#[99]⟩ ty)) (hd:vs.drop i = .str ⟨#[99]⟩ ty :: vs.drop (i+1)) (hz:nc - 1 = 0) (e1:rl++rdyV (vs.drop i) na nb nc = rr) (e2:na - (cntV sa (vs.drop i):Nat) = ma) (e3:nb - (cntV sb (vs.drop i):Nat) = mb) (e4:nc - (cntV sc (vs.drop i):Nat) = mc) (IH:A_2 N0 vs i rr ma mb mc rl w r g d os B D U I C L S M G IX g1 g2 g3 g4 g5 g6 q1 q2 q3 q4 q5 q6 nx sx R Ic dc Lc xc Ib db Lb xb Ia da La xa dS h1 h2 h3 h4 u1 u2 u3 u4 v1 v2 ha ta hb tb hc tc hd1 td Id e) :
  CutOk (XX w r g d os) B D U (dnCode w r I C) none [(I+355,iterO (L+355) (i)),(C+355,frO (ld6 S M G IX g1 g2 g3 g4 g5 g6 q1 q2 q3 q4 q5 q6 nx sx []) pe),(R+355,listO rl er),(Ic+355,infO dc Lc ⟨#[99]⟩ xc nc pc),(Ib+355,infO db Lb ⟨#[98]⟩ xb nb pb),(Ia+355,infO da La ⟨#[97]⟩ xa na pa)] (A_9 S dS M h1 h2 h3 h4 u1 u2 u3 u4 R v1 v2 ha ta Ia hb tb Ib hc tc Ic hd1 td Id L vs e da db dc) (N+355) (t) ({v:DnV // N0≤v.n}) (fun v=>.ok .next) (fun v=>[]) (fun v=>A_6 S M G IX g1 g2 g3 g4 g5 g6 q1 q2 q3 q4 q5 q6 nx sx rr dc Lc xc mc db Lb xb mb da La xa ma v.1) (fun v=>v.1.n+355) (fun v=>v.1.t) (fun v=>[]):=by
 refine .of_q MB hB hD.lo 63 0 ?_
 intro S₀
 let P₀:Rows→Pk (XX w r g d os) B D U S₀ []:=fun x₀=>(.a [1,1,1] [I+355,I+355] 1 0 0 0 [] [6] (next_some (hd:=none) (I:=I+355) (H:=L+355) (i:=i) (e:=e) (n:=N+355) (t:=t) (vs:=vs) (v:=.str ⟨#[99]⟩ ty) hi) fun _=>(.a (d6 9 0x616663333) (ix [M+355,C+355] 8 0x11110000) 0 0 0 0 [] [4] (dget_ok (hd:=none) (n:=N+355) (t:=t+1) (H:=M+355) (es:=(A_3 ha ta Ia hb tb Ib hc tc Ic hd1 td Id)) (ep:=4) (k:=⟨#[99]⟩) (tk:=ty) rfl rfl) fun _=>(.a (d6 96 0x170700100070010100000000710007370700100070010100000707107100071170700100070010100000000710007333) (ix [Ic+355,C+355] 21 0x111000000000000100000) 0 0 0 0 [] [] (ieq_t (hd:=none) (n:=N+355) (t:=t+9) (a:=nc - 1) (b:=0) (ta:=t+5) (tb:=t+8) hz) fun _=>(.a (d6 21 0x513555540220002100023) (ix [R+355,C+355,dS+355,S+355] 12 0x133332000010) 4 0 0 0 [] [] (append_ok (hd:=none) (H:=R+355) (e:=er) (n:=N+355) (t:=t+10) (vs:=rl) (x:=.str ⟨#[99]⟩ ty) (by omega)) fun _=>(.o [] [] 63 0 0 0 [] (d6 7 0xca86420) (IH (rl1:=rl++[Value.str ⟨#[99]⟩ ty]) (er1:=er+1) (na1:=na) (nb1:=nb) (nc1:=nc - 1) (pa1:=pa) (pb1:=pb) (pc1:=t+5) (g71:=kh w r ⟨#[115,117,99,99,101,115,115,111,114]⟩) (g81:=kh w r ⟨#[115,117,99,99,101,115,115,111,114,95,105,110,102,111]⟩) (q71:=t) (q81:=t+2) (yv1:=.str ⟨#[99]⟩ ty) (zv1:=.ref (Ic+355)) (pe1:=pe+2) (N1:=N) (t1:=t+10) (by omega) (by rw [hd] at e1; simp only [rdyV,sOf,show (⟨#[99]⟩:Str) = sc from rfl,show ¬ (sb = sa) from by decide,show ¬ (sc = sa) from by decide,show ¬ (sc = sb) from by decide,if_true,if_false,if_pos hz] at e1; rw [List.append_assoc]; exact e1) (by rw [hd,cntV_cons] at e2; simp only [sOf,show (⟨#[99]⟩:Str) = sc from rfl,ne_B,if_true,if_false] at e2; omega) (by rw [hd,cntV_cons] at e3; simp only [sOf,show (⟨#[99]⟩:Str) = sc from rfl,ne_B,if_true,if_false] at e3; omega) (by rw [hd,cntV_cons] at e4; simp only [sOf,show (⟨#[99]⟩:Str) = sc from rfl,ne_B,if_true,if_false] at e4; omega) (by simp)) fun v4=>(.e v4))))))
 exact ⟨P₀,by intro ⟨x1,x2,x3,x4⟩; cases x2 <;> kernel_rfl⟩
include MB hB in
theorem dn_0c0 (hD:Lim D U 70) (hN:N0≤N) (hl:rl.length≤900) (hi:vs[i]? = some (.str ⟨#[99]⟩ ty)) (hd:vs.drop i = .str ⟨#[99]⟩ ty :: vs.drop (i+1)) (hz:¬ nc - 1 = 0) (e1:rl++rdyV (vs.drop i) na nb nc = rr) (e2:na - (cntV sa (vs.drop i):Nat) = ma) (e3:nb - (cntV sb (vs.drop i):Nat) = mb) (e4:nc - (cntV sc (vs.drop i):Nat) = mc) (IH:A_2 N0 vs i rr ma mb mc rl w r g d os B D U I C L S M G IX g1 g2 g3 g4 g5 g6 q1 q2 q3 q4 q5 q6 nx sx R Ic dc Lc xc Ib db Lb xb Ia da La xa dS h1 h2 h3 h4 u1 u2 u3 u4 v1 v2 ha ta hb tb hc tc hd1 td Id e) :
  CutOk (XX w r g d os) B D U (dnCode w r I C) none [(I+355,iterO (L+355) (i)),(C+355,frO (ld6 S M G IX g1 g2 g3 g4 g5 g6 q1 q2 q3 q4 q5 q6 nx sx []) pe),(R+355,listO rl er),(Ic+355,infO dc Lc ⟨#[99]⟩ xc nc pc),(Ib+355,infO db Lb ⟨#[98]⟩ xb nb pb),(Ia+355,infO da La ⟨#[97]⟩ xa na pa)] (A_9 S dS M h1 h2 h3 h4 u1 u2 u3 u4 R v1 v2 ha ta Ia hb tb Ib hc tc Ic hd1 td Id L vs e da db dc) (N+355) (t) ({v:DnV // N0≤v.n}) (fun v=>.ok .next) (fun v=>[]) (fun v=>A_6 S M G IX g1 g2 g3 g4 g5 g6 q1 q2 q3 q4 q5 q6 nx sx rr dc Lc xc mc db Lb xb mb da La xa ma v.1) (fun v=>v.1.n+355) (fun v=>v.1.t) (fun v=>[]):=by
 refine .of_q MB hB hD.lo 63 0 ?_
 intro S₀
 let P₀:Rows→Pk (XX w r g d os) B D U S₀ []:=fun x₀=>(.a [1,1,1] [I+355,I+355] 1 0 0 0 [] [6] (next_some (hd:=none) (I:=I+355) (H:=L+355) (i:=i) (e:=e) (n:=N+355) (t:=t) (vs:=vs) (v:=.str ⟨#[99]⟩ ty) hi) fun _=>(.a (d6 9 0x616663333) (ix [M+355,C+355] 8 0x11110000) 0 0 0 0 [] [4] (dget_ok (hd:=none) (n:=N+355) (t:=t+1) (H:=M+355) (es:=(A_3 ha ta Ia hb tb Ib hc tc Ic hd1 td Id)) (ep:=4) (k:=⟨#[99]⟩) (tk:=ty) rfl rfl) fun _=>(.a (d6 96 0x170700100070010100000000710007370700100070010100000707107100071170700100070010100000000710007333) (ix [Ic+355,C+355] 21 0x111000000000000100000) 0 0 0 0 [] [] (ieq_f (hd:=none) (n:=N+355) (t:=t+9) (a:=nc - 1) (b:=0) (ta:=t+5) (tb:=t+8) hz) fun _=>(.o [] [] 63 0 0 0 [] (d6 7 0xca86420) (IH (rl1:=rl) (er1:=er) (na1:=na) (nb1:=nb) (nc1:=nc - 1) (pa1:=pa) (pb1:=pb) (pc1:=t+5) (g71:=kh w r ⟨#[115,117,99,99,101,115,115,111,114]⟩) (g81:=kh w r ⟨#[115,117,99,99,101,115,115,111,114,95,105,110,102,111]⟩) (q71:=t) (q81:=t+2) (yv1:=.str ⟨#[99]⟩ ty) (zv1:=.ref (Ic+355)) (pe1:=pe+2) (N1:=N) (t1:=t+9) (by omega) (by rw [hd] at e1; simp only [rdyV,sOf,show (⟨#[99]⟩:Str) = sc from rfl,show ¬ (sb = sa) from by decide,show ¬ (sc = sa) from by decide,show ¬ (sc = sb) from by decide,if_true,if_false,if_neg hz] at e1; exact e1) (by rw [hd,cntV_cons] at e2; simp only [sOf,show (⟨#[99]⟩:Str) = sc from rfl,ne_B,if_true,if_false] at e2; omega) (by rw [hd,cntV_cons] at e3; simp only [sOf,show (⟨#[99]⟩:Str) = sc from rfl,ne_B,if_true,if_false] at e3; omega) (by rw [hd,cntV_cons] at e4; simp only [sOf,show (⟨#[99]⟩:Str) = sc from rfl,ne_B,if_true,if_false] at e4; omega) (by omega)) fun v3=>(.e v3)))))
 exact ⟨P₀,by intro ⟨x1,x2,x3,x4⟩; cases x2 <;> kernel_rfl⟩
variable {g7 g8:Int} {q7 q8:Tok} {yv zv:Value}
include MB hB in
theorem dn_1a1 (hD:Lim D U 70) (hN:N0≤N) (hl:rl.length≤900) (hi:vs[i]? = some (.str ⟨#[97]⟩ ty)) (hd:vs.drop i = .str ⟨#[97]⟩ ty :: vs.drop (i+1)) (hz:na - 1 = 0) (e1:rl++rdyV (vs.drop i) na nb nc = rr) (e2:na - (cntV sa (vs.drop i):Nat) = ma) (e3:nb - (cntV sb (vs.drop i):Nat) = mb) (e4:nc - (cntV sc (vs.drop i):Nat) = mc) (IH:A_2 N0 vs i rr ma mb mc rl w r g d os B D U I C L S M G IX g1 g2 g3 g4 g5 g6 q1 q2 q3 q4 q5 q6 nx sx R Ic dc Lc xc Ib db Lb xb Ia da La xa dS h1 h2 h3 h4 u1 u2 u3 u4 v1 v2 ha ta hb tb hc tc hd1 td Id e) :
  CutOk (XX w r g d os) B D U (dnCode w r I C) none [(I+355,iterO (L+355) (i)),(C+355,frO (ld6 S M G IX g1 g2 g3 g4 g5 g6 q1 q2 q3 q4 q5 q6 nx sx (ld2 g7 g8 q7 q8 yv zv)) pe),(R+355,listO rl er),(Ic+355,infO dc Lc ⟨#[99]⟩ xc nc pc),(Ib+355,infO db Lb ⟨#[98]⟩ xb nb pb),(Ia+355,infO da La ⟨#[97]⟩ xa na pa)] (A_9 S dS M h1 h2 h3 h4 u1 u2 u3 u4 R v1 v2 ha ta Ia hb tb Ib hc tc Ic hd1 td Id L vs e da db dc) (N+355) (t) ({v:DnV // N0≤v.n}) (fun v=>.ok .next) (fun v=>[]) (fun v=>A_6 S M G IX g1 g2 g3 g4 g5 g6 q1 q2 q3 q4 q5 q6 nx sx rr dc Lc xc mc db Lb xb mb da La xa ma v.1) (fun v=>v.1.n+355) (fun v=>v.1.t) (fun v=>[]):=by
 refine .of_q MB hB hD.lo 63 0 ?_
 intro S₀
 let P₀:Rows→Pk (XX w r g d os) B D U S₀ []:=fun x₀=>(.a [1,1,1] [I+355,I+355] 1 0 0 0 [] [6] (next_some (hd:=none) (I:=I+355) (H:=L+355) (i:=i) (e:=e) (n:=N+355) (t:=t) (vs:=vs) (v:=.str ⟨#[97]⟩ ty) hi) fun _=>(.a (d6 9 0x616663333) (ix [M+355,C+355] 8 0x11110000) 0 0 0 0 [] [4] (dget_ok (hd:=none) (n:=N+355) (t:=t+1) (H:=M+355) (es:=(A_3 ha ta Ia hb tb Ib hc tc Ic hd1 td Id)) (ep:=4) (k:=⟨#[97]⟩) (tk:=ty) rfl rfl) fun _=>(.a (d6 96 0x1b0b001000b0010100000000b1000b3b0b001000b0010100000b0b10b1000b11b0b001000b0010100000000b1000b333) (ix [Ia+355,C+355] 21 0x111000000000000100000) 0 0 0 0 [] [] (ieq_t (hd:=none) (n:=N+355) (t:=t+9) (a:=na - 1) (b:=0) (ta:=t+5) (tb:=t+8) hz) fun _=>(.a (d6 21 0x513555540220002100023) (ix [R+355,C+355,dS+355,S+355] 12 0x133332000010) 4 0 0 0 [] [] (append_ok (hd:=none) (H:=R+355) (e:=er) (n:=N+355) (t:=t+10) (vs:=rl) (x:=.str ⟨#[97]⟩ ty) (by omega)) fun _=>(.o [] [] 63 0 0 0 [] (d6 7 0xca86420) (IH (rl1:=rl++[Value.str ⟨#[97]⟩ ty]) (er1:=er+1) (na1:=na - 1) (nb1:=nb) (nc1:=nc) (pa1:=t+5) (pb1:=pb) (pc1:=pc) (g71:=g7) (g81:=g8) (q71:=q7) (q81:=q8) (yv1:=.str ⟨#[97]⟩ ty) (zv1:=.ref (Ia+355)) (pe1:=pe) (N1:=N) (t1:=t+10) (by omega) (by rw [hd] at e1; simp only [rdyV,sOf,show (⟨#[97]⟩:Str) = sa from rfl,show ¬ (sb = sa) from by decide,show ¬ (sc = sa) from by decide,show ¬ (sc = sb) from by decide,if_true,if_false,if_pos hz] at e1; rw [List.append_assoc]; exact e1) (by rw [hd,cntV_cons] at e2; simp only [sOf,show (⟨#[97]⟩:Str) = sa from rfl,ne_B,if_true,if_false] at e2; omega) (by rw [hd,cntV_cons] at e3; simp only [sOf,show (⟨#[97]⟩:Str) = sa from rfl,ne_B,if_true,if_false] at e3; omega) (by rw [hd,cntV_cons] at e4; simp only [sOf,show (⟨#[97]⟩:Str) = sa from rfl,ne_B,if_true,if_false] at e4; omega) (by simp)) fun v4=>(.e v4))))))
 exact ⟨P₀,by intro ⟨x1,x2,x3,x4⟩; cases x2 <;> kernel_rfl⟩
include MB hB in
theorem dn_1a0 (hD:Lim D U 70) (hN:N0≤N) (hl:rl.length≤900) (hi:vs[i]? = some (.str ⟨#[97]⟩ ty)) (hd:vs.drop i = .str ⟨#[97]⟩ ty :: vs.drop (i+1)) (hz:¬ na - 1 = 0) (e1:rl++rdyV (vs.drop i) na nb nc = rr) (e2:na - (cntV sa (vs.drop i):Nat) = ma) (e3:nb - (cntV sb (vs.drop i):Nat) = mb) (e4:nc - (cntV sc (vs.drop i):Nat) = mc) (IH:A_2 N0 vs i rr ma mb mc rl w r g d os B D U I C L S M G IX g1 g2 g3 g4 g5 g6 q1 q2 q3 q4 q5 q6 nx sx R Ic dc Lc xc Ib db Lb xb Ia da La xa dS h1 h2 h3 h4 u1 u2 u3 u4 v1 v2 ha ta hb tb hc tc hd1 td Id e) :
  CutOk (XX w r g d os) B D U (dnCode w r I C) none [(I+355,iterO (L+355) (i)),(C+355,frO (ld6 S M G IX g1 g2 g3 g4 g5 g6 q1 q2 q3 q4 q5 q6 nx sx (ld2 g7 g8 q7 q8 yv zv)) pe),(R+355,listO rl er),(Ic+355,infO dc Lc ⟨#[99]⟩ xc nc pc),(Ib+355,infO db Lb ⟨#[98]⟩ xb nb pb),(Ia+355,infO da La ⟨#[97]⟩ xa na pa)] (A_9 S dS M h1 h2 h3 h4 u1 u2 u3 u4 R v1 v2 ha ta Ia hb tb Ib hc tc Ic hd1 td Id L vs e da db dc) (N+355) (t) ({v:DnV // N0≤v.n}) (fun v=>.ok .next) (fun v=>[]) (fun v=>A_6 S M G IX g1 g2 g3 g4 g5 g6 q1 q2 q3 q4 q5 q6 nx sx rr dc Lc xc mc db Lb xb mb da La xa ma v.1) (fun v=>v.1.n+355) (fun v=>v.1.t) (fun v=>[]):=by
 refine .of_q MB hB hD.lo 63 0 ?_
 intro S₀
 let P₀:Rows→Pk (XX w r g d os) B D U S₀ []:=fun x₀=>(.a [1,1,1] [I+355,I+355] 1 0 0 0 [] [6] (next_some (hd:=none) (I:=I+355) (H:=L+355) (i:=i) (e:=e) (n:=N+355) (t:=t) (vs:=vs) (v:=.str ⟨#[97]⟩ ty) hi) fun _=>(.a (d6 9 0x616663333) (ix [M+355,C+355] 8 0x11110000) 0 0 0 0 [] [4] (dget_ok (hd:=none) (n:=N+355) (t:=t+1) (H:=M+355) (es:=(A_3 ha ta Ia hb tb Ib hc tc Ic hd1 td Id)) (ep:=4) (k:=⟨#[97]⟩) (tk:=ty) rfl rfl) fun _=>(.a (d6 96 0x1b0b001000b0010100000000b1000b3b0b001000b0010100000b0b10b1000b11b0b001000b0010100000000b1000b333) (ix [Ia+355,C+355] 21 0x111000000000000100000) 0 0 0 0 [] [] (ieq_f (hd:=none) (n:=N+355) (t:=t+9) (a:=na - 1) (b:=0) (ta:=t+5) (tb:=t+8) hz) fun _=>(.o [] [] 63 0 0 0 [] (d6 7 0xca86420) (IH (rl1:=rl) (er1:=er) (na1:=na - 1) (nb1:=nb) (nc1:=nc) (pa1:=t+5) (pb1:=pb) (pc1:=pc) (g71:=g7) (g81:=g8) (q71:=q7) (q81:=q8) (yv1:=.str ⟨#[97]⟩ ty) (zv1:=.ref (Ia+355)) (pe1:=pe) (N1:=N) (t1:=t+9) (by omega) (by rw [hd] at e1; simp only [rdyV,sOf,show (⟨#[97]⟩:Str) = sa from rfl,show ¬ (sb = sa) from by decide,show ¬ (sc = sa) from by decide,show ¬ (sc = sb) from by decide,if_true,if_false,if_neg hz] at e1; exact e1) (by rw [hd,cntV_cons] at e2; simp only [sOf,show (⟨#[97]⟩:Str) = sa from rfl,ne_B,if_true,if_false] at e2; omega) (by rw [hd,cntV_cons] at e3; simp only [sOf,show (⟨#[97]⟩:Str) = sa from rfl,ne_B,if_true,if_false] at e3; omega) (by rw [hd,cntV_cons] at e4; simp only [sOf,show (⟨#[97]⟩:Str) = sa from rfl,ne_B,if_true,if_false] at e4; omega) (by omega)) fun v3=>(.e v3)))))
 exact ⟨P₀,by intro ⟨x1,x2,x3,x4⟩; cases x2 <;> kernel_rfl⟩
include MB hB in
theorem dn_1b1 (hD:Lim D U 70) (hN:N0≤N) (hl:rl.length≤900) (hi:vs[i]? = some (.str ⟨#[98]⟩ ty)) (hd:vs.drop i = .str ⟨#[98]⟩ ty :: vs.drop (i+1)) (hz:nb - 1 = 0) (e1:rl++rdyV (vs.drop i) na nb nc = rr) (e2:na - (cntV sa (vs.drop i):Nat) = ma) (e3:nb - (cntV sb (vs.drop i):Nat) = mb) (e4:nc - (cntV sc (vs.drop i):Nat) = mc) (IH:A_2 N0 vs i rr ma mb mc rl w r g d os B D U I C L S M G IX g1 g2 g3 g4 g5 g6 q1 q2 q3 q4 q5 q6 nx sx R Ic dc Lc xc Ib db Lb xb Ia da La xa dS h1 h2 h3 h4 u1 u2 u3 u4 v1 v2 ha ta hb tb hc tc hd1 td Id e) :
  CutOk (XX w r g d os) B D U (dnCode w r I C) none [(I+355,iterO (L+355) (i)),(C+355,frO (ld6 S M G IX g1 g2 g3 g4 g5 g6 q1 q2 q3 q4 q5 q6 nx sx (ld2 g7 g8 q7 q8 yv zv)) pe),(R+355,listO rl er),(Ic+355,infO dc Lc ⟨#[99]⟩ xc nc pc),(Ib+355,infO db Lb ⟨#[98]⟩ xb nb pb),(Ia+355,infO da La ⟨#[97]⟩ xa na pa)] (A_9 S dS M h1 h2 h3 h4 u1 u2 u3 u4 R v1 v2 ha ta Ia hb tb Ib hc tc Ic hd1 td Id L vs e da db dc) (N+355) (t) ({v:DnV // N0≤v.n}) (fun v=>.ok .next) (fun v=>[]) (fun v=>A_6 S M G IX g1 g2 g3 g4 g5 g6 q1 q2 q3 q4 q5 q6 nx sx rr dc Lc xc mc db Lb xb mb da La xa ma v.1) (fun v=>v.1.n+355) (fun v=>v.1.t) (fun v=>[]):=by
 refine .of_q MB hB hD.lo 63 0 ?_
 intro S₀
 let P₀:Rows→Pk (XX w r g d os) B D U S₀ []:=fun x₀=>(.a [1,1,1] [I+355,I+355] 1 0 0 0 [] [6] (next_some (hd:=none) (I:=I+355) (H:=L+355) (i:=i) (e:=e) (n:=N+355) (t:=t) (vs:=vs) (v:=.str ⟨#[98]⟩ ty) hi) fun _=>(.a (d6 9 0x616663333) (ix [M+355,C+355] 8 0x11110000) 0 0 0 0 [] [4] (dget_ok (hd:=none) (n:=N+355) (t:=t+1) (H:=M+355) (es:=(A_3 ha ta Ia hb tb Ib hc tc Ic hd1 td Id)) (ep:=4) (k:=⟨#[98]⟩) (tk:=ty) rfl rfl) fun _=>(.a (d6 96 0x190900100090010100000000910009390900100090010100000909109100091190900100090010100000000910009333) (ix [Ib+355,C+355] 21 0x111000000000000100000) 0 0 0 0 [] [] (ieq_t (hd:=none) (n:=N+355) (t:=t+9) (a:=nb - 1) (b:=0) (ta:=t+5) (tb:=t+8) hz) fun _=>(.a (d6 21 0x513555540220002100023) (ix [R+355,C+355,dS+355,S+355] 12 0x133332000010) 4 0 0 0 [] [] (append_ok (hd:=none) (H:=R+355) (e:=er) (n:=N+355) (t:=t+10) (vs:=rl) (x:=.str ⟨#[98]⟩ ty) (by omega)) fun _=>(.o [] [] 63 0 0 0 [] (d6 7 0xca86420) (IH (rl1:=rl++[Value.str ⟨#[98]⟩ ty]) (er1:=er+1) (na1:=na) (nb1:=nb - 1) (nc1:=nc) (pa1:=pa) (pb1:=t+5) (pc1:=pc) (g71:=g7) (g81:=g8) (q71:=q7) (q81:=q8) (yv1:=.str ⟨#[98]⟩ ty) (zv1:=.ref (Ib+355)) (pe1:=pe) (N1:=N) (t1:=t+10) (by omega) (by rw [hd] at e1; simp only [rdyV,sOf,show (⟨#[98]⟩:Str) = sb from rfl,show ¬ (sb = sa) from by decide,show ¬ (sc = sa) from by decide,show ¬ (sc = sb) from by decide,if_true,if_false,if_pos hz] at e1; rw [List.append_assoc]; exact e1) (by rw [hd,cntV_cons] at e2; simp only [sOf,show (⟨#[98]⟩:Str) = sb from rfl,ne_B,if_true,if_false] at e2; omega) (by rw [hd,cntV_cons] at e3; simp only [sOf,show (⟨#[98]⟩:Str) = sb from rfl,ne_B,if_true,if_false] at e3; omega) (by rw [hd,cntV_cons] at e4; simp only [sOf,show (⟨#[98]⟩:Str) = sb from rfl,ne_B,if_true,if_false] at e4; omega) (by simp)) fun v4=>(.e v4))))))
 exact ⟨P₀,by intro ⟨x1,x2,x3,x4⟩; cases x2 <;> kernel_rfl⟩
include MB hB in
theorem dn_1b0 (hD:Lim D U 70) (hN:N0≤N) (hl:rl.length≤900) (hi:vs[i]? = some (.str ⟨#[98]⟩ ty)) (hd:vs.drop i = .str ⟨#[98]⟩ ty :: vs.drop (i+1)) (hz:¬ nb - 1 = 0) (e1:rl++rdyV (vs.drop i) na nb nc = rr) (e2:na - (cntV sa (vs.drop i):Nat) = ma) (e3:nb - (cntV sb (vs.drop i):Nat) = mb) (e4:nc - (cntV sc (vs.drop i):Nat) = mc) (IH:A_2 N0 vs i rr ma mb mc rl w r g d os B D U I C L S M G IX g1 g2 g3 g4 g5 g6 q1 q2 q3 q4 q5 q6 nx sx R Ic dc Lc xc Ib db Lb xb Ia da La xa dS h1 h2 h3 h4 u1 u2 u3 u4 v1 v2 ha ta hb tb hc tc hd1 td Id e) :
  CutOk (XX w r g d os) B D U (dnCode w r I C) none [(I+355,iterO (L+355) (i)),(C+355,frO (ld6 S M G IX g1 g2 g3 g4 g5 g6 q1 q2 q3 q4 q5 q6 nx sx (ld2 g7 g8 q7 q8 yv zv)) pe),(R+355,listO rl er),(Ic+355,infO dc Lc ⟨#[99]⟩ xc nc pc),(Ib+355,infO db Lb ⟨#[98]⟩ xb nb pb),(Ia+355,infO da La ⟨#[97]⟩ xa na pa)] (A_9 S dS M h1 h2 h3 h4 u1 u2 u3 u4 R v1 v2 ha ta Ia hb tb Ib hc tc Ic hd1 td Id L vs e da db dc) (N+355) (t) ({v:DnV // N0≤v.n}) (fun v=>.ok .next) (fun v=>[]) (fun v=>A_6 S M G IX g1 g2 g3 g4 g5 g6 q1 q2 q3 q4 q5 q6 nx sx rr dc Lc xc mc db Lb xb mb da La xa ma v.1) (fun v=>v.1.n+355) (fun v=>v.1.t) (fun v=>[]):=by
 refine .of_q MB hB hD.lo 63 0 ?_
 intro S₀
 let P₀:Rows→Pk (XX w r g d os) B D U S₀ []:=fun x₀=>(.a [1,1,1] [I+355,I+355] 1 0 0 0 [] [6] (next_some (hd:=none) (I:=I+355) (H:=L+355) (i:=i) (e:=e) (n:=N+355) (t:=t) (vs:=vs) (v:=.str ⟨#[98]⟩ ty) hi) fun _=>(.a (d6 9 0x616663333) (ix [M+355,C+355] 8 0x11110000) 0 0 0 0 [] [4] (dget_ok (hd:=none) (n:=N+355) (t:=t+1) (H:=M+355) (es:=(A_3 ha ta Ia hb tb Ib hc tc Ic hd1 td Id)) (ep:=4) (k:=⟨#[98]⟩) (tk:=ty) rfl rfl) fun _=>(.a (d6 96 0x190900100090010100000000910009390900100090010100000909109100091190900100090010100000000910009333) (ix [Ib+355,C+355] 21 0x111000000000000100000) 0 0 0 0 [] [] (ieq_f (hd:=none) (n:=N+355) (t:=t+9) (a:=nb - 1) (b:=0) (ta:=t+5) (tb:=t+8) hz) fun _=>(.o [] [] 63 0 0 0 [] (d6 7 0xca86420) (IH (rl1:=rl) (er1:=er) (na1:=na) (nb1:=nb - 1) (nc1:=nc) (pa1:=pa) (pb1:=t+5) (pc1:=pc) (g71:=g7) (g81:=g8) (q71:=q7) (q81:=q8) (yv1:=.str ⟨#[98]⟩ ty) (zv1:=.ref (Ib+355)) (pe1:=pe) (N1:=N) (t1:=t+9) (by omega) (by rw [hd] at e1; simp only [rdyV,sOf,show (⟨#[98]⟩:Str) = sb from rfl,show ¬ (sb = sa) from by decide,show ¬ (sc = sa) from by decide,show ¬ (sc = sb) from by decide,if_true,if_false,if_neg hz] at e1; exact e1) (by rw [hd,cntV_cons] at e2; simp only [sOf,show (⟨#[98]⟩:Str) = sb from rfl,ne_B,if_true,if_false] at e2; omega) (by rw [hd,cntV_cons] at e3; simp only [sOf,show (⟨#[98]⟩:Str) = sb from rfl,ne_B,if_true,if_false] at e3; omega) (by rw [hd,cntV_cons] at e4; simp only [sOf,show (⟨#[98]⟩:Str) = sb from rfl,ne_B,if_true,if_false] at e4; omega) (by omega)) fun v3=>(.e v3)))))
 exact ⟨P₀,by intro ⟨x1,x2,x3,x4⟩; cases x2 <;> kernel_rfl⟩
include MB hB in
theorem dn_1c1 (hD:Lim D U 70) (hN:N0≤N) (hl:rl.length≤900) (hi:vs[i]? = some (.str ⟨#[99]⟩ ty)) (hd:vs.drop i = .str ⟨#[99]⟩ ty :: vs.drop (i+1)) (hz:nc - 1 = 0) (e1:rl++rdyV (vs.drop i) na nb nc = rr) (e2:na - (cntV sa (vs.drop i):Nat) = ma) (e3:nb - (cntV sb (vs.drop i):Nat) = mb) (e4:nc - (cntV sc (vs.drop i):Nat) = mc) (IH:A_2 N0 vs i rr ma mb mc rl w r g d os B D U I C L S M G IX g1 g2 g3 g4 g5 g6 q1 q2 q3 q4 q5 q6 nx sx R Ic dc Lc xc Ib db Lb xb Ia da La xa dS h1 h2 h3 h4 u1 u2 u3 u4 v1 v2 ha ta hb tb hc tc hd1 td Id e) :
  CutOk (XX w r g d os) B D U (dnCode w r I C) none [(I+355,iterO (L+355) (i)),(C+355,frO (ld6 S M G IX g1 g2 g3 g4 g5 g6 q1 q2 q3 q4 q5 q6 nx sx (ld2 g7 g8 q7 q8 yv zv)) pe),(R+355,listO rl er),(Ic+355,infO dc Lc ⟨#[99]⟩ xc nc pc),(Ib+355,infO db Lb ⟨#[98]⟩ xb nb pb),(Ia+355,infO da La ⟨#[97]⟩ xa na pa)] (A_9 S dS M h1 h2 h3 h4 u1 u2 u3 u4 R v1 v2 ha ta Ia hb tb Ib hc tc Ic hd1 td Id L vs e da db dc) (N+355) (t) ({v:DnV // N0≤v.n}) (fun v=>.ok .next) (fun v=>[]) (fun v=>A_6 S M G IX g1 g2 g3 g4 g5 g6 q1 q2 q3 q4 q5 q6 nx sx rr dc Lc xc mc db Lb xb mb da La xa ma v.1) (fun v=>v.1.n+355) (fun v=>v.1.t) (fun v=>[]):=by
 refine .of_q MB hB hD.lo 63 0 ?_
 intro S₀
 let P₀:Rows→Pk (XX w r g d os) B D U S₀ []:=fun x₀=>(.a [1,1,1] [I+355,I+355] 1 0 0 0 [] [6] (next_some (hd:=none) (I:=I+355) (H:=L+355) (i:=i) (e:=e) (n:=N+355) (t:=t) (vs:=vs) (v:=.str ⟨#[99]⟩ ty) hi) fun _=>(.a (d6 9 0x616663333) (ix [M+355,C+355] 8 0x11110000) 0 0 0 0 [] [4] (dget_ok (hd:=none) (n:=N+355) (t:=t+1) (H:=M+355) (es:=(A_3 ha ta Ia hb tb Ib hc tc Ic hd1 td Id)) (ep:=4) (k:=⟨#[99]⟩) (tk:=ty) rfl rfl) fun _=>(.a (d6 96 0x170700100070010100000000710007370700100070010100000707107100071170700100070010100000000710007333) (ix [Ic+355,C+355] 21 0x111000000000000100000) 0 0 0 0 [] [] (ieq_t (hd:=none) (n:=N+355) (t:=t+9) (a:=nc - 1) (b:=0) (ta:=t+5) (tb:=t+8) hz) fun _=>(.a (d6 21 0x513555540220002100023) (ix [R+355,C+355,dS+355,S+355] 12 0x133332000010) 4 0 0 0 [] [] (append_ok (hd:=none) (H:=R+355) (e:=er) (n:=N+355) (t:=t+10) (vs:=rl) (x:=.str ⟨#[99]⟩ ty) (by omega)) fun _=>(.o [] [] 63 0 0 0 [] (d6 7 0xca86420) (IH (rl1:=rl++[Value.str ⟨#[99]⟩ ty]) (er1:=er+1) (na1:=na) (nb1:=nb) (nc1:=nc - 1) (pa1:=pa) (pb1:=pb) (pc1:=t+5) (g71:=g7) (g81:=g8) (q71:=q7) (q81:=q8) (yv1:=.str ⟨#[99]⟩ ty) (zv1:=.ref (Ic+355)) (pe1:=pe) (N1:=N) (t1:=t+10) (by omega) (by rw [hd] at e1; simp only [rdyV,sOf,show (⟨#[99]⟩:Str) = sc from rfl,show ¬ (sb = sa) from by decide,show ¬ (sc = sa) from by decide,show ¬ (sc = sb) from by decide,if_true,if_false,if_pos hz] at e1; rw [List.append_assoc]; exact e1) (by rw [hd,cntV_cons] at e2; simp only [sOf,show (⟨#[99]⟩:Str) = sc from rfl,ne_B,if_true,if_false] at e2; omega) (by rw [hd,cntV_cons] at e3; simp only [sOf,show (⟨#[99]⟩:Str) = sc from rfl,ne_B,if_true,if_false] at e3; omega) (by rw [hd,cntV_cons] at e4; simp only [sOf,show (⟨#[99]⟩:Str) = sc from rfl,ne_B,if_true,if_false] at e4; omega) (by simp)) fun v4=>(.e v4))))))
 exact ⟨P₀,by intro ⟨x1,x2,x3,x4⟩; cases x2 <;> kernel_rfl⟩
include MB hB in
theorem dn_1c0 (hD:Lim D U 70) (hN:N0≤N) (hl:rl.length≤900) (hi:vs[i]? = some (.str ⟨#[99]⟩ ty)) (hd:vs.drop i = .str ⟨#[99]⟩ ty :: vs.drop (i+1)) (hz:¬ nc - 1 = 0) (e1:rl++rdyV (vs.drop i) na nb nc = rr) (e2:na - (cntV sa (vs.drop i):Nat) = ma) (e3:nb - (cntV sb (vs.drop i):Nat) = mb) (e4:nc - (cntV sc (vs.drop i):Nat) = mc) (IH:A_2 N0 vs i rr ma mb mc rl w r g d os B D U I C L S M G IX g1 g2 g3 g4 g5 g6 q1 q2 q3 q4 q5 q6 nx sx R Ic dc Lc xc Ib db Lb xb Ia da La xa dS h1 h2 h3 h4 u1 u2 u3 u4 v1 v2 ha ta hb tb hc tc hd1 td Id e) :
  CutOk (XX w r g d os) B D U (dnCode w r I C) none [(I+355,iterO (L+355) (i)),(C+355,frO (ld6 S M G IX g1 g2 g3 g4 g5 g6 q1 q2 q3 q4 q5 q6 nx sx (ld2 g7 g8 q7 q8 yv zv)) pe),(R+355,listO rl er),(Ic+355,infO dc Lc ⟨#[99]⟩ xc nc pc),(Ib+355,infO db Lb ⟨#[98]⟩ xb nb pb),(Ia+355,infO da La ⟨#[97]⟩ xa na pa)] (A_9 S dS M h1 h2 h3 h4 u1 u2 u3 u4 R v1 v2 ha ta Ia hb tb Ib hc tc Ic hd1 td Id L vs e da db dc) (N+355) (t) ({v:DnV // N0≤v.n}) (fun v=>.ok .next) (fun v=>[]) (fun v=>A_6 S M G IX g1 g2 g3 g4 g5 g6 q1 q2 q3 q4 q5 q6 nx sx rr dc Lc xc mc db Lb xb mb da La xa ma v.1) (fun v=>v.1.n+355) (fun v=>v.1.t) (fun v=>[]):=by
 refine .of_q MB hB hD.lo 63 0 ?_
 intro S₀
 let P₀:Rows→Pk (XX w r g d os) B D U S₀ []:=fun x₀=>(.a [1,1,1] [I+355,I+355] 1 0 0 0 [] [6] (next_some (hd:=none) (I:=I+355) (H:=L+355) (i:=i) (e:=e) (n:=N+355) (t:=t) (vs:=vs) (v:=.str ⟨#[99]⟩ ty) hi) fun _=>(.a (d6 9 0x616663333) (ix [M+355,C+355] 8 0x11110000) 0 0 0 0 [] [4] (dget_ok (hd:=none) (n:=N+355) (t:=t+1) (H:=M+355) (es:=(A_3 ha ta Ia hb tb Ib hc tc Ic hd1 td Id)) (ep:=4) (k:=⟨#[99]⟩) (tk:=ty) rfl rfl) fun _=>(.a (d6 96 0x170700100070010100000000710007370700100070010100000707107100071170700100070010100000000710007333) (ix [Ic+355,C+355] 21 0x111000000000000100000) 0 0 0 0 [] [] (ieq_f (hd:=none) (n:=N+355) (t:=t+9) (a:=nc - 1) (b:=0) (ta:=t+5) (tb:=t+8) hz) fun _=>(.o [] [] 63 0 0 0 [] (d6 7 0xca86420) (IH (rl1:=rl) (er1:=er) (na1:=na) (nb1:=nb) (nc1:=nc - 1) (pa1:=pa) (pb1:=pb) (pc1:=t+5) (g71:=g7) (g81:=g8) (q71:=q7) (q81:=q8) (yv1:=.str ⟨#[99]⟩ ty) (zv1:=.ref (Ic+355)) (pe1:=pe) (N1:=N) (t1:=t+9) (by omega) (by rw [hd] at e1; simp only [rdyV,sOf,show (⟨#[99]⟩:Str) = sc from rfl,show ¬ (sb = sa) from by decide,show ¬ (sc = sa) from by decide,show ¬ (sc = sb) from by decide,if_true,if_false,if_neg hz] at e1; exact e1) (by rw [hd,cntV_cons] at e2; simp only [sOf,show (⟨#[99]⟩:Str) = sc from rfl,ne_B,if_true,if_false] at e2; omega) (by rw [hd,cntV_cons] at e3; simp only [sOf,show (⟨#[99]⟩:Str) = sc from rfl,ne_B,if_true,if_false] at e3; omega) (by rw [hd,cntV_cons] at e4; simp only [sOf,show (⟨#[99]⟩:Str) = sc from rfl,ne_B,if_true,if_false] at e4; omega) (by omega)) fun v3=>(.h (r':=(.ok .next)) (l':=[((I+355),iterE v3.1.i),((C+355),frO [dE g1 ⟨#[115,101,108,102]⟩ q1 (.ref (S+355)),dE g2 ⟨#[110,111,100,101,115]⟩ q2 (.ref (G+355)),dE g3 ⟨#[110,50,105]⟩ q3 (.ref (M+355)),dE g4 ⟨#[110,111,100,101]⟩ q4 nx,dE g5 ⟨#[110,111,100,101,105,110,102,111]⟩ q5 (.ref (IX+355)),dE g6 ⟨#[115,116,97,116]⟩ q6 sx,dE v3.1.fh ⟨#[115,117,99,99,101,115,115,111,114]⟩ v3.1.fu v3.1.fx,dE v3.1.fg ⟨#[115,117,99,99,101,115,115,111,114,95,105,110,102,111]⟩ v3.1.fv v3.1.fy] v3.1.fe),((R+355),listO rr v3.1.eR),((Ic+355),⟨(.ref 214),some (dc+355),.plain,⟨[some (.str ⟨#[99]⟩ xc),some (.int mc v3.1.pc),some (.ref (Lc+355))]⟩⟩),((Ib+355),⟨(.ref 214),some (db+355),.plain,⟨[some (.str ⟨#[98]⟩ xb),some (.int mb v3.1.pb),some (.ref (Lb+355))]⟩⟩),((Ia+355),⟨(.ref 214),some (da+355),.plain,⟨[some (.str ⟨#[97]⟩ xa),some (.int ma v3.1.pa),some (.ref (La+355))]⟩⟩)]) (m':=(v3.1.n+355)) (k':=v3.1.t) (z':=[]) ⟨v3,rfl,rfl,rfl,rfl,rfl⟩)))))
 exact ⟨P₀,by intro ⟨x1,x2,x3,x4⟩; cases x2 <;> kernel_rfl⟩
include MB hB in
theorem dn_end (hD:Lim D U 70) (hN:N0≤N) (hi:vs[i]? = none) (hz:vs.drop i = []) (e1:rl++rdyV (vs.drop i) na nb nc = rr) (e2:na - (cntV sa (vs.drop i):Nat) = ma) (e3:nb - (cntV sb (vs.drop i):Nat) = mb) (e4:nc - (cntV sc (vs.drop i):Nat) = mc) :
  CutOk (XX w r g d os) B D U (dnCode w r I C) none [(I+355,iterO (L+355) (i)),(C+355,frO (ld6 S M G IX g1 g2 g3 g4 g5 g6 q1 q2 q3 q4 q5 q6 nx sx (ld2 g7 g8 q7 q8 yv zv)) pe),(R+355,listO rl er),(Ic+355,infO dc Lc ⟨#[99]⟩ xc nc pc),(Ib+355,infO db Lb ⟨#[98]⟩ xb nb pb),(Ia+355,infO da La ⟨#[97]⟩ xa na pa)] [(L+355,listO vs e)] (N+355) (t) ({v:DnV // N0≤v.n}) (fun v=>.ok .next) (fun v=>[]) (fun v=>A_6 S M G IX g1 g2 g3 g4 g5 g6 q1 q2 q3 q4 q5 q6 nx sx rr dc Lc xc mc db Lb xb mb da La xa ma v.1) (fun v=>v.1.n+355) (fun v=>v.1.t) (fun v=>[]):=by
 refine .of_q MB hB hD.lo 252 0 ?_
 intro S₀
 let P₀:Rows→Pk (XX w r g d os) B D U S₀ []:=fun x₀=>(.a [1,1,1] [I+355,I+355] 1 0 0 0 [] [0] (next_none (I:=I+355) (H:=L+355) (i:=i) (e:=e) (n:=N+355) (t:=t) (vs:=vs) hi) fun _=>(.k [1,1] [N+356] (r':=(.ok .next)) (l':=[((I+355),iterE i),((C+355),frO [dE g1 ⟨#[115,101,108,102]⟩ q1 (.ref (S+355)),dE g2 ⟨#[110,111,100,101,115]⟩ q2 (.ref (G+355)),dE g3 ⟨#[110,50,105]⟩ q3 (.ref (M+355)),dE g4 ⟨#[110,111,100,101]⟩ q4 nx,dE g5 ⟨#[110,111,100,101,105,110,102,111]⟩ q5 (.ref (IX+355)),dE g6 ⟨#[115,116,97,116]⟩ q6 sx,dE g7 ⟨#[115,117,99,99,101,115,115,111,114]⟩ q7 yv,dE g8 ⟨#[115,117,99,99,101,115,115,111,114,95,105,110,102,111]⟩ q8 zv] pe),((R+355),listO rl er),((Ic+355),⟨(.ref 214),some (dc+355),.plain,⟨[some (.str ⟨#[99]⟩ xc),some (.int nc pc),some (.ref (Lc+355))]⟩⟩),((Ib+355),⟨(.ref 214),some (db+355),.plain,⟨[some (.str ⟨#[98]⟩ xb),some (.int nb pb),some (.ref (Lb+355))]⟩⟩),((Ia+355),⟨(.ref 214),some (da+355),.plain,⟨[some (.str ⟨#[97]⟩ xa),some (.int na pa),some (.ref (La+355))]⟩⟩)]) (m':=(N+357)) (k':=t) (z':=[]) ⟨⟨⟨er,pa,pb,pc,g7,g8,q7,q8,yv,zv,pe,i,N+2,t⟩,by show N0≤N+2; omega⟩,rfl,(by try dsimp only [S₀]; rw [hz] at e1 e2 e3 e4; simp [S₀,rdyV,cntV] at e1 e2 e3 e4; simp [S₀,setO,e1,e2,e3,e4]),rfl,rfl,rfl⟩))
 exact ⟨P₀,by intro x; kernel_rfl⟩
end
section
section
variable {w:World} {r:Rows} {g:Array GenState} {d:Drawn} {os:OsState} {B:Heap→Prop} {D U:Nat}
theorem dn_loop1 (MB:Mono B) (hB:∀ h,B h→(KF (pr w r)).In h) (hD:Lim D U 70) {S dS M G IX L R Ia Ib Ic Id La Lb Lc da db dc I C e N0:Nat} {h1 h2 h3 h4 ha hb hc hd1 g1 g2 g3 g4 g5 g6:Int} {u1 u2 u3 u4 q1 q2 q3 q4 q5 q6 ta tb tc td xa xb xc:Tok} {ma mb mc:Int} {rr vs:List Value} {v1 v2 nx sx:Value} (hall:∀ v∈vs,∃ k t,v = .str k t∧(k = sa∨k = sb∨k = sc)) :
  ∀ (m i:Nat),vs.length = i + m→∀ (rl:List Value) (er:Nat) (na nb nc:Int) (pa pb pc:Tok) (g7 g8:Int) (q7 q8:Tok) (yv zv:Value) (pe N t:Nat),N0≤N→rl++rdyV (vs.drop (i)) na nb nc = rr→na - (cntV sa (vs.drop (i)):Nat) = ma→nb - (cntV sb (vs.drop (i)):Nat) = mb→nc - (cntV sc (vs.drop (i)):Nat) = mc→rl.length + m≤900 →
  CutOk (XX w r g d os) B D U (dnCode w r I C) none [(I+355,iterO (L+355) (i)),(C+355,frO (ld6 S M G IX g1 g2 g3 g4 g5 g6 q1 q2 q3 q4 q5 q6 nx sx (ld2 g7 g8 q7 q8 yv zv)) pe),(R+355,listO rl er),(Ic+355,infO dc Lc ⟨#[99]⟩ xc nc pc),(Ib+355,infO db Lb ⟨#[98]⟩ xb nb pb),(Ia+355,infO da La ⟨#[97]⟩ xa na pa)] (A_9 S dS M h1 h2 h3 h4 u1 u2 u3 u4 R v1 v2 ha ta Ia hb tb Ib hc tc Ic hd1 td Id L vs e da db dc) (N+355) (t) ({v:DnV // N0≤v.n}) (fun _=>.ok .next) (fun _=>[]) (fun v=>A_6 S M G IX g1 g2 g3 g4 g5 g6 q1 q2 q3 q4 q5 q6 nx sx rr dc Lc xc mc db Lb xb mb da La xa ma v.1) (fun v=>v.1.n+355) (fun v=>v.1.t) (fun _=>[]):=by
 intro m
 induction m with
 | zero =>
  intro i hi rl er na nb nc pa pb pc g7 g8 q7 q8 yv zv pe N t hN e1 e2 e3 e4 e5
  exact CutOk.wk (fun h b i=>⟨b,.cons (i.nth 3 rfl) .nil⟩) (dn_end MB hB hD hN (by simp; omega) (List.drop_of_length_le (by omega)) e1 e2 e3 e4)
 | succ m ih =>
  intro i hi rl er na nb nc pa pb pc g7 g8 q7 q8 yv zv pe N t hN e1 e2 e3 e4 e5
  have hlt:i < vs.length:=by omega
  have hv:vs[i]? = some vs[i]:=List.getElem?_eq_getElem hlt
  have hd:vs.drop i = vs[i] :: vs.drop (i+1):=List.drop_eq_getElem_cons hlt
  obtain ⟨k,ty,hk,hkk⟩:=hall vs[i] (List.getElem_mem hlt)
  rw [hk] at hv hd
  have IH:=fun (rl1:List Value) (er1:Nat) (na1 nb1 nc1:Int) (pa1 pb1 pc1:Tok) (g71 g81:Int) (q71 q81:Tok) (yv1 zv1:Value) (pe1 N1 t1:Nat) (a1:N0≤N1) (a2:rl1++rdyV (vs.drop (i+1)) na1 nb1 nc1 = rr) (a3:na1 - (cntV sa (vs.drop (i+1)):Nat) = ma) (a4:nb1 - (cntV sb (vs.drop (i+1)):Nat) = mb) (a5:nc1 - (cntV sc (vs.drop (i+1)):Nat) = mc) (a6:rl1.length≤rl.length+1) => ih (i+1) (by omega) rl1 er1 na1 nb1 nc1 pa1 pb1 pc1 g71 g81 q71 q81 yv1 zv1 pe1 N1 t1 a1 a2 a3 a4 a5 (by omega)
  rcases hkk with rfl | rfl | rfl
  ·by_cases hz:na - 1 = 0
   ·exact dn_1a1 MB hB hD hN (by omega) hv hd hz e1 e2 e3 e4 IH
   ·exact dn_1a0 MB hB hD hN (by omega) hv hd hz e1 e2 e3 e4 IH
  ·by_cases hz:nb - 1 = 0
   ·exact dn_1b1 MB hB hD hN (by omega) hv hd hz e1 e2 e3 e4 IH
   ·exact dn_1b0 MB hB hD hN (by omega) hv hd hz e1 e2 e3 e4 IH
  ·by_cases hz:nc - 1 = 0
   ·exact dn_1c1 MB hB hD hN (by omega) hv hd hz e1 e2 e3 e4 IH
   ·exact dn_1c0 MB hB hD hN (by omega) hv hd hz e1 e2 e3 e4 IH
theorem dn_loop0 (MB:Mono B) (hB:∀ h,B h→(KF (pr w r)).In h) (hD:Lim D U 70) {S dS M G IX L R Ia Ib Ic Id La Lb Lc da db dc I C e N0:Nat} {h1 h2 h3 h4 ha hb hc hd1 g1 g2 g3 g4 g5 g6:Int} {u1 u2 u3 u4 q1 q2 q3 q4 q5 q6 ta tb tc td xa xb xc:Tok} {ma mb mc:Int} {rr vs:List Value} {v1 v2 nx sx:Value} (hall:∀ v∈vs,∃ k t,v = .str k t∧(k = sa∨k = sb∨k = sc)) (h0:0 < vs.length∧vs.length≤800) {rl:List Value} {er:Nat} {na nb nc:Int} {pa pb pc:Tok} {pe N t:Nat} (hN:N0≤N)
  (e1:rl++rdyV vs na nb nc = rr) (e2:na - (cntV sa vs:Nat) = ma) (e3:nb - (cntV sb vs:Nat) = mb) (e4:nc - (cntV sc vs:Nat) = mc) (e5:rl.length≤1) :
  CutOk (XX w r g d os) B D U (dnCode w r I C) none [(I+355,iterO (L+355) (0)),(C+355,frO (ld6 S M G IX g1 g2 g3 g4 g5 g6 q1 q2 q3 q4 q5 q6 nx sx []) pe),(R+355,listO rl er),(Ic+355,infO dc Lc ⟨#[99]⟩ xc nc pc),(Ib+355,infO db Lb ⟨#[98]⟩ xb nb pb),(Ia+355,infO da La ⟨#[97]⟩ xa na pa)] (A_9 S dS M h1 h2 h3 h4 u1 u2 u3 u4 R v1 v2 ha ta Ia hb tb Ib hc tc Ic hd1 td Id L vs e da db dc) (N+355) (t) ({v:DnV // N0≤v.n}) (fun _=>.ok .next) (fun _=>[]) (fun v=>A_6 S M G IX g1 g2 g3 g4 g5 g6 q1 q2 q3 q4 q5 q6 nx sx rr dc Lc xc mc db Lb xb mb da La xa ma v.1) (fun v=>v.1.n+355) (fun v=>v.1.t) (fun _=>[]):=by
  have hlt:0 < vs.length:=h0.1
  have hv:vs[0]? = some vs[0]:=List.getElem?_eq_getElem hlt
  have hd:vs.drop 0 = vs[0] :: vs.drop (0+1):=List.drop_eq_getElem_cons hlt
  obtain ⟨k,ty,hk,hkk⟩:=hall vs[0] (List.getElem_mem hlt)
  rw [hk] at hv hd
  have IH:=fun (rl1:List Value) (er1:Nat) (na1 nb1 nc1:Int) (pa1 pb1 pc1:Tok) (g71 g81:Int) (q71 q81:Tok) (yv1 zv1:Value) (pe1 N1 t1:Nat) (a1:N0≤N1) (a2:rl1++rdyV (vs.drop (0+1)) na1 nb1 nc1 = rr) (a3:na1 - (cntV sa (vs.drop (0+1)):Nat) = ma) (a4:nb1 - (cntV sb (vs.drop (0+1)):Nat) = mb) (a5:nc1 - (cntV sc (vs.drop (0+1)):Nat) = mc) (a6:rl1.length≤rl.length+1) => dn_loop1 (g:=g) (d:=d) (os:=os) MB hB hD (S:=S) (dS:=dS) (M:=M) (G:=G) (IX:=IX) (L:=L) (R:=R) (Ia:=Ia) (Ib:=Ib) (Ic:=Ic) (Id:=Id) (La:=La) (Lb:=Lb) (Lc:=Lc) (da:=da) (db:=db) (dc:=dc) (I:=I) (C:=C) (e:=e) (N0:=N0) (h1:=h1) (h2:=h2) (h3:=h3) (h4:=h4) (ha:=ha) (hb:=hb) (hc:=hc) (hd1:=hd1) (g1:=g1) (g2:=g2) (g3:=g3) (g4:=g4) (g5:=g5) (g6:=g6) (u1:=u1) (u2:=u2) (u3:=u3) (u4:=u4) (q1:=q1) (q2:=q2) (q3:=q3) (q4:=q4) (q5:=q5) (q6:=q6) (ta:=ta) (tb:=tb) (tc:=tc) (td:=td) (xa:=xa) (xb:=xb) (xc:=xc) (ma:=ma) (mb:=mb) (mc:=mc) (rr:=rr) (vs:=vs) (v1:=v1) (v2:=v2) (nx:=nx) (sx:=sx) hall (vs.length - 1) (0+1) (by omega) rl1 er1 na1 nb1 nc1 pa1 pb1 pc1 g71 g81 q71 q81 yv1 zv1 pe1 N1 t1 a1 a2 a3 a4 a5 (by omega)
  have e1':rl++rdyV (vs.drop 0) na nb nc = rr:=by simpa using e1
  have e2':na - (cntV sa (vs.drop 0):Nat) = ma:=by simpa using e2
  have e3':nb - (cntV sb (vs.drop 0):Nat) = mb:=by simpa using e3
  have e4':nc - (cntV sc (vs.drop 0):Nat) = mc:=by simpa using e4
  rcases hkk with rfl | rfl | rfl
  ·by_cases hz:na - 1 = 0
   ·exact dn_0a1 MB hB hD hN (by omega) hv hd hz e1' e2' e3' e4' IH
   ·exact dn_0a0 MB hB hD hN (by omega) hv hd hz e1' e2' e3' e4' IH
  ·by_cases hz:nb - 1 = 0
   ·exact dn_0b1 MB hB hD hN (by omega) hv hd hz e1' e2' e3' e4' IH
   ·exact dn_0b0 MB hB hD hN (by omega) hv hd hz e1' e2' e3' e4' IH
  ·by_cases hz:nc - 1 = 0
   ·exact dn_0c1 MB hB hD hN (by omega) hv hd hz e1' e2' e3' e4' IH
   ·exact dn_0c0 MB hB hD hN (by omega) hv hd hz e1' e2' e3' e4' IH
end
structure DoV where
 er:Nat
 pa:Tok
 pb:Tok
 pc:Tok
 pd:Tok
 kf:Tok
 n:Nat
 t:Nat
include MB hB in
theorem done_d {S dS M R N t Ia Ib Ic Id La Lb Lc Ld da db dc dd ed er:Nat} {h1 h2 h3 h4 ha hb hc hd1:Int} {u1 u2 u3 u4 ta tb tc td xa xb xc xd pa pb pc pd ty kf:Tok} {na nb nc ma mb mc:Int} {ld rr:List Value} {vp:Value} {fi:Int} (hD:Lim D U 85) (hall:∀ v∈ld,∃ k t,v = .str k t∧(k = sa∨k = sb∨k = sc)) (h0:0 < ld.length∧ld.length≤800) (e1:[]++rdyV ld na nb nc = rr) (e2:na - (cntV sa ld:Nat) = ma) (e3:nb - (cntV sb ld:Nat) = mb) (e4:nc - (cntV sc ld:Nat) = mc) :
  CutOk (XX w r g d os) B D U (.call (.ref 294) ⟨[.ref (S+355),.str ⟨#[100]⟩ ty],[]⟩) none [(R+355,listO [] er),(Id+355,infO dd Ld ⟨#[100]⟩ xd (-1) pd),(Ic+355,infO dc Lc ⟨#[99]⟩ xc nc pc),(Ib+355,infO db Lb ⟨#[98]⟩ xb nb pb),(Ia+355,infO da La ⟨#[97]⟩ xa na pa),(dS+355,srtD M h1 h2 h3 h4 u1 u2 u3 u4 (.ref (R+355)) vp (.int fi kf))] [(S+355,srtO dS),(M+355,dictO (A_3 ha ta Ia hb tb Ib hc tc Ic hd1 td Id) 4),(da+355,dictO [] 0),(db+355,dictO [] 0),(dc+355,dictO [] 0),(dd+355,dictO [] 0),(Ld+355,listO ld ed)] (N+355) (t) ({v:DoV // N≤v.n}) (fun v=>.ok (.ret .none)) (fun v=>[]) (fun v=>[listO rr v.1.er,infO dd Ld ⟨#[100]⟩ xd (-2) v.1.pd,infO dc Lc ⟨#[99]⟩ xc mc v.1.pc,infO db Lb ⟨#[98]⟩ xb mb v.1.pb,infO da La ⟨#[97]⟩ xa ma v.1.pa,srtD M h1 h2 h3 h4 u1 u2 u3 u4 (.ref (R+355)) vp (.int (fi+1) v.1.kf)]) (fun v=>v.1.n+355) (fun v=>v.1.t) (fun v=>[]):=by
 refine .of_q MB hB hD.lo 4032 0 ?_
 k_data
 let P₀:Rows→Pk (XX w r g d os) B D U S₀ []:=fun x₀=>(.a (d6 65 0x41344443331151111111113133111f0220002100021f022000210002110111100) (ix [M+355,N+356,N+357,N+355,dS+355,S+355] 39 0x111115555415555411133322222322111000010) 0 0 1 3 [] [2] (dgetm_ok (hd:=none) (n:=N+358) (t:=t+6) (H:=M+355) (es:=(A_3 ha ta Ia hb tb Ib hc tc Ic hd1 td Id)) (ep:=4) (k:=⟨#[100]⟩) (tk:=ty) rfl rfl) fun _=>(.a (d6 107 0x11e1ee90900100090010100000000910009390900100090010100000909109100093011033390900100090010100000000910009333) (ix [N+358,Ld+355,Id+355,N+356] 29 0x33322222333322222223222221110) 469 512 1 3 [1] (d6 7 0x864c210) (dn_loop0 (S:=S) (dS:=dS) (M:=M) (G:=N) (IX:=Id) (L:=Ld) (R:=R) (Ia:=Ia) (Ib:=Ib) (Ic:=Ic) (Id:=Id) (La:=La) (Lb:=Lb) (Lc:=Lc) (da:=da) (db:=db) (dc:=dc) (I:=N+3) (C:=N+1) (e:=ed) (N0:=N) (h1:=h1) (h2:=h2) (h3:=h3) (h4:=h4) (ha:=ha) (hb:=hb) (hc:=hc) (hd1:=hd1) (g1:=kh w r ⟨#[115,101,108,102]⟩) (g2:=kh w r ⟨#[110,111,100,101,115]⟩) (g3:=kh w r ⟨#[110,50,105]⟩) (g4:=kh w r ⟨#[110,111,100,101]⟩) (g5:=kh w r ⟨#[110,111,100,101,105,110,102,111]⟩) (g6:=kh w r ⟨#[115,116,97,116]⟩) (u1:=u1) (u2:=u2) (u3:=u3) (u4:=u4) (q1:=t) (q2:=t+1) (q3:=t+4) (q4:=t+5) (q5:=t+7) (q6:=t+9) (ta:=ta) (tb:=tb) (tc:=tc) (td:=td) (xa:=xa) (xb:=xb) (xc:=xc) (ma:=ma) (mb:=mb) (mc:=mc) (rr:=rr) (vs:=ld) (v1:=vp) (v2:=.int fi kf) (nx:=.str ⟨#[100]⟩ ty) (sx:=.int (-1) pd) (rl:=[]) (er:=er) (na:=na) (nb:=nb) (nc:=nc) (pa:=pa) (pb:=pb) (pc:=pc) (pe:=6) (N:=N+4) (t:=t+12) MB1 hB1 hD.up hall h0 (by omega) e1 e2 e3 e4 (by simp)) fun v1=>(.f (d8 47 0x101030307030301030103011313130002000000020002010002010000000201011300020200000002010000000205) (ix [v1.1.n+356,N+357,N+355,dS+355,S+355,N+356] 22 0x5444434444433311112110) ⟨⟨v1.1.eR,v1.1.pa,v1.1.pb,v1.1.pc,573,v1.1.t+2,(v1.1.n)+2,(v1.1.t+5)⟩,by have:=v1.2; show N≤(v1.1.n)+2; omega⟩)))
 exact ⟨P₀,by intro ⟨x1,x2,x3,x4⟩; cases x2 <;> kernel_rfl⟩
include MB hB in
theorem done_c {S dS M R N t Ia Ib Ic Id La Lb Lc da db dc dd ec er:Nat} {h1 h2 h3 h4 ha hb hc hd1:Int} {u1 u2 u3 u4 ta tb tc td xa xb xc pa pb pc ty kf:Tok} {na nb ma mb mc:Int} {lc rr:List Value} {vp:Value} {fi:Int} (hD:Lim D U 85) (hall:∀ v∈lc,∃ k t,v = .str k t∧(k = sa∨k = sb∨k = sc)) (h0:0 < lc.length∧lc.length≤800) (e1:[]++rdyV lc na nb (-2) = rr) (e2:na - (cntV sa lc:Nat) = ma) (e3:nb - (cntV sb lc:Nat) = mb) (e4:(-2) - (cntV sc lc:Nat) = mc) :
  CutOk (XX w r g d os) B D U (.call (.ref 294) ⟨[.ref (S+355),.str ⟨#[99]⟩ ty],[]⟩) none [(R+355,listO [] er),(Ic+355,infO dc Lc ⟨#[99]⟩ xc (-1) pc),(Ib+355,infO db Lb ⟨#[98]⟩ xb nb pb),(Ia+355,infO da La ⟨#[97]⟩ xa na pa),(dS+355,srtD M h1 h2 h3 h4 u1 u2 u3 u4 (.ref (R+355)) vp (.int fi kf))] [(S+355,srtO dS),(M+355,dictO (A_3 ha ta Ia hb tb Ib hc tc Ic hd1 td Id) 4),(da+355,dictO [] 0),(db+355,dictO [] 0),(dc+355,dictO [] 0),(dd+355,dictO [] 0),(Lc+355,listO lc ec)] (N+355) (t) ({v:DoV // N≤v.n}) (fun v=>.ok (.ret .none)) (fun v=>[]) (fun v=>[listO rr v.1.er,infO dc Lc ⟨#[99]⟩ xc mc v.1.pc,infO db Lb ⟨#[98]⟩ xb mb v.1.pb,infO da La ⟨#[97]⟩ xa ma v.1.pa,srtD M h1 h2 h3 h4 u1 u2 u3 u4 (.ref (R+355)) vp (.int (fi+1) v.1.kf)]) (fun v=>v.1.n+355) (fun v=>v.1.t) (fun v=>[]):=by
 refine .of_q MB hB hD.lo 1984 0 ?_
 k_data
 let P₀:Rows→Pk (XX w r g d os) B D U S₀ []:=fun x₀=>(.a (d6 65 0x41344443331151111111113133111d0220002100021d022000210002110111100) (ix [M+355,N+356,N+357,N+355,dS+355,S+355] 39 0x111115555415555411133322222322111000010) 0 0 1 3 [] [2] (dgetm_ok (hd:=none) (n:=N+358) (t:=t+6) (H:=M+355) (es:=(A_3 ha ta Ia hb tb Ib hc tc Ic hd1 td Id)) (ep:=4) (k:=⟨#[99]⟩) (tk:=ty) rfl rfl) fun _=>(.a (d6 107 0x11e1ee90900100090010100000000910009390900100090010100000909109100093011033390900100090010100000000910009333) (ix [N+358,Lc+355,Ic+355,N+356] 29 0x33322222333322222223222221110) 245 256 1 3 [1] (d6 7 0x864c210) (dn_loop0 (S:=S) (dS:=dS) (M:=M) (G:=N) (IX:=Ic) (L:=Lc) (R:=R) (Ia:=Ia) (Ib:=Ib) (Ic:=Ic) (Id:=Id) (La:=La) (Lb:=Lb) (Lc:=Lc) (da:=da) (db:=db) (dc:=dc) (I:=N+3) (C:=N+1) (e:=ec) (N0:=N) (h1:=h1) (h2:=h2) (h3:=h3) (h4:=h4) (ha:=ha) (hb:=hb) (hc:=hc) (hd1:=hd1) (g1:=kh w r ⟨#[115,101,108,102]⟩) (g2:=kh w r ⟨#[110,111,100,101,115]⟩) (g3:=kh w r ⟨#[110,50,105]⟩) (g4:=kh w r ⟨#[110,111,100,101]⟩) (g5:=kh w r ⟨#[110,111,100,101,105,110,102,111]⟩) (g6:=kh w r ⟨#[115,116,97,116]⟩) (u1:=u1) (u2:=u2) (u3:=u3) (u4:=u4) (q1:=t) (q2:=t+1) (q3:=t+4) (q4:=t+5) (q5:=t+7) (q6:=t+9) (ta:=ta) (tb:=tb) (tc:=tc) (td:=td) (xa:=xa) (xb:=xb) (xc:=xc) (ma:=ma) (mb:=mb) (mc:=mc) (rr:=rr) (vs:=lc) (v1:=vp) (v2:=.int fi kf) (nx:=.str ⟨#[99]⟩ ty) (sx:=.int (-1) pc) (rl:=[]) (er:=er) (na:=na) (nb:=nb) (nc:=-2) (pa:=pa) (pb:=pb) (pc:=573) (pe:=6) (N:=N+4) (t:=t+12) MB1 hB1 hD.up hall h0 (by omega) e1 e2 e3 e4 (by simp)) fun v1=>(.f (d8 47 0x101030307030301030103011111110002000000020002010002010000000201011100020200000002010000000205) (ix [v1.1.n+356,N+357,N+355,dS+355,S+355,N+356] 22 0x5444434444433311112110) ⟨⟨v1.1.eR,v1.1.pa,v1.1.pb,v1.1.pc,0,v1.1.t+2,(v1.1.n)+2,(v1.1.t+5)⟩,by have:=v1.2; show N≤(v1.1.n)+2; omega⟩)))
 exact ⟨P₀,by intro ⟨x1,x2,x3,x4⟩; cases x2 <;> kernel_rfl⟩
include MB hB in
theorem done_b {S dS M R N t Ia Ib Ic Id La Lb Lc da db dc dd eb er:Nat} {h1 h2 h3 h4 ha hb hc hd1:Int} {u1 u2 u3 u4 ta tb tc td xa xb xc pa pb pc ty kf:Tok} {na nc ma mb mc:Int} {lb rr:List Value} {vp:Value} {fi:Int} (hD:Lim D U 85) (hall:∀ v∈lb,∃ k t,v = .str k t∧(k = sa∨k = sb∨k = sc)) (h0:0 < lb.length∧lb.length≤800) (e1:[]++rdyV lb na (-2) nc = rr) (e2:na - (cntV sa lb:Nat) = ma) (e3:(-2) - (cntV sb lb:Nat) = mb) (e4:nc - (cntV sc lb:Nat) = mc) :
  CutOk (XX w r g d os) B D U (.call (.ref 294) ⟨[.ref (S+355),.str ⟨#[98]⟩ ty],[]⟩) none [(R+355,listO [] er),(Ic+355,infO dc Lc ⟨#[99]⟩ xc nc pc),(Ib+355,infO db Lb ⟨#[98]⟩ xb (-1) pb),(Ia+355,infO da La ⟨#[97]⟩ xa na pa),(dS+355,srtD M h1 h2 h3 h4 u1 u2 u3 u4 (.ref (R+355)) vp (.int fi kf))] [(S+355,srtO dS),(M+355,dictO (A_3 ha ta Ia hb tb Ib hc tc Ic hd1 td Id) 4),(da+355,dictO [] 0),(db+355,dictO [] 0),(dc+355,dictO [] 0),(dd+355,dictO [] 0),(Lb+355,listO lb eb)] (N+355) (t) ({v:DoV // N≤v.n}) (fun v=>.ok (.ret .none)) (fun v=>[]) (fun v=>[listO rr v.1.er,infO dc Lc ⟨#[99]⟩ xc mc v.1.pc,infO db Lb ⟨#[98]⟩ xb mb v.1.pb,infO da La ⟨#[97]⟩ xa ma v.1.pa,srtD M h1 h2 h3 h4 u1 u2 u3 u4 (.ref (R+355)) vp (.int (fi+1) v.1.kf)]) (fun v=>v.1.n+355) (fun v=>v.1.t) (fun v=>[]):=by
 refine .of_q MB hB hD.lo 1984 0 ?_
 k_data
 let P₀:Rows→Pk (XX w r g d os) B D U S₀ []:=fun x₀=>(.a (d6 65 0x41344443331151111111113133111d0220002100021d022000210002110111100) (ix [M+355,N+356,N+357,N+355,dS+355,S+355] 39 0x111115555415555411133322222322111000010) 0 0 1 3 [] [2] (dgetm_ok (hd:=none) (n:=N+358) (t:=t+6) (H:=M+355) (es:=(A_3 ha ta Ia hb tb Ib hc tc Ic hd1 td Id)) (ep:=4) (k:=⟨#[98]⟩) (tk:=ty) rfl rfl) fun _=>(.a (d6 107 0x11e1eeb0b001000b0010100000000b1000b3b0b001000b0010100000b0b10b1000b30110333b0b001000b0010100000000b1000b333) (ix [N+358,Lb+355,Ib+355,N+356] 29 0x33322222333322222223222221110) 245 256 1 3 [1] (d6 7 0x864c210) (dn_loop0 (S:=S) (dS:=dS) (M:=M) (G:=N) (IX:=Ib) (L:=Lb) (R:=R) (Ia:=Ia) (Ib:=Ib) (Ic:=Ic) (Id:=Id) (La:=La) (Lb:=Lb) (Lc:=Lc) (da:=da) (db:=db) (dc:=dc) (I:=N+3) (C:=N+1) (e:=eb) (N0:=N) (h1:=h1) (h2:=h2) (h3:=h3) (h4:=h4) (ha:=ha) (hb:=hb) (hc:=hc) (hd1:=hd1) (g1:=kh w r ⟨#[115,101,108,102]⟩) (g2:=kh w r ⟨#[110,111,100,101,115]⟩) (g3:=kh w r ⟨#[110,50,105]⟩) (g4:=kh w r ⟨#[110,111,100,101]⟩) (g5:=kh w r ⟨#[110,111,100,101,105,110,102,111]⟩) (g6:=kh w r ⟨#[115,116,97,116]⟩) (u1:=u1) (u2:=u2) (u3:=u3) (u4:=u4) (q1:=t) (q2:=t+1) (q3:=t+4) (q4:=t+5) (q5:=t+7) (q6:=t+9) (ta:=ta) (tb:=tb) (tc:=tc) (td:=td) (xa:=xa) (xb:=xb) (xc:=xc) (ma:=ma) (mb:=mb) (mc:=mc) (rr:=rr) (vs:=lb) (v1:=vp) (v2:=.int fi kf) (nx:=.str ⟨#[98]⟩ ty) (sx:=.int (-1) pb) (rl:=[]) (er:=er) (na:=na) (nb:=-2) (nc:=nc) (pa:=pa) (pb:=573) (pc:=pc) (pe:=6) (N:=N+4) (t:=t+12) MB1 hB1 hD.up hall h0 (by omega) e1 e2 e3 e4 (by simp)) fun v1=>(.f (d8 47 0x101030307030301030103011111110002000000020002010002010000000201011100020200000002010000000205) (ix [v1.1.n+356,N+357,N+355,dS+355,S+355,N+356] 22 0x5444434444433311112110) ⟨⟨v1.1.eR,v1.1.pa,v1.1.pb,v1.1.pc,0,v1.1.t+2,(v1.1.n)+2,(v1.1.t+5)⟩,by have:=v1.2; show N≤(v1.1.n)+2; omega⟩)))
 exact ⟨P₀,by intro ⟨x1,x2,x3,x4⟩; cases x2 <;> kernel_rfl⟩
variable {S dS M R N t Ia Ib Ic Id La Lb Lc da db dc dd ea er:Nat} {h1 h2 h3 h4 ha hb hc hd1:Int} {u1 u2 u3 u4 ta tb tc td xa xb xc pa pb pc ty kf:Tok} {nb nc:Int} {vp:Value} {fi:Int}
include MB hB in
theorem done_a (hD:Lim D U 85)  :
  CutOk (XX w r g d os) B D U (.call (.ref 294) ⟨[.ref (S+355),.str ⟨#[97]⟩ ty],[]⟩) none [(R+355,listO [] er),(Ic+355,infO dc Lc ⟨#[99]⟩ xc nc pc),(Ib+355,infO db Lb ⟨#[98]⟩ xb nb pb),(Ia+355,infO da La ⟨#[97]⟩ xa (-1) pa),(dS+355,srtD M h1 h2 h3 h4 u1 u2 u3 u4 (.ref (R+355)) vp (.int fi kf))] [(S+355,srtO dS),(M+355,dictO (A_3 ha ta Ia hb tb Ib hc tc Ic hd1 td Id) 4),(da+355,dictO [] 0),(db+355,dictO [] 0),(dc+355,dictO [] 0),(dd+355,dictO [] 0),(La+355,listO [] ea)] (N+355) (t) ({v:DoV // N≤v.n}) (fun v=>.ok (.ret .none)) (fun v=>[]) (fun v=>[listO [] v.1.er,infO dc Lc ⟨#[99]⟩ xc nc v.1.pc,infO db Lb ⟨#[98]⟩ xb nb v.1.pb,infO da La ⟨#[97]⟩ xa (-2) v.1.pa,srtD M h1 h2 h3 h4 u1 u2 u3 u4 (.ref (R+355)) vp (.int (fi+1) v.1.kf)]) (fun v=>v.1.n+355) (fun v=>v.1.t) (fun v=>[]):=by
 refine .of_q MB hB hD.lo 7936 0 ?_
 intro S₀
 let P₀:Rows→Pk (XX w r g d os) B D U S₀ []:=fun x₀=>(.a (d6 65 0x41344443331151111111113133111d0220002100021d022000210002110111100) (ix [M+355,N+356,N+357,N+355,dS+355,S+355] 39 0x111115555415555411133322222322111000010) 0 0 1 3 [] [2] (dgetm_ok (hd:=none) (n:=N+358) (t:=t+6) (H:=M+355) (es:=(A_3 ha ta Ia hb tb Ib hc tc Ic hd1 td Id)) (ep:=4) (k:=⟨#[97]⟩) (tk:=ty) rfl rfl) fun _=>(.f (d8 166 0x10107070b070701070107011515150002000000020002010002010000000201011500020200000002010000000209010101010e0101010101010101010e010e0e0d000d0000010000000d000001000100000000000000000d010000000d030d000d0000010000000d000001000100000000000d000d01000d010000000d03000101000303030d000d0000010000000d000001000100000000000000000d010000000d030303) (ix [N+362,N+357,N+355,dS+355,S+355,N+356,N+360,N+358,La+355,Ia+355] 59 0x55599999555599999995999998887777787765444434444433311112110) ⟨⟨er,573,pb,pc,0,t+14,N+8,(t+17)⟩,by show N≤N+8; omega⟩))
 exact ⟨P₀,by intro ⟨x1,x2,x3,x4⟩; cases x2 <;> kernel_rfl⟩
end
structure GrV where
 er:Nat
 pI:Tok
 kp:Tok
 T:Nat
 n:Nat
 t:Nat
include MB hB in
theorem gr_ok {S dS M R N t IX dI LI er:Nat} {h1 h2 h3 h4:Int} {u1 u2 u3 u4 tx xI pI kp:Tok} {nI pz:Int} {ne:List DictEntry} {M4:Nat} {kx:Str} {vf:Value} (hD:Lim D U 70) (hd1:dstr ne = true) (hd2:dhas ne kx = true) (hd3:dlook ne kx = .ref (IX+355)) :
  CutOk (XX w r g d os) B D U (.call (.ref 273) ⟨[.ref (S+355)],[]⟩) none [(R+355,listO [.str kx tx] er),(IX+355,infO dI LI kx xI nI pI),(dS+355,srtD M h1 h2 h3 h4 u1 u2 u3 u4 (.ref (R+355)) (.int pz kp) vf)] [(S+355,srtO dS),(M+355,dictO ne M4),(dI+355,dictO [] 0)] (N+355) (t) ({v:GrV // N≤v.n}) (fun v=>.ok (.ret (.ref (N+357)))) (fun v=>[(N+357,tupO [.str kx tx])]) (fun v=>[listO [] v.1.er,infO dI LI kx xI (-1) v.1.pI,srtD M h1 h2 h3 h4 u1 u2 u3 u4 (.ref (R+355)) (.int (pz+1) v.1.kp) vf]) (fun v=>v.1.n+355) (fun v=>v.1.t) (fun v=>[]):=by
 refine CutOk.of_pk MB hB hD.lo (by intro v p hp; simp only [List.mem_cons,List.not_mem_nil,or_false] at hp; rcases hp with rfl <;> (have hv:=v.2; dsimp only at *; omega)) (fun _=>rfl) 456 0 ?_
 intro S₀
 let P₀:Rows→Pk (XX w r g d os) B D U S₀ []:=fun x₀=>(.a (d6 42 0x131111702200021000210070220002100021101100) (ix [R+355,dS+355,S+355,N+355] 15 0x333222213222210) 1 4 1 5 [0] [1] (iadd_ok (hd:=none) (n:=N+357) (t:=t+3) (H:=N+356) (G:=R+355) (us:=[]) (vs:=[Value.str kx tx]) (e:=0) (e1:=er) (by simp)) fun v0=>(.a (d6 52 0x41444770771131111111111111555b0220002100025551111111) (ix [M+355,N+355,N+358,N+357,dS+355,S+355,N+356] 35 0x63333111555541113332222232211110000) 0 0 1 3 [] [2] (dget_is (hd:=none) (n:=N+359) (t:=t+7) (H:=M+355) (es:=ne) (ep:=M4) (k:=kx) (tk:=tx) (v:=.ref (IX+355)) hd1 hd2 hd3) fun _=>(.f (d8 114 0xb111111000200000002000201000201000000020101070107010701010b0000110002020000000201000000020b0d0d0d0d010d010d0d0d0d110002020000000201000000020b0101010103010101010101010b000b0000010000000b000001000100000000000b000b01000b010000000b) (ix [N+355,dS+355,S+355,N+357,R+355,N+360,N+358,IX+355] 49 0x7777777666636650222214444444440222210333222221110) ⟨⟨er+1,570,t+13,0,N+6,(t+16)⟩,by show N≤N+6; omega⟩)))
 exact ⟨P₀,by intro ⟨x1,x2,x3,x4⟩; cases x2 <;> kernel_rfl⟩
include MB hB in
theorem ia_t {S dS M R N t er:Nat} {h1 h2 h3 h4:Int} {u1 u2 u3 u4 tx kp kf:Tok} {pz fi:Int} {kx:Str} (hD:Lim D U 70) (hlt:¬ fi < pz) :
  CutOk (XX w r g d os) B D U (.call (.ref 280) ⟨[.ref (S+355)],[]⟩) none [] [(S+355,srtO dS),(dS+355,srtD M h1 h2 h3 h4 u1 u2 u3 u4 (.ref (R+355)) (.int pz kp) (.int fi kf)),(R+355,listO [.str kx tx] er)] (N+355) (t) ({v:Mx // N≤v.n}) (fun v=>.ok (.ret (.bool true))) (fun v=>[]) (fun v=>[]) (fun v=>v.1.n+355) (fun v=>v.1.t) (fun v=>[]):=by
 refine .of_q MB hB hD.lo 0 0 ?_
 intro S₀
 let P₀:Rows→Pk (XX w r g d os) B D U S₀ []:=fun x₀=>(.a (d6 49 0x1402200021000214022000210002140220002100021101100) (ix [dS+355,S+355,N+355] 20 0x22211110211110211110) 0 0 1 3 [] [] (ilt_f (hd:=none) (n:=N+356) (t:=t+4) (a:=fi) (b:=pz) (ta:=kf) (tb:=kp) hlt) fun _=>(.f (d6 30 0x116161616611114022000210002100) (ix [R+355,dS+355,S+355,N+355] 11 0x32222100000) ⟨⟨0,N+1,(t+7)⟩,by show N≤N+1; omega⟩))
 exact ⟨P₀,by intro ⟨x1,x2,x3,x4⟩; cases x2 <;> kernel_rfl⟩
include MB hB in
theorem ia_f {S dS M R N t er:Nat} {h1 h2 h3 h4:Int} {u1 u2 u3 u4 kp kf:Tok} {pz fi:Int} (hD:Lim D U 70) (hlt:¬ fi < pz) :
  CutOk (XX w r g d os) B D U (.call (.ref 280) ⟨[.ref (S+355)],[]⟩) none [] [(S+355,srtO dS),(dS+355,srtD M h1 h2 h3 h4 u1 u2 u3 u4 (.ref (R+355)) (.int pz kp) (.int fi kf)),(R+355,listO [] er)] (N+355) (t) ({v:Mx // N≤v.n}) (fun v=>.ok (.ret (.bool false))) (fun v=>[]) (fun v=>[]) (fun v=>v.1.n+355) (fun v=>v.1.t) (fun v=>[]):=by
 refine .of_q MB hB hD.lo 0 0 ?_
 intro S₀
 let P₀:Rows→Pk (XX w r g d os) B D U S₀ []:=fun x₀=>(.a (d6 49 0x1402200021000214022000210002140220002100021101100) (ix [dS+355,S+355,N+355] 20 0x22211110211110211110) 0 0 1 3 [] [] (ilt_f (hd:=none) (n:=N+356) (t:=t+4) (a:=fi) (b:=pz) (ta:=kf) (tb:=kp) hlt) fun _=>(.f (d6 30 0x116161616611114022000210002100) (ix [R+355,dS+355,S+355,N+355] 11 0x32222100000) ⟨⟨0,N+1,(t+7)⟩,by show N≤N+1; omega⟩))
 exact ⟨P₀,by intro ⟨x1,x2,x3,x4⟩; cases x2 <;> kernel_rfl⟩
noncomputable abbrev fwCode (w:World) (r:Rows) (Ff C1 C2:Nat):Code:=.whileLoop (whT (nthS (fnBody (KF (pr w r)) 327) 5)) (whB (nthS (fnBody (KF (pr w r)) 327) 5)) (whO (nthS (fnBody (KF (pr w r)) 327) 5)) (eF w r Ff C1 C2)
structure FwV where
 eo:Nat
 er:Nat
 pa:Tok
 pb:Tok
 pc:Tok
 pd:Tok
 kf:Tok
 kp:Tok
 fh:Int
 fu:Tok
 fv:Value
 fe:Nat
 n:Nat
 t:Nat
noncomputable abbrev fl5 (S O:Nat) (a1 a2 a3 a4 a5:Int) (b1 b2 b3 b4 b5:Tok) (x1 x2 x3:Value) (l:List DictEntry):List DictEntry:=dE a1 (⟨#[115,111,114,116,101,114]⟩:Str) b1 (.ref (S+355)) :: dE a2 (⟨#[108,101,116,116,101,114]⟩:Str) b2 x1 :: dE a3 (⟨#[108,101,97,118,101,115]⟩:Str) b3 x2 :: dE a4 (⟨#[99,111,109,101,115]⟩:Str) b4 x3 :: dE a5 (⟨#[111,114,100,101,114]⟩:Str) b5 (.ref (O+355)) :: l
include MB hB in
theorem fw_ok {S dS M R O N t Ff C1 C2 L Ia Ib Ic Id La Lb Lc Ld da db dc dd ea eb ec ed er eo pf:Nat} {h1 h2 h3 h4 ha hb hc hd1 a1 a2 a3 a4 a5:Int} {u1 u2 u3 u4 ta tb tc td xa xb xc xd pa pb pc pd b1 b2 b3 b4 b5 kp kf z0 z1 z2 z3:Tok} {na nb nc:Int} {lb lc ld:List Value} {x1 x2 x3:Value} (hD:Lim D U 100) (r1:[]++rdyV ld na nb nc = [.str ⟨#[99]⟩ z1]) (r2:[]++rdyV lc (na - (cntV sa ld:Nat)) (nb - (cntV sb ld:Nat)) (-2) = [.str ⟨#[98]⟩ z2]) (r3:[]++rdyV lb ((na - (cntV sa ld:Nat)) - (cntV sa lc:Nat)) (-2) ((-2:Int) - (cntV sc lc:Nat)) = [.str ⟨#[97]⟩ z3]) (gb:∀ v∈lb,∃ k t,v = .str k t∧(k = sa∨k = sb∨k = sc)) (jb:0 < lb.length∧lb.length≤800) (gc:∀ v∈lc,∃ k t,v = .str k t∧(k = sa∨k = sb∨k = sc)) (jc:0 < lc.length∧lc.length≤800) (gd:∀ v∈ld,∃ k t,v = .str k t∧(k = sa∨k = sb∨k = sc)) (jd:0 < ld.length∧ld.length≤800) :
  CutOk (XX w r g d os) B D U (fwCode w r Ff C1 C2) none [(O+355,listO [] eo),(R+355,listO [.str ⟨#[100]⟩ z0] er),(Id+355,infO dd Ld ⟨#[100]⟩ xd 0 pd),(Ic+355,infO dc Lc ⟨#[99]⟩ xc nc pc),(Ib+355,infO db Lb ⟨#[98]⟩ xb nb pb),(Ia+355,infO da La ⟨#[97]⟩ xa na pa),(dS+355,srtD M h1 h2 h3 h4 u1 u2 u3 u4 (.ref (R+355)) (.int 0 kp) (.int 0 kf)),(Ff+355,frS (fl5 S O a1 a2 a3 a4 a5 b1 b2 b3 b4 b5 x1 x2 x3 []) pf (slF L C1 C2))] [(S+355,srtO dS),(M+355,dictO (A_3 ha ta Ia hb tb Ib hc tc Ic hd1 td Id) 4),(La+355,listO [] ea),(Lb+355,listO lb eb),(Lc+355,listO lc ec),(Ld+355,listO ld ed),(da+355,dictO [] 0),(db+355,dictO [] 0),(dc+355,dictO [] 0),(dd+355,dictO [] 0)] (N+355) (t) ({v:FwV // N≤v.n}) (fun v=>.ok .next) (fun v=>[]) (fun v=>[listO [.str ⟨#[100]⟩ z0,.str ⟨#[99]⟩ z1,.str ⟨#[98]⟩ z2,.str ⟨#[97]⟩ z3] v.1.eo,listO [] v.1.er,infO dd Ld ⟨#[100]⟩ xd (-2) v.1.pd,infO dc Lc ⟨#[99]⟩ xc (((-2:Int) - (cntV sc lc:Nat)) - (cntV sc lb:Nat)) v.1.pc,infO db Lb ⟨#[98]⟩ xb ((-2:Int) - (cntV sb lb:Nat)) v.1.pb,infO da La ⟨#[97]⟩ xa (-2) v.1.pa,srtD M h1 h2 h3 h4 u1 u2 u3 u4 (.ref (R+355)) (.int 4 v.1.kp) (.int 4 v.1.kf),frS (fl5 S O a1 a2 a3 a4 a5 b1 b2 b3 b4 b5 x1 x2 x3 [dE v.1.fh (⟨#[103,114,111,117,112]⟩:Str) v.1.fu v.1.fv]) v.1.fe (slF L C1 C2)]) (fun v=>v.1.n+355) (fun v=>v.1.t) (fun v=>[]):=by
 refine .of_q MB hB hD.lo 1044480 0 ?_
 k_data
 let P₀:Rows→Pk (XX w r g d os) B D U S₀ []:=fun x₀=>(.a (d6 17 0xd20000200020002f) (ix [dS+355,S+355,Ff+355] 6 0x211110) 0 66 0 0 [2,1] [0,3,1] (ia_t (S:=S) (dS:=dS) (M:=M) (R:=R) (N:=N) (t:=t) (er:=er) (h1:=h1) (h2:=h2) (h3:=h3) (h4:=h4) (u1:=u1) (u2:=u2) (u3:=u3) (u4:=u4) (tx:=z0) (kp:=kp) (kf:=kf) (pz:=0) (fi:=0) (kx:=⟨#[100]⟩) MB1 hB1 hD.up (by decide)) fun v0=>(.a (d6 17 0xd20000200020002f) (ix [dS+355,S+355,Ff+355] 6 0x211110) 70 0 0 0 [] [0,2,18] (gr_ok (S:=S) (dS:=dS) (M:=M) (R:=R) (N:=v0.1.n) (t:=v0.1.t) (IX:=Id) (dI:=dd) (LI:=Ld) (er:=er) (h1:=h1) (h2:=h2) (h3:=h3) (h4:=h4) (u1:=u1) (u2:=u2) (u3:=u3) (u4:=u4) (tx:=z0) (xI:=xd) (pI:=pd) (kp:=kp) (nI:=0) (pz:=0) (ne:=(A_22 ha ta Ia hb tb Ib hc tc Ic hd1 td Id)) (M4:=4) (kx:=⟨#[100]⟩) (vf:=.int 0 kf) MB1 hB1 hD.up rfl rfl rfl) fun v1=>(.a (d8 28 0x103130100010000000f000202000000000000020100000002111111) (ix [v0.1.n+357,Ff+355,dS+355,S+355] 10 0x1113333210) 1 4 0 0 [0] [1] (iaddt_ok (hd:=none) (n:=v1.1.n+357) (t:=v1.1.t+2) (H:=v1.1.n+356) (G:=v0.1.n+357) (us:=[]) (vs:=[Value.str ⟨#[100]⟩ z0]) (e:=0) (by simp)) fun v2=>(.a (d6 6 0x331031) (ixL [v1.1.n+355,v1.1.n+356] [0,0,0,1]) 1008 0 0 0 [] (d8 7 0xa12100e0c0200) (done_d (S:=S) (dS:=dS) (M:=M) (R:=R) (N:=v1.1.n+2) (t:=v1.1.t+2) (Ia:=Ia) (Ib:=Ib) (Ic:=Ic) (Id:=Id) (La:=La) (Lb:=Lb) (Lc:=Lc) (Ld:=Ld) (da:=da) (db:=db) (dc:=dc) (dd:=dd) (ed:=ed) (er:=v1.1.er) (h1:=h1) (h2:=h2) (h3:=h3) (h4:=h4) (ha:=ha) (hb:=hb) (hc:=hc) (hd1:=hd1) (u1:=u1) (u2:=u2) (u3:=u3) (u4:=u4) (ta:=ta) (tb:=tb) (tc:=tc) (td:=td) (xa:=xa) (xb:=xb) (xc:=xc) (xd:=xd) (pa:=pa) (pb:=pb) (pc:=pc) (pd:=v1.1.pI) (ty:=z0) (kf:=kf) (na:=na) (nb:=nb) (nc:=nc) (ma:=na - ↑(cntV sa ld)) (mb:=nb - ↑(cntV sb ld)) (mc:=nc - ↑(cntV sc ld)) (ld:=ld) (rr:=[Value.str ⟨#[99]⟩ z1]) (vp:=.int 1 v1.1.kp) (fi:=0) MB1 hB1 hD.up gd jd r1 rfl rfl rfl) fun v3=>(.a (d8 8 0x701150707070715) (ix [O+355,Ff+355] 7 0x1000010) 8 4 0 0 [0] [1] (ext_ok (hd:=none) (n:=v3.1.n+355) (t:=v3.1.t) (H:=O+355) (G:=v0.1.n+357) (us:=[]) (vs:=[Value.str ⟨#[100]⟩ z0]) (e:=eo) (by simp)) fun v4=>(.a (d8 18 0x1302000000000200000002000000021501) (ix [dS+355,S+355,Ff+355] 6 0x211110) 0 528 0 0 [2,1] [0,3,1] (ia_t (S:=S) (dS:=dS) (M:=M) (R:=R) (N:=v3.1.n) (t:=v3.1.t) (er:=v3.1.er) (h1:=h1) (h2:=h2) (h3:=h3) (h4:=h4) (u1:=u1) (u2:=u2) (u3:=u3) (u4:=u4) (tx:=z1) (kp:=v1.1.kp) (kf:=v3.1.kf) (pz:=1) (fi:=1) (kx:=⟨#[99]⟩) MB1 hB1 hD.up (by decide)) fun v5=>(.a (d8 17 0x13020000000002000000020000000215) (ix [dS+355,S+355,Ff+355] 6 0x211110) 592 0 0 0 [] [0,2,16] (gr_ok (S:=S) (dS:=dS) (M:=M) (R:=R) (N:=v5.1.n) (t:=v5.1.t) (IX:=Ic) (dI:=dc) (LI:=Lc) (er:=v3.1.er) (h1:=h1) (h2:=h2) (h3:=h3) (h4:=h4) (u1:=u1) (u2:=u2) (u3:=u3) (u4:=u4) (tx:=z1) (xI:=xc) (pI:=v3.1.pc) (kp:=v1.1.kp) (nI:=nc - ↑(cntV sc ld)) (pz:=1) (ne:=(A_22 ha ta Ia hb tb Ib hc tc Ic hd1 td Id)) (M4:=4) (kx:=⟨#[99]⟩) (vf:=.int 1 v3.1.kf) MB1 hB1 hD.up rfl rfl rfl) fun v6=>(.a (d8 28 0x1031901000100000015000202000000000000020100000002171717) (ix [v5.1.n+357,Ff+355,dS+355,S+355] 10 0x1113333210) 1 4 0 0 [0] [1] (iaddt_ok (hd:=none) (n:=v6.1.n+357) (t:=v6.1.t+2) (H:=v6.1.n+356) (G:=v5.1.n+357) (us:=[]) (vs:=[Value.str ⟨#[99]⟩ z1]) (e:=0) (by simp)) fun v7=>(.a (d6 6 0x331031) (ixL [v6.1.n+355,v6.1.n+356] [0,0,0,1]) 7808 0 0 0 [] (d8 7 0x812100e0c0200) (done_c (S:=S) (dS:=dS) (M:=M) (R:=R) (N:=v6.1.n+2) (t:=v6.1.t+2) (Ia:=Ia) (Ib:=Ib) (Ic:=Ic) (Id:=Id) (La:=La) (Lb:=Lb) (Lc:=Lc) (da:=da) (db:=db) (dc:=dc) (dd:=dd) (ec:=ec) (er:=v6.1.er) (h1:=h1) (h2:=h2) (h3:=h3) (h4:=h4) (ha:=ha) (hb:=hb) (hc:=hc) (hd1:=hd1) (u1:=u1) (u2:=u2) (u3:=u3) (u4:=u4) (ta:=ta) (tb:=tb) (tc:=tc) (td:=td) (xa:=xa) (xb:=xb) (xc:=xc) (pa:=v3.1.pa) (pb:=v3.1.pb) (pc:=v6.1.pI) (ty:=z1) (kf:=v3.1.kf) (na:=na - ↑(cntV sa ld)) (nb:=nb - ↑(cntV sb ld)) (ma:=na - ↑(cntV sa ld) - ↑(cntV sa lc)) (mb:=nb - ↑(cntV sb ld) - ↑(cntV sb lc)) (mc:=-2 - ↑(cntV sc lc)) (lc:=lc) (rr:=[Value.str ⟨#[98]⟩ z2]) (vp:=.int 2 v6.1.kp) (fi:=1) MB1 hB1 hD.up gc jc r2 rfl rfl rfl) fun v8=>(.a (d8 8 0xd011b0d0d0d0d1b) (ix [O+355,Ff+355] 7 0x1000010) 64 4 0 0 [0] [1] (ext_ok (hd:=none) (n:=v8.1.n+355) (t:=v8.1.t) (H:=O+355) (G:=v5.1.n+357) (us:=[Value.str ⟨#[100]⟩ z0]) (vs:=[Value.str ⟨#[99]⟩ z1]) (e:=v4) (by simp)) fun v9=>(.a (d8 18 0x1902000000000200000002000000021b01) (ix [dS+355,S+355,Ff+355] 6 0x211110) 0 4224 0 0 [2,1] [0,3,1] (ia_t (S:=S) (dS:=dS) (M:=M) (R:=R) (N:=v8.1.n) (t:=v8.1.t) (er:=v8.1.er) (h1:=h1) (h2:=h2) (h3:=h3) (h4:=h4) (u1:=u1) (u2:=u2) (u3:=u3) (u4:=u4) (tx:=z2) (kp:=v6.1.kp) (kf:=v8.1.kf) (pz:=2) (fi:=2) (kx:=⟨#[98]⟩) MB1 hB1 hD.up (by decide)) fun v10=>(.a (d8 17 0x1902000000000200000002000000021b) (ix [dS+355,S+355,Ff+355] 6 0x211110) 5248 0 0 0 [] [0,2,14] (gr_ok (S:=S) (dS:=dS) (M:=M) (R:=R) (N:=v10.1.n) (t:=v10.1.t) (IX:=Ib) (dI:=db) (LI:=Lb) (er:=v8.1.er) (h1:=h1) (h2:=h2) (h3:=h3) (h4:=h4) (u1:=u1) (u2:=u2) (u3:=u3) (u4:=u4) (tx:=z2) (xI:=xb) (pI:=v8.1.pb) (kp:=v6.1.kp) (nI:=nb - ↑(cntV sb ld) - ↑(cntV sb lc)) (pz:=2) (ne:=(A_22 ha ta Ia hb tb Ib hc tc Ic hd1 td Id)) (M4:=4) (kx:=⟨#[98]⟩) (vf:=.int 2 v8.1.kf) MB1 hB1 hD.up rfl rfl rfl) fun v11=>(.a (d8 28 0x1031f0100010000001b0002020000000000000201000000021d1d1d) (ix [v10.1.n+357,Ff+355,dS+355,S+355] 10 0x1113333210) 1 4 0 0 [0] [1] (iaddt_ok (hd:=none) (n:=v11.1.n+357) (t:=v11.1.t+2) (H:=v11.1.n+356) (G:=v10.1.n+357) (us:=[]) (vs:=[Value.str ⟨#[98]⟩ z2]) (e:=0) (by simp)) fun v12=>(.a (d6 6 0x331031) (ixL [v11.1.n+355,v11.1.n+356] [0,0,0,1]) 62464 0 0 0 [] (d8 7 0x612100e0c0200) (done_b (S:=S) (dS:=dS) (M:=M) (R:=R) (N:=v11.1.n+2) (t:=v11.1.t+2) (Ia:=Ia) (Ib:=Ib) (Ic:=Ic) (Id:=Id) (La:=La) (Lb:=Lb) (Lc:=Lc) (da:=da) (db:=db) (dc:=dc) (dd:=dd) (eb:=eb) (er:=v11.1.er) (h1:=h1) (h2:=h2) (h3:=h3) (h4:=h4) (ha:=ha) (hb:=hb) (hc:=hc) (hd1:=hd1) (u1:=u1) (u2:=u2) (u3:=u3) (u4:=u4) (ta:=ta) (tb:=tb) (tc:=tc) (td:=td) (xa:=xa) (xb:=xb) (xc:=xc) (pa:=v8.1.pa) (pb:=v11.1.pI) (pc:=v8.1.pc) (ty:=z2) (kf:=v8.1.kf) (na:=na - ↑(cntV sa ld) - ↑(cntV sa lc)) (nc:=-2 - ↑(cntV sc lc)) (ma:=na - ↑(cntV sa ld) - ↑(cntV sa lc) - ↑(cntV sa lb)) (mb:=-2 - ↑(cntV sb lb)) (mc:=-2 - ↑(cntV sc lc) - ↑(cntV sc lb)) (lb:=lb) (rr:=[Value.str ⟨#[97]⟩ z3]) (vp:=.int 3 v11.1.kp) (fi:=2) MB1 hB1 hD.up gb jb r3 rfl rfl rfl) fun v13=>(.a (d8 8 0x1301211313131321) (ix [O+355,Ff+355] 7 0x1000010) 512 4 0 0 [0] [1] (ext_ok (hd:=none) (n:=v13.1.n+355) (t:=v13.1.t) (H:=O+355) (G:=v10.1.n+357) (us:=[Value.str ⟨#[100]⟩ z0,Value.str ⟨#[99]⟩ z1]) (vs:=[Value.str ⟨#[98]⟩ z2]) (e:=v9) (by simp)) fun v14=>(.a (d8 18 0x1f02000000000200000002000000022101) (ix [dS+355,S+355,Ff+355] 6 0x211110) 0 33792 0 0 [2,1] [0,3,1] (ia_t (S:=S) (dS:=dS) (M:=M) (R:=R) (N:=v13.1.n) (t:=v13.1.t) (er:=v13.1.er) (h1:=h1) (h2:=h2) (h3:=h3) (h4:=h4) (u1:=u1) (u2:=u2) (u3:=u3) (u4:=u4) (tx:=z3) (kp:=v11.1.kp) (kf:=v13.1.kf) (pz:=3) (fi:=3) (kx:=⟨#[97]⟩) MB1 hB1 hD.up (by decide)) fun v15=>(.a (d8 17 0x1f020000000002000000020000000221) (ix [dS+355,S+355,Ff+355] 6 0x211110) 50176 0 0 0 [] [0,2,12] (gr_ok (S:=S) (dS:=dS) (M:=M) (R:=R) (N:=v15.1.n) (t:=v15.1.t) (IX:=Ia) (dI:=da) (LI:=La) (er:=v13.1.er) (h1:=h1) (h2:=h2) (h3:=h3) (h4:=h4) (u1:=u1) (u2:=u2) (u3:=u3) (u4:=u4) (tx:=z3) (xI:=xa) (pI:=v13.1.pa) (kp:=v11.1.kp) (nI:=na - ↑(cntV sa ld) - ↑(cntV sa lc) - ↑(cntV sa lb)) (pz:=3) (ne:=(A_22 ha ta Ia hb tb Ib hc tc Ic hd1 td Id)) (M4:=4) (kx:=⟨#[97]⟩) (vf:=.int 3 v13.1.kf) MB1 hB1 hD.up rfl rfl rfl) fun v16=>(.a (d8 28 0x1032501000100000021000202000000000000020100000002232323) (ix [v15.1.n+357,Ff+355,dS+355,S+355] 10 0x1113333210) 1 4 0 0 [0] [1] (iaddt_ok (hd:=none) (n:=v16.1.n+357) (t:=v16.1.t+2) (H:=v16.1.n+356) (G:=v15.1.n+357) (us:=[]) (vs:=[Value.str ⟨#[97]⟩ z3]) (e:=0) (by simp)) fun v17=>(.a (d6 6 0x331031) (ixL [v16.1.n+355,v16.1.n+356] [0,0,0,1]) 499712 0 0 0 [] (d8 7 0x412100e0c0200) (done_a (S:=S) (dS:=dS) (M:=M) (R:=R) (N:=v16.1.n+2) (t:=v16.1.t+2) (Ia:=Ia) (Ib:=Ib) (Ic:=Ic) (Id:=Id) (La:=La) (Lb:=Lb) (Lc:=Lc) (da:=da) (db:=db) (dc:=dc) (dd:=dd) (ea:=ea) (er:=v16.1.er) (h1:=h1) (h2:=h2) (h3:=h3) (h4:=h4) (ha:=ha) (hb:=hb) (hc:=hc) (hd1:=hd1) (u1:=u1) (u2:=u2) (u3:=u3) (u4:=u4) (ta:=ta) (tb:=tb) (tc:=tc) (td:=td) (xa:=xa) (xb:=xb) (xc:=xc) (pa:=v16.1.pI) (pb:=v13.1.pb) (pc:=v13.1.pc) (ty:=z3) (kf:=v13.1.kf) (nb:=-2 - ↑(cntV sb lb)) (nc:=-2 - ↑(cntV sc lc) - ↑(cntV sc lb)) (vp:=.int 4 v16.1.kp) (fi:=3) MB1 hB1 hD.up) fun v18=>(.a (d8 8 0x1901271919191927) (ix [O+355,Ff+355] 7 0x1000010) 4096 4 0 0 [0] [1] (ext_ok (hd:=none) (n:=v18.1.n+355) (t:=v18.1.t) (H:=O+355) (G:=v15.1.n+357) (us:=[Value.str ⟨#[100]⟩ z0,Value.str ⟨#[99]⟩ z1,Value.str ⟨#[98]⟩ z2]) (vs:=[Value.str ⟨#[97]⟩ z3]) (e:=v14) (by simp)) fun v19=>(.a (d8 18 0x2502000000000200000002000000022701) (ix [dS+355,S+355,Ff+355] 6 0x211110) 0 270336 0 0 [2,1] [0,3,1] (ia_f (S:=S) (dS:=dS) (M:=M) (R:=R) (N:=v18.1.n) (t:=v18.1.t) (er:=v18.1.er) (h1:=h1) (h2:=h2) (h3:=h3) (h4:=h4) (u1:=u1) (u2:=u2) (u3:=u3) (u4:=u4) (kp:=v16.1.kp) (kf:=v18.1.kf) (pz:=4) (fi:=4) MB1 hB1 hD.up (by decide)) fun v20=>(.f [] [] ⟨⟨v19,v18.1.er,v18.1.pa,v18.1.pb,v18.1.pc,v3.1.pd,v18.1.kf,v16.1.kp,kh w r (⟨#[103,114,111,117,112]⟩:Str),v1.1.t,.ref (v15.1.n+357),pf+1,v20.1.n,v20.1.t⟩,by have a0:=v0.2; have a1:=v1.2; have a3:=v3.2; have a5:=v5.2; have a6:=v6.2; have a8:=v8.2; have a10:=v10.2; have a11:=v11.2; have a13:=v13.2; have a15:=v15.2; have a16:=v16.2; have a18:=v18.2; have a20:=v20.2; show N≤v20.1.n; omega⟩))))))))))))))))))))))
 exact ⟨P₀,by intro x; kernel_rfl⟩
noncomputable def fdA:Stmt→Arguments
 | .FunctionDef _ a _ _ _ _ _ _ _ _ => a
 | _ => ⟨[],[],none,[],[],none,[]⟩
noncomputable def fdB:Stmt→List Stmt
 | .FunctionDef _ _ b _ _ _ _ _ _ _ => b
 | _ => []
noncomputable def fdS:Stmt→Scope
 | .FunctionDef _ _ _ _ _ _ s _ _ _ => s
 | _ => ⟨.function,[],false,false,[]⟩
noncomputable def passFd (w:World) (r:Rows) (C cc ct:Nat) (tm:Tok):FuncData:={ name:=(⟨#[95,108,97,119,95,112,97,115,115]⟩:Str),qualname:=(⟨#[95,108,97,119,95,102,108,111,119,46,60,108,111,99,97,108,115,62,46,95,108,97,119,95,112,97,115,115]⟩:Str),params:=fdA (nthS (fnBody (KF (pr w r)) 327) 6),body:=.stmts (fdB (nthS (fnBody (KF (pr w r)) 327) 6)),scope:=fdS (nthS (fnBody (KF (pr w r)) 327) 6),globals:=3,closure:=[((⟨#[116,97,98,108,101]⟩:Str),C)],closureTuple:=.ref ct,code:=.ref cc,builtins:=0,defaults:=.none,kwdefaults:=.none,annotations:=none,pyModule:=.str (⟨#[108,97,119,95,111,99,48,51,50,55,95,48,49]⟩:Str) tm,doc:=.none }
noncomputable abbrev passO (w:World) (r:Rows) (C cc ct:Nat) (tm:Tok):Obj:=⟨.type "function",none,.func (passFd w r C cc ct tm),#[]⟩
noncomputable abbrev cdO (q:Tok) (f0 f2 f3 f4 f5 f6 f7 f8 f9 f10 f11 f12 f13 f14 f15 f16 f17 f18:Value):Obj:=⟨.type "code",none,.fields #[f0,.str (⟨#[95,108,97,119,95,102,108,111,119,46,60,108,111,99,97,108,115,62,46,95,108,97,119,95,112,97,115,115]⟩:Str) q,f2,f3,f4,f5,f6,f7,f8,f9,f10,f11,f12,f13,f14,f15,f16,f17,f18],#[]⟩
noncomputable abbrev celO (T:Nat):Obj:=⟨.type "cell",none,.cell (some (.ref (T+355))),#[]⟩
noncomputable abbrev eZ (w:World) (r:Rows) (F0 Fn cc Cl:Nat):Env:={ scope:=fdS (nthS (fnBody (KF (pr w r)) 327) 6),locals:=F0+355,globals:=3,cells:=[((⟨#[116,97,98,108,101]⟩:Str),Cl+355)],qual:=(⟨#[95,108,97,119,95,102,108,111,119,46,60,108,111,99,97,108,115,62,46,95,108,97,119,95,112,97,115,115,46,60,108,111,99,97,108,115,62,46]⟩:Str),func:=some (Fn+355),code:=.ref (cc+355),frame:=some (F0+355),builtins:=0 }
noncomputable abbrev pzCode (w:World) (r:Rows) (I F0 Fn cc Cl:Nat):Code:=.forLoop (forT (nthS (fdB (nthS (fnBody (KF (pr w r)) 327) 6)) 2)) (.ref (I+355)) (forB (nthS (fdB (nthS (fnBody (KF (pr w r)) 327) 6)) 2)) (forO (nthS (fdB (nthS (fnBody (KF (pr w r)) 327) 6)) 2)) (eZ w r F0 Fn cc Cl)
noncomputable abbrev lz4 (Dc R Bk:Nat) (g1 g2 g3 g4:Int) (q1 q2 q3 q4:Tok) (kx:Str) (tx:Tok) (l:List DictEntry):List DictEntry:=dE g1 (⟨#[99,111,117,110,116,115]⟩:Str) q1 (.ref (Dc+355)) :: dE g2 (⟨#[112,108,97,99,101]⟩:Str) q2 (.str kx tx) :: dE g3 (⟨#[114,111,119]⟩:Str) q3 (.ref (R+355)) :: dE g4 (⟨#[98,97,99,107]⟩:Str) q4 (.ref (Bk+355)) :: l
noncomputable abbrev lz1 (g5:Int) (q5:Tok) (y:Value):List DictEntry:=[dE g5 (⟨#[106]⟩:Str) q5 y]
noncomputable def pz (kp:Int) (n j:Nat):Int:=(kp - (j:Int) + (n:Int) - 1).fdiv (n:Int)
noncomputable def pzS (q:Str):List Value→Int→Nat→Nat→Int
 | [],_,_,_ => 0
 | y :: l,kp,n,j => (if sOf y = q then pz kp n j else 0) + pzS q l kp n (j+1)
theorem ifdivI_ok {X:Env0} {B:Heap→Prop} {D U:Nat} {hd:Hd} {n t:Nat} {a b:Int} {ta tb:Tok} (hy:b≠0) (hs:b.natAbs≤100000):CutOk X B D U (.builtin "int.__floordiv__" ⟨[.int a ta,.int b tb],[]⟩) hd [] [] n t Unit (fun _=>.ok (.ret (.int (a.fdiv b) t))) (fun _=>[]) (fun _=>[]) (fun _=>n) (fun _=>t+1) (fun _=>[]):=by
 have hp:Builtin.divisionGoesByPylong a b = false:=PyProof.noPylong_small (by omega)
 exact ifdiv_ok hy (by rw [hp]; exact Bool.false_ne_true)
structure PzV where
 va:Tok
 vb:Tok
 vc:Tok
 gh:Int
 gu:Tok
 gv:Value
 fe:Nat
 eb:Nat
 i:Nat
 n:Nat
 t:Nat
noncomputable abbrev A_4 (N0:Nat) (vs:List Value) (j:Nat) (kp ma mb mc:Int) (w:World) (r:Rows) (g:Array GenState) (d:Drawn) (os:OsState) (B:Heap→Prop) (D U I F0 Fn cc Cl kk Bk:Nat) (h1 h2 h3 h4:Int) (u1 u2 u3 u4:Tok) (kd:Int) (vd:Tok) (eb Dc R:Nat) (g1 g2 g3 g4:Int) (q1 q2 q3 q4:Tok) (kx:Str) (tx:Tok) (eR:Nat) (w1 w2 w3 w4:Int) (s1 s2 s3 s4:Tok) (xa xb xc xd:Value) (ed:Nat):Prop:=∀ (ka1 kb1 kc1:Int) (va1 vb1 vc1:Tok) (g51:Int) (q51:Tok) (yv1:Value) (pe1 N1 t1:Nat),N0≤N1→ka1 + pzS sa (vs.drop (j+1)) kp vs.length (j+1) = ma→kb1 + pzS sb (vs.drop (j+1)) kp vs.length (j+1) = mb→kc1 + pzS sc (vs.drop (j+1)) kp vs.length (j+1) = mc→CutOk (XX w r g d os) B D U (pzCode w r I F0 Fn cc Cl) none [(I+355,rnO (j+1:Nat) (kk:Nat)),(Bk+355,dictO (en4 h1 h2 h3 h4 u1 u2 u3 u4 (.int ka1 va1) (.int kb1 vb1) (.int kc1 vc1) (.int kd vd)) eb),(F0+355,frO (lz4 Dc R Bk g1 g2 g3 g4 q1 q2 q3 q4 kx tx (lz1 g51 q51 yv1)) pe1)] [(R+355,listO vs eR),(Dc+355,dictO (en4 w1 w2 w3 w4 s1 s2 s3 s4 xa xb xc xd) ed)] (N1+355) t1 ({v:PzV // N0≤v.n}) (fun _=>.ok .next) (fun _=>[]) (fun v=>[rnO (v.1.i:Nat) 0,dictO (en4 h1 h2 h3 h4 u1 u2 u3 u4 (.int ma v.1.va) (.int mb v.1.vb) (.int mc v.1.vc) (.int kd vd)) eb,frO (lz4 Dc R Bk g1 g2 g3 g4 q1 q2 q3 q4 kx tx (lz1 v.1.gh v.1.gu v.1.gv)) v.1.fe]) (fun v=>v.1.n+355) (fun v=>v.1.t) (fun _=>[])
noncomputable abbrev A_16 (h1 h2 h3 h4:Int) (u1 u2 u3 u4:Tok) (ma mb mc kd:Int) (vd:Tok) (eb Dc R Bk:Nat) (g1 g2 g3 g4:Int) (q1 q2 q3 q4:Tok) (kx:Str) (tx:Tok) (χ:PzV):List Obj:=[rnO (χ.i:Nat) 0,dictO (en4 h1 h2 h3 h4 u1 u2 u3 u4 (.int ma χ.va) (.int mb χ.vb) (.int mc χ.vc) (.int kd vd)) eb,frO (lz4 Dc R Bk g1 g2 g3 g4 q1 q2 q3 q4 kx tx (lz1 χ.gh χ.gu χ.gv)) χ.fe]
noncomputable abbrev A_20 (h1:Int) (u1:Tok) (ka:Int) (va:Tok) (h2:Int) (u2:Tok) (kb:Int) (vb:Tok) (h3:Int) (u3:Tok) (kc:Int) (vc:Tok) (h4:Int) (u4:Tok) (kd:Int) (vd:Tok):List DictEntry:=[dE h1 ⟨#[97]⟩ u1 (.int ka va),dE h2 ⟨#[98]⟩ u2 (.int kb vb),dE h3 ⟨#[99]⟩ u3 (.int kc vc),dE h4 ⟨#[100]⟩ u4 (.int kd vd)]
include MB hB in
theorem pz_0a {I F0 Fn cc Cl Dc R Bk N N0 t j eR eb ed pe kk:Nat} {g1 g2 g3 g4 h1 h2 h3 h4 w1 w2 w3 w4:Int} {q1 q2 q3 q4 u1 u2 u3 u4 s1 s2 s3 s4 va vb vc vd tx ty tk:Tok} {ka kb kc kd ma mb mc kp:Int} {xa xb xc xd:Value} {vs:List Value} {kx:Str} (hD:Lim D U 80) (hN:N0≤N) (hlen:vs.length≤400) (hlt:j < vs.length) (hc1:dstr (en4 w1 w2 w3 w4 s1 s2 s3 s4 xa xb xc xd) = true) (hc2:dhas (en4 w1 w2 w3 w4 s1 s2 s3 s4 xa xb xc xd) kx = true) (hc3:dlook (en4 w1 w2 w3 w4 s1 s2 s3 s4 xa xb xc xd) kx = .int kp tk) (hj:vs[j]? = some (.str ⟨#[97]⟩ ty)) (hd:vs.drop j = .str ⟨#[97]⟩ ty :: vs.drop (j+1)) (e1:ka + pzS sa (vs.drop j) kp vs.length j = ma) (e2:kb + pzS sb (vs.drop j) kp vs.length j = mb) (e3:kc + pzS sc (vs.drop j) kp vs.length j = mc) (IH:A_4 N0 vs j kp ma mb mc w r g d os B D U I F0 Fn cc Cl kk Bk h1 h2 h3 h4 u1 u2 u3 u4 kd vd eb Dc R g1 g2 g3 g4 q1 q2 q3 q4 kx tx eR w1 w2 w3 w4 s1 s2 s3 s4 xa xb xc xd ed) :
  CutOk (XX w r g d os) B D U (pzCode w r I F0 Fn cc Cl) none [(I+355,rnO (j:Nat) (kk+1:Nat)),(Bk+355,dictO (en4 h1 h2 h3 h4 u1 u2 u3 u4 (.int ka va) (.int kb vb) (.int kc vc) (.int kd vd)) eb),(F0+355,frO (lz4 Dc R Bk g1 g2 g3 g4 q1 q2 q3 q4 kx tx []) pe)] [(R+355,listO vs eR),(Dc+355,dictO (en4 w1 w2 w3 w4 s1 s2 s3 s4 xa xb xc xd) ed)] (N+355) (t) ({v:PzV // N0≤v.n}) (fun v=>.ok .next) (fun v=>[]) (fun v=>A_16 h1 h2 h3 h4 u1 u2 u3 u4 ma mb mc kd vd eb Dc R Bk g1 g2 g3 g4 q1 q2 q3 q4 kx tx v.1) (fun v=>v.1.n+355) (fun v=>v.1.t) (fun v=>[]):=by
 refine .of_q MB hB hD.lo 7 0 ?_
 intro S₀
 let P₀:Rows→Pk (XX w r g d os) B D U S₀ []:=fun x₀=>(.a [1,1,1] [I+355,I+355] 1 0 0 0 [] [] (rn_some (hd:=none) (n:=N+355) (t:=t) (I:=I+355) (i:=j) (m:=kk)) fun _=>(.a (d6 10 0x2122255555) (ix [R+355,F0+355] 9 0x111110000) 0 0 0 0 [] [0] (lget_ok (hd:=none) (n:=N+355) (t:=t+2) (k:=j) (H:=R+355) (vs:=vs) (e:=eR) (tk:=t) (x:=.str ⟨#[97]⟩ ty) hj (by omega)) fun _=>(.a [3,3,3,1,3] (ixL [Bk+355] [0,0,0,0]) 0 2 0 0 [0] [1] (dget_ok (hd:=none) (n:=N+355) (t:=t+2) (H:=Bk+355) (es:=(A_20 h1 u1 ka va h2 u2 kb vb h3 u3 kc vc h4 u4 kd vd)) (ep:=eb) (k:=⟨#[97]⟩) (tk:=ty) rfl rfl) fun _=>(.a (d6 7 0x4144455) (ix [Dc+355,F0+355] 6 0x110000) 0 0 0 0 [] [2] (dget_is (hd:=none) (n:=N+355) (t:=t+3) (H:=Dc+355) (es:=en4 w1 w2 w3 w4 s1 s2 s3 s4 xa xb xc xd) (ep:=ed) (k:=kx) (tk:=tx) (v:=.int kp tk) hc1 hc2 hc3) fun _=>(.a (d6 7 0x1500115) [F0+355,F0+355] 0 0 0 0 [] [0] (len_ok (hd:=none) (n:=N+355) (t:=t+5) (H:=R+355) (vs:=vs) (e:=eR) (by omega)) fun _=>(.a (d6 8 0x15001111) [F0+355] 0 0 0 0 [] [0] (len_ok (hd:=none) (n:=N+355) (t:=t+10) (H:=R+355) (vs:=vs) (e:=eR) (by omega)) fun _=>(.a [1] [] 0 0 0 0 [] [] (ifdivI_ok (hd:=none) (n:=N+355) (t:=t+12) (a:=kp - ↑j + ↑vs.length - 1) (b:=↑vs.length) (ta:=t+9) (tb:=t+11) (by omega) (by omega)) fun _=>(.a (d6 10 0x2122255511) (ix [R+355,F0+355] 7 0x1110000) 0 0 0 0 [] [0] (lget_ok (hd:=none) (n:=N+355) (t:=t+14) (k:=j) (H:=R+355) (vs:=vs) (e:=eR) (tk:=t) (x:=.str ⟨#[97]⟩ ty) hj (by omega)) fun _=>(.a [3,3,1,3] (ixL [Bk+355] [0,0,0]) 2 0 0 0 [] [] (dset_ok (hd:=none) (n:=N+355) (t:=t+14) (H:=Bk+355) (es:=(A_20 h1 u1 ka va h2 u2 kb vb h3 u3 kc vc h4 u4 kd vd)) (ep:=eb) (k:=⟨#[97]⟩) (tk:=ty) (v:=.int (ka + (kp - ↑j + ↑vs.length - 1).fdiv ↑vs.length) (t+13)) rfl rfl) fun _=>(.o [] [] 7 0 0 0 [] [0,2] (IH (ka1:=ka + (kp - ↑j + ↑vs.length - 1).fdiv ↑vs.length) (kb1:=kb) (kc1:=kc) (va1:=t+13) (vb1:=vb) (vc1:=vc) (g51:=kh w r ⟨#[106]⟩) (q51:=t+1) (yv1:=.int (↑j) t) (pe1:=pe+1) (N1:=N) (t1:=t+15) (by omega) (by rw [hd] at e1; simp only [pzS,sOf,show (⟨#[97]⟩:Str) = sa from rfl,ne_B,if_true,if_false,Int.zero_add] at e1; rw [← Int.add_assoc] at e1; exact e1) (by rw [hd] at e2; simp only [pzS,sOf,show (⟨#[97]⟩:Str) = sa from rfl,ne_B,if_true,if_false,Int.zero_add] at e2; exact e2) (by rw [hd] at e3; simp only [pzS,sOf,show (⟨#[97]⟩:Str) = sa from rfl,ne_B,if_true,if_false,Int.zero_add] at e3; exact e3)) fun v9=>(.e v9)))))))))))
 exact ⟨P₀,by intro x; kernel_rfl⟩
include MB hB in
theorem pz_0b {I F0 Fn cc Cl Dc R Bk N N0 t j eR eb ed pe kk:Nat} {g1 g2 g3 g4 h1 h2 h3 h4 w1 w2 w3 w4:Int} {q1 q2 q3 q4 u1 u2 u3 u4 s1 s2 s3 s4 va vb vc vd tx ty tk:Tok} {ka kb kc kd ma mb mc kp:Int} {xa xb xc xd:Value} {vs:List Value} {kx:Str} (hD:Lim D U 80) (hN:N0≤N) (hlen:vs.length≤400) (hlt:j < vs.length) (hc1:dstr (en4 w1 w2 w3 w4 s1 s2 s3 s4 xa xb xc xd) = true) (hc2:dhas (en4 w1 w2 w3 w4 s1 s2 s3 s4 xa xb xc xd) kx = true) (hc3:dlook (en4 w1 w2 w3 w4 s1 s2 s3 s4 xa xb xc xd) kx = .int kp tk) (hj:vs[j]? = some (.str ⟨#[98]⟩ ty)) (hd:vs.drop j = .str ⟨#[98]⟩ ty :: vs.drop (j+1)) (e1:ka + pzS sa (vs.drop j) kp vs.length j = ma) (e2:kb + pzS sb (vs.drop j) kp vs.length j = mb) (e3:kc + pzS sc (vs.drop j) kp vs.length j = mc) (IH:A_4 N0 vs j kp ma mb mc w r g d os B D U I F0 Fn cc Cl kk Bk h1 h2 h3 h4 u1 u2 u3 u4 kd vd eb Dc R g1 g2 g3 g4 q1 q2 q3 q4 kx tx eR w1 w2 w3 w4 s1 s2 s3 s4 xa xb xc xd ed) :
  CutOk (XX w r g d os) B D U (pzCode w r I F0 Fn cc Cl) none [(I+355,rnO (j:Nat) (kk+1:Nat)),(Bk+355,dictO (en4 h1 h2 h3 h4 u1 u2 u3 u4 (.int ka va) (.int kb vb) (.int kc vc) (.int kd vd)) eb),(F0+355,frO (lz4 Dc R Bk g1 g2 g3 g4 q1 q2 q3 q4 kx tx []) pe)] [(R+355,listO vs eR),(Dc+355,dictO (en4 w1 w2 w3 w4 s1 s2 s3 s4 xa xb xc xd) ed)] (N+355) (t) ({v:PzV // N0≤v.n}) (fun v=>.ok .next) (fun v=>[]) (fun v=>A_16 h1 h2 h3 h4 u1 u2 u3 u4 ma mb mc kd vd eb Dc R Bk g1 g2 g3 g4 q1 q2 q3 q4 kx tx v.1) (fun v=>v.1.n+355) (fun v=>v.1.t) (fun v=>[]):=by
 refine .of_q MB hB hD.lo 7 0 ?_
 intro S₀
 let P₀:Rows→Pk (XX w r g d os) B D U S₀ []:=fun x₀=>(.a [1,1,1] [I+355,I+355] 1 0 0 0 [] [] (rn_some (hd:=none) (n:=N+355) (t:=t) (I:=I+355) (i:=j) (m:=kk)) fun _=>(.a (d6 10 0x2122255555) (ix [R+355,F0+355] 9 0x111110000) 0 0 0 0 [] [0] (lget_ok (hd:=none) (n:=N+355) (t:=t+2) (k:=j) (H:=R+355) (vs:=vs) (e:=eR) (tk:=t) (x:=.str ⟨#[98]⟩ ty) hj (by omega)) fun _=>(.a [3,3,3,1,3] (ixL [Bk+355] [0,0,0,0]) 0 2 0 0 [0] [1] (dget_ok (hd:=none) (n:=N+355) (t:=t+2) (H:=Bk+355) (es:=(A_20 h1 u1 ka va h2 u2 kb vb h3 u3 kc vc h4 u4 kd vd)) (ep:=eb) (k:=⟨#[98]⟩) (tk:=ty) rfl rfl) fun _=>(.a (d6 7 0x4144455) (ix [Dc+355,F0+355] 6 0x110000) 0 0 0 0 [] [2] (dget_is (hd:=none) (n:=N+355) (t:=t+3) (H:=Dc+355) (es:=en4 w1 w2 w3 w4 s1 s2 s3 s4 xa xb xc xd) (ep:=ed) (k:=kx) (tk:=tx) (v:=.int kp tk) hc1 hc2 hc3) fun _=>(.a (d6 7 0x1500115) [F0+355,F0+355] 0 0 0 0 [] [0] (len_ok (hd:=none) (n:=N+355) (t:=t+5) (H:=R+355) (vs:=vs) (e:=eR) (by omega)) fun _=>(.a (d6 8 0x15001111) [F0+355] 0 0 0 0 [] [0] (len_ok (hd:=none) (n:=N+355) (t:=t+10) (H:=R+355) (vs:=vs) (e:=eR) (by omega)) fun _=>(.a [1] [] 0 0 0 0 [] [] (ifdivI_ok (hd:=none) (n:=N+355) (t:=t+12) (a:=kp - ↑j + ↑vs.length - 1) (b:=↑vs.length) (ta:=t+9) (tb:=t+11) (by omega) (by omega)) fun _=>(.a (d6 10 0x2122255511) (ix [R+355,F0+355] 7 0x1110000) 0 0 0 0 [] [0] (lget_ok (hd:=none) (n:=N+355) (t:=t+14) (k:=j) (H:=R+355) (vs:=vs) (e:=eR) (tk:=t) (x:=.str ⟨#[98]⟩ ty) hj (by omega)) fun _=>(.a [3,3,1,3] (ixL [Bk+355] [0,0,0]) 2 0 0 0 [] [] (dset_ok (hd:=none) (n:=N+355) (t:=t+14) (H:=Bk+355) (es:=(A_20 h1 u1 ka va h2 u2 kb vb h3 u3 kc vc h4 u4 kd vd)) (ep:=eb) (k:=⟨#[98]⟩) (tk:=ty) (v:=.int (kb + (kp - ↑j + ↑vs.length - 1).fdiv ↑vs.length) (t+13)) rfl rfl) fun _=>(.o [] [] 7 0 0 0 [] [0,2] (IH (ka1:=ka) (kb1:=kb + (kp - ↑j + ↑vs.length - 1).fdiv ↑vs.length) (kc1:=kc) (va1:=va) (vb1:=t+13) (vc1:=vc) (g51:=kh w r ⟨#[106]⟩) (q51:=t+1) (yv1:=.int (↑j) t) (pe1:=pe+1) (N1:=N) (t1:=t+15) (by omega) (by rw [hd] at e1; simp only [pzS,sOf,show (⟨#[98]⟩:Str) = sb from rfl,ne_B,if_true,if_false,Int.zero_add] at e1; exact e1) (by rw [hd] at e2; simp only [pzS,sOf,show (⟨#[98]⟩:Str) = sb from rfl,ne_B,if_true,if_false,Int.zero_add] at e2; rw [← Int.add_assoc] at e2; exact e2) (by rw [hd] at e3; simp only [pzS,sOf,show (⟨#[98]⟩:Str) = sb from rfl,ne_B,if_true,if_false,Int.zero_add] at e3; exact e3)) fun v9=>(.e v9)))))))))))
 exact ⟨P₀,by intro x; kernel_rfl⟩
include MB hB in
theorem pz_0c {I F0 Fn cc Cl Dc R Bk N N0 t j eR eb ed pe kk:Nat} {g1 g2 g3 g4 h1 h2 h3 h4 w1 w2 w3 w4:Int} {q1 q2 q3 q4 u1 u2 u3 u4 s1 s2 s3 s4 va vb vc vd tx ty tk:Tok} {ka kb kc kd ma mb mc kp:Int} {xa xb xc xd:Value} {vs:List Value} {kx:Str} (hD:Lim D U 80) (hN:N0≤N) (hlen:vs.length≤400) (hlt:j < vs.length) (hc1:dstr (en4 w1 w2 w3 w4 s1 s2 s3 s4 xa xb xc xd) = true) (hc2:dhas (en4 w1 w2 w3 w4 s1 s2 s3 s4 xa xb xc xd) kx = true) (hc3:dlook (en4 w1 w2 w3 w4 s1 s2 s3 s4 xa xb xc xd) kx = .int kp tk) (hj:vs[j]? = some (.str ⟨#[99]⟩ ty)) (hd:vs.drop j = .str ⟨#[99]⟩ ty :: vs.drop (j+1)) (e1:ka + pzS sa (vs.drop j) kp vs.length j = ma) (e2:kb + pzS sb (vs.drop j) kp vs.length j = mb) (e3:kc + pzS sc (vs.drop j) kp vs.length j = mc) (IH:A_4 N0 vs j kp ma mb mc w r g d os B D U I F0 Fn cc Cl kk Bk h1 h2 h3 h4 u1 u2 u3 u4 kd vd eb Dc R g1 g2 g3 g4 q1 q2 q3 q4 kx tx eR w1 w2 w3 w4 s1 s2 s3 s4 xa xb xc xd ed) :
  CutOk (XX w r g d os) B D U (pzCode w r I F0 Fn cc Cl) none [(I+355,rnO (j:Nat) (kk+1:Nat)),(Bk+355,dictO (en4 h1 h2 h3 h4 u1 u2 u3 u4 (.int ka va) (.int kb vb) (.int kc vc) (.int kd vd)) eb),(F0+355,frO (lz4 Dc R Bk g1 g2 g3 g4 q1 q2 q3 q4 kx tx []) pe)] [(R+355,listO vs eR),(Dc+355,dictO (en4 w1 w2 w3 w4 s1 s2 s3 s4 xa xb xc xd) ed)] (N+355) (t) ({v:PzV // N0≤v.n}) (fun v=>.ok .next) (fun v=>[]) (fun v=>A_16 h1 h2 h3 h4 u1 u2 u3 u4 ma mb mc kd vd eb Dc R Bk g1 g2 g3 g4 q1 q2 q3 q4 kx tx v.1) (fun v=>v.1.n+355) (fun v=>v.1.t) (fun v=>[]):=by
 refine .of_q MB hB hD.lo 7 0 ?_
 intro S₀
 let P₀:Rows→Pk (XX w r g d os) B D U S₀ []:=fun x₀=>(.a [1,1,1] [I+355,I+355] 1 0 0 0 [] [] (rn_some (hd:=none) (n:=N+355) (t:=t) (I:=I+355) (i:=j) (m:=kk)) fun _=>(.a (d6 10 0x2122255555) (ix [R+355,F0+355] 9 0x111110000) 0 0 0 0 [] [0] (lget_ok (hd:=none) (n:=N+355) (t:=t+2) (k:=j) (H:=R+355) (vs:=vs) (e:=eR) (tk:=t) (x:=.str ⟨#[99]⟩ ty) hj (by omega)) fun _=>(.a [3,3,3,1,3] (ixL [Bk+355] [0,0,0,0]) 0 2 0 0 [0] [1] (dget_ok (hd:=none) (n:=N+355) (t:=t+2) (H:=Bk+355) (es:=(A_20 h1 u1 ka va h2 u2 kb vb h3 u3 kc vc h4 u4 kd vd)) (ep:=eb) (k:=⟨#[99]⟩) (tk:=ty) rfl rfl) fun _=>(.a (d6 7 0x4144455) (ix [Dc+355,F0+355] 6 0x110000) 0 0 0 0 [] [2] (dget_is (hd:=none) (n:=N+355) (t:=t+3) (H:=Dc+355) (es:=en4 w1 w2 w3 w4 s1 s2 s3 s4 xa xb xc xd) (ep:=ed) (k:=kx) (tk:=tx) (v:=.int kp tk) hc1 hc2 hc3) fun _=>(.a (d6 7 0x1500115) [F0+355,F0+355] 0 0 0 0 [] [0] (len_ok (hd:=none) (n:=N+355) (t:=t+5) (H:=R+355) (vs:=vs) (e:=eR) (by omega)) fun _=>(.a (d6 8 0x15001111) [F0+355] 0 0 0 0 [] [0] (len_ok (hd:=none) (n:=N+355) (t:=t+10) (H:=R+355) (vs:=vs) (e:=eR) (by omega)) fun _=>(.a [1] [] 0 0 0 0 [] [] (ifdivI_ok (hd:=none) (n:=N+355) (t:=t+12) (a:=kp - ↑j + ↑vs.length - 1) (b:=↑vs.length) (ta:=t+9) (tb:=t+11) (by omega) (by omega)) fun _=>(.a (d6 10 0x2122255511) (ix [R+355,F0+355] 7 0x1110000) 0 0 0 0 [] [0] (lget_ok (hd:=none) (n:=N+355) (t:=t+14) (k:=j) (H:=R+355) (vs:=vs) (e:=eR) (tk:=t) (x:=.str ⟨#[99]⟩ ty) hj (by omega)) fun _=>(.a [3,3,1,3] (ixL [Bk+355] [0,0,0]) 2 0 0 0 [] [] (dset_ok (hd:=none) (n:=N+355) (t:=t+14) (H:=Bk+355) (es:=(A_20 h1 u1 ka va h2 u2 kb vb h3 u3 kc vc h4 u4 kd vd)) (ep:=eb) (k:=⟨#[99]⟩) (tk:=ty) (v:=.int (kc + (kp - ↑j + ↑vs.length - 1).fdiv ↑vs.length) (t+13)) rfl rfl) fun _=>(.o [] [] 7 0 0 0 [] [0,2] (IH (ka1:=ka) (kb1:=kb) (kc1:=kc + (kp - ↑j + ↑vs.length - 1).fdiv ↑vs.length) (va1:=va) (vb1:=vb) (vc1:=t+13) (g51:=kh w r ⟨#[106]⟩) (q51:=t+1) (yv1:=.int (↑j) t) (pe1:=pe+1) (N1:=N) (t1:=t+15) (by omega) (by rw [hd] at e1; simp only [pzS,sOf,show (⟨#[99]⟩:Str) = sc from rfl,ne_B,if_true,if_false,Int.zero_add] at e1; exact e1) (by rw [hd] at e2; simp only [pzS,sOf,show (⟨#[99]⟩:Str) = sc from rfl,ne_B,if_true,if_false,Int.zero_add] at e2; exact e2) (by rw [hd] at e3; simp only [pzS,sOf,show (⟨#[99]⟩:Str) = sc from rfl,ne_B,if_true,if_false,Int.zero_add] at e3; rw [← Int.add_assoc] at e3; exact e3)) fun v9=>(.e v9)))))))))))
 exact ⟨P₀,by intro x; kernel_rfl⟩
include MB hB in
theorem pz_1a {I F0 Fn cc Cl Dc R Bk N N0 t j eR eb ed pe kk:Nat} {g1 g2 g3 g4 g5 h1 h2 h3 h4 w1 w2 w3 w4:Int} {q1 q2 q3 q4 q5 u1 u2 u3 u4 s1 s2 s3 s4 va vb vc vd tx ty tk:Tok} {ka kb kc kd ma mb mc kp:Int} {xa xb xc xd:Value} {vs:List Value} {kx:Str} {yv:Value} (hD:Lim D U 80) (hN:N0≤N) (hlen:vs.length≤400) (hlt:j < vs.length) (hc1:dstr (en4 w1 w2 w3 w4 s1 s2 s3 s4 xa xb xc xd) = true) (hc2:dhas (en4 w1 w2 w3 w4 s1 s2 s3 s4 xa xb xc xd) kx = true) (hc3:dlook (en4 w1 w2 w3 w4 s1 s2 s3 s4 xa xb xc xd) kx = .int kp tk) (hj:vs[j]? = some (.str ⟨#[97]⟩ ty)) (hd:vs.drop j = .str ⟨#[97]⟩ ty :: vs.drop (j+1)) (e1:ka + pzS sa (vs.drop j) kp vs.length j = ma) (e2:kb + pzS sb (vs.drop j) kp vs.length j = mb) (e3:kc + pzS sc (vs.drop j) kp vs.length j = mc) (IH:A_4 N0 vs j kp ma mb mc w r g d os B D U I F0 Fn cc Cl kk Bk h1 h2 h3 h4 u1 u2 u3 u4 kd vd eb Dc R g1 g2 g3 g4 q1 q2 q3 q4 kx tx eR w1 w2 w3 w4 s1 s2 s3 s4 xa xb xc xd ed) :
  CutOk (XX w r g d os) B D U (pzCode w r I F0 Fn cc Cl) none [(I+355,rnO (j:Nat) (kk+1:Nat)),(Bk+355,dictO (en4 h1 h2 h3 h4 u1 u2 u3 u4 (.int ka va) (.int kb vb) (.int kc vc) (.int kd vd)) eb),(F0+355,frO (lz4 Dc R Bk g1 g2 g3 g4 q1 q2 q3 q4 kx tx (lz1 g5 q5 yv)) pe)] [(R+355,listO vs eR),(Dc+355,dictO (en4 w1 w2 w3 w4 s1 s2 s3 s4 xa xb xc xd) ed)] (N+355) (t) ({v:PzV // N0≤v.n}) (fun v=>.ok .next) (fun v=>[]) (fun v=>A_16 h1 h2 h3 h4 u1 u2 u3 u4 ma mb mc kd vd eb Dc R Bk g1 g2 g3 g4 q1 q2 q3 q4 kx tx v.1) (fun v=>v.1.n+355) (fun v=>v.1.t) (fun v=>[]):=by
 refine .of_q MB hB hD.lo 7 0 ?_
 intro S₀
 let P₀:Rows→Pk (XX w r g d os) B D U S₀ []:=fun x₀=>(.a [1,1,1] [I+355,I+355] 1 0 0 0 [] [] (rn_some (hd:=none) (n:=N+355) (t:=t) (I:=I+355) (i:=j) (m:=kk)) fun _=>(.a (d6 10 0x2122255555) (ix [R+355,F0+355] 9 0x111110000) 0 0 0 0 [] [0] (lget_ok (hd:=none) (n:=N+355) (t:=t+2) (k:=j) (H:=R+355) (vs:=vs) (e:=eR) (tk:=t) (x:=.str ⟨#[97]⟩ ty) hj (by omega)) fun _=>(.a [3,3,3,1,3] (ixL [Bk+355] [0,0,0,0]) 0 2 0 0 [0] [1] (dget_ok (hd:=none) (n:=N+355) (t:=t+2) (H:=Bk+355) (es:=(A_20 h1 u1 ka va h2 u2 kb vb h3 u3 kc vc h4 u4 kd vd)) (ep:=eb) (k:=⟨#[97]⟩) (tk:=ty) rfl rfl) fun _=>(.a (d6 7 0x4144455) (ix [Dc+355,F0+355] 6 0x110000) 0 0 0 0 [] [2] (dget_is (hd:=none) (n:=N+355) (t:=t+3) (H:=Dc+355) (es:=en4 w1 w2 w3 w4 s1 s2 s3 s4 xa xb xc xd) (ep:=ed) (k:=kx) (tk:=tx) (v:=.int kp tk) hc1 hc2 hc3) fun _=>(.a (d6 7 0x1500115) [F0+355,F0+355] 0 0 0 0 [] [0] (len_ok (hd:=none) (n:=N+355) (t:=t+5) (H:=R+355) (vs:=vs) (e:=eR) (by omega)) fun _=>(.a (d6 8 0x15001111) [F0+355] 0 0 0 0 [] [0] (len_ok (hd:=none) (n:=N+355) (t:=t+10) (H:=R+355) (vs:=vs) (e:=eR) (by omega)) fun _=>(.a [1] [] 0 0 0 0 [] [] (ifdivI_ok (hd:=none) (n:=N+355) (t:=t+12) (a:=kp - ↑j + ↑vs.length - 1) (b:=↑vs.length) (ta:=t+9) (tb:=t+11) (by omega) (by omega)) fun _=>(.a (d6 10 0x2122255511) (ix [R+355,F0+355] 7 0x1110000) 0 0 0 0 [] [0] (lget_ok (hd:=none) (n:=N+355) (t:=t+14) (k:=j) (H:=R+355) (vs:=vs) (e:=eR) (tk:=t) (x:=.str ⟨#[97]⟩ ty) hj (by omega)) fun _=>(.a [3,3,1,3] (ixL [Bk+355] [0,0,0]) 2 0 0 0 [] [] (dset_ok (hd:=none) (n:=N+355) (t:=t+14) (H:=Bk+355) (es:=(A_20 h1 u1 ka va h2 u2 kb vb h3 u3 kc vc h4 u4 kd vd)) (ep:=eb) (k:=⟨#[97]⟩) (tk:=ty) (v:=.int (ka + (kp - ↑j + ↑vs.length - 1).fdiv ↑vs.length) (t+13)) rfl rfl) fun _=>(.o [] [] 7 0 0 0 [] [0,2] (IH (ka1:=ka + (kp - ↑j + ↑vs.length - 1).fdiv ↑vs.length) (kb1:=kb) (kc1:=kc) (va1:=t+13) (vb1:=vb) (vc1:=vc) (g51:=g5) (q51:=q5) (yv1:=.int (↑j) t) (pe1:=pe) (N1:=N) (t1:=t+15) (by omega) (by rw [hd] at e1; simp only [pzS,sOf,show (⟨#[97]⟩:Str) = sa from rfl,ne_B,if_true,if_false,Int.zero_add] at e1; rw [← Int.add_assoc] at e1; exact e1) (by rw [hd] at e2; simp only [pzS,sOf,show (⟨#[97]⟩:Str) = sa from rfl,ne_B,if_true,if_false,Int.zero_add] at e2; exact e2) (by rw [hd] at e3; simp only [pzS,sOf,show (⟨#[97]⟩:Str) = sa from rfl,ne_B,if_true,if_false,Int.zero_add] at e3; exact e3)) fun v9=>(.e v9)))))))))))
 exact ⟨P₀,by intro x; kernel_rfl⟩
include MB hB in
theorem pz_1b {I F0 Fn cc Cl Dc R Bk N N0 t j eR eb ed pe kk:Nat} {g1 g2 g3 g4 g5 h1 h2 h3 h4 w1 w2 w3 w4:Int} {q1 q2 q3 q4 q5 u1 u2 u3 u4 s1 s2 s3 s4 va vb vc vd tx ty tk:Tok} {ka kb kc kd ma mb mc kp:Int} {xa xb xc xd:Value} {vs:List Value} {kx:Str} {yv:Value} (hD:Lim D U 80) (hN:N0≤N) (hlen:vs.length≤400) (hlt:j < vs.length) (hc1:dstr (en4 w1 w2 w3 w4 s1 s2 s3 s4 xa xb xc xd) = true) (hc2:dhas (en4 w1 w2 w3 w4 s1 s2 s3 s4 xa xb xc xd) kx = true) (hc3:dlook (en4 w1 w2 w3 w4 s1 s2 s3 s4 xa xb xc xd) kx = .int kp tk) (hj:vs[j]? = some (.str ⟨#[98]⟩ ty)) (hd:vs.drop j = .str ⟨#[98]⟩ ty :: vs.drop (j+1)) (e1:ka + pzS sa (vs.drop j) kp vs.length j = ma) (e2:kb + pzS sb (vs.drop j) kp vs.length j = mb) (e3:kc + pzS sc (vs.drop j) kp vs.length j = mc) (IH:A_4 N0 vs j kp ma mb mc w r g d os B D U I F0 Fn cc Cl kk Bk h1 h2 h3 h4 u1 u2 u3 u4 kd vd eb Dc R g1 g2 g3 g4 q1 q2 q3 q4 kx tx eR w1 w2 w3 w4 s1 s2 s3 s4 xa xb xc xd ed) :
  CutOk (XX w r g d os) B D U (pzCode w r I F0 Fn cc Cl) none [(I+355,rnO (j:Nat) (kk+1:Nat)),(Bk+355,dictO (en4 h1 h2 h3 h4 u1 u2 u3 u4 (.int ka va) (.int kb vb) (.int kc vc) (.int kd vd)) eb),(F0+355,frO (lz4 Dc R Bk g1 g2 g3 g4 q1 q2 q3 q4 kx tx (lz1 g5 q5 yv)) pe)] [(R+355,listO vs eR),(Dc+355,dictO (en4 w1 w2 w3 w4 s1 s2 s3 s4 xa xb xc xd) ed)] (N+355) (t) ({v:PzV // N0≤v.n}) (fun v=>.ok .next) (fun v=>[]) (fun v=>A_16 h1 h2 h3 h4 u1 u2 u3 u4 ma mb mc kd vd eb Dc R Bk g1 g2 g3 g4 q1 q2 q3 q4 kx tx v.1) (fun v=>v.1.n+355) (fun v=>v.1.t) (fun v=>[]):=by
 refine .of_q MB hB hD.lo 7 0 ?_
 intro S₀
 let P₀:Rows→Pk (XX w r g d os) B D U S₀ []:=fun x₀=>(.a [1,1,1] [I+355,I+355] 1 0 0 0 [] [] (rn_some (hd:=none) (n:=N+355) (t:=t) (I:=I+355) (i:=j) (m:=kk)) fun _=>(.a (d6 10 0x2122255555) (ix [R+355,F0+355] 9 0x111110000) 0 0 0 0 [] [0] (lget_ok (hd:=none) (n:=N+355) (t:=t+2) (k:=j) (H:=R+355) (vs:=vs) (e:=eR) (tk:=t) (x:=.str ⟨#[98]⟩ ty) hj (by omega)) fun _=>(.a [3,3,3,1,3] (ixL [Bk+355] [0,0,0,0]) 0 2 0 0 [0] [1] (dget_ok (hd:=none) (n:=N+355) (t:=t+2) (H:=Bk+355) (es:=(A_20 h1 u1 ka va h2 u2 kb vb h3 u3 kc vc h4 u4 kd vd)) (ep:=eb) (k:=⟨#[98]⟩) (tk:=ty) rfl rfl) fun _=>(.a (d6 7 0x4144455) (ix [Dc+355,F0+355] 6 0x110000) 0 0 0 0 [] [2] (dget_is (hd:=none) (n:=N+355) (t:=t+3) (H:=Dc+355) (es:=en4 w1 w2 w3 w4 s1 s2 s3 s4 xa xb xc xd) (ep:=ed) (k:=kx) (tk:=tx) (v:=.int kp tk) hc1 hc2 hc3) fun _=>(.a (d6 7 0x1500115) [F0+355,F0+355] 0 0 0 0 [] [0] (len_ok (hd:=none) (n:=N+355) (t:=t+5) (H:=R+355) (vs:=vs) (e:=eR) (by omega)) fun _=>(.a (d6 8 0x15001111) [F0+355] 0 0 0 0 [] [0] (len_ok (hd:=none) (n:=N+355) (t:=t+10) (H:=R+355) (vs:=vs) (e:=eR) (by omega)) fun _=>(.a [1] [] 0 0 0 0 [] [] (ifdivI_ok (hd:=none) (n:=N+355) (t:=t+12) (a:=kp - ↑j + ↑vs.length - 1) (b:=↑vs.length) (ta:=t+9) (tb:=t+11) (by omega) (by omega)) fun _=>(.a (d6 10 0x2122255511) (ix [R+355,F0+355] 7 0x1110000) 0 0 0 0 [] [0] (lget_ok (hd:=none) (n:=N+355) (t:=t+14) (k:=j) (H:=R+355) (vs:=vs) (e:=eR) (tk:=t) (x:=.str ⟨#[98]⟩ ty) hj (by omega)) fun _=>(.a [3,3,1,3] (ixL [Bk+355] [0,0,0]) 2 0 0 0 [] [] (dset_ok (hd:=none) (n:=N+355) (t:=t+14) (H:=Bk+355) (es:=(A_20 h1 u1 ka va h2 u2 kb vb h3 u3 kc vc h4 u4 kd vd)) (ep:=eb) (k:=⟨#[98]⟩) (tk:=ty) (v:=.int (kb + (kp - ↑j + ↑vs.length - 1).fdiv ↑vs.length) (t+13)) rfl rfl) fun _=>(.o [] [] 7 0 0 0 [] [0,2] (IH (ka1:=ka) (kb1:=kb + (kp - ↑j + ↑vs.length - 1).fdiv ↑vs.length) (kc1:=kc) (va1:=va) (vb1:=t+13) (vc1:=vc) (g51:=g5) (q51:=q5) (yv1:=.int (↑j) t) (pe1:=pe) (N1:=N) (t1:=t+15) (by omega) (by rw [hd] at e1; simp only [pzS,sOf,show (⟨#[98]⟩:Str) = sb from rfl,ne_B,if_true,if_false,Int.zero_add] at e1; exact e1) (by rw [hd] at e2; simp only [pzS,sOf,show (⟨#[98]⟩:Str) = sb from rfl,ne_B,if_true,if_false,Int.zero_add] at e2; rw [← Int.add_assoc] at e2; exact e2) (by rw [hd] at e3; simp only [pzS,sOf,show (⟨#[98]⟩:Str) = sb from rfl,ne_B,if_true,if_false,Int.zero_add] at e3; exact e3)) fun v9=>(.e v9)))))))))))
 exact ⟨P₀,by intro x; kernel_rfl⟩
include MB hB in
theorem pz_1c {I F0 Fn cc Cl Dc R Bk N N0 t j eR eb ed pe kk:Nat} {g1 g2 g3 g4 g5 h1 h2 h3 h4 w1 w2 w3 w4:Int} {q1 q2 q3 q4 q5 u1 u2 u3 u4 s1 s2 s3 s4 va vb vc vd tx ty tk:Tok} {ka kb kc kd ma mb mc kp:Int} {xa xb xc xd:Value} {vs:List Value} {kx:Str} {yv:Value} (hD:Lim D U 80) (hN:N0≤N) (hlen:vs.length≤400) (hlt:j < vs.length) (hc1:dstr (en4 w1 w2 w3 w4 s1 s2 s3 s4 xa xb xc xd) = true) (hc2:dhas (en4 w1 w2 w3 w4 s1 s2 s3 s4 xa xb xc xd) kx = true) (hc3:dlook (en4 w1 w2 w3 w4 s1 s2 s3 s4 xa xb xc xd) kx = .int kp tk) (hj:vs[j]? = some (.str ⟨#[99]⟩ ty)) (hd:vs.drop j = .str ⟨#[99]⟩ ty :: vs.drop (j+1)) (e1:ka + pzS sa (vs.drop j) kp vs.length j = ma) (e2:kb + pzS sb (vs.drop j) kp vs.length j = mb) (e3:kc + pzS sc (vs.drop j) kp vs.length j = mc) (IH:A_4 N0 vs j kp ma mb mc w r g d os B D U I F0 Fn cc Cl kk Bk h1 h2 h3 h4 u1 u2 u3 u4 kd vd eb Dc R g1 g2 g3 g4 q1 q2 q3 q4 kx tx eR w1 w2 w3 w4 s1 s2 s3 s4 xa xb xc xd ed) :
  CutOk (XX w r g d os) B D U (pzCode w r I F0 Fn cc Cl) none [(I+355,rnO (j:Nat) (kk+1:Nat)),(Bk+355,dictO (en4 h1 h2 h3 h4 u1 u2 u3 u4 (.int ka va) (.int kb vb) (.int kc vc) (.int kd vd)) eb),(F0+355,frO (lz4 Dc R Bk g1 g2 g3 g4 q1 q2 q3 q4 kx tx (lz1 g5 q5 yv)) pe)] [(R+355,listO vs eR),(Dc+355,dictO (en4 w1 w2 w3 w4 s1 s2 s3 s4 xa xb xc xd) ed)] (N+355) (t) ({v:PzV // N0≤v.n}) (fun v=>.ok .next) (fun v=>[]) (fun v=>A_16 h1 h2 h3 h4 u1 u2 u3 u4 ma mb mc kd vd eb Dc R Bk g1 g2 g3 g4 q1 q2 q3 q4 kx tx v.1) (fun v=>v.1.n+355) (fun v=>v.1.t) (fun v=>[]):=by
 refine .of_q MB hB hD.lo 7 0 ?_
 intro S₀
 let P₀:Rows→Pk (XX w r g d os) B D U S₀ []:=fun x₀=>(.a [1,1,1] [I+355,I+355] 1 0 0 0 [] [] (rn_some (hd:=none) (n:=N+355) (t:=t) (I:=I+355) (i:=j) (m:=kk)) fun _=>(.a (d6 10 0x2122255555) (ix [R+355,F0+355] 9 0x111110000) 0 0 0 0 [] [0] (lget_ok (hd:=none) (n:=N+355) (t:=t+2) (k:=j) (H:=R+355) (vs:=vs) (e:=eR) (tk:=t) (x:=.str ⟨#[99]⟩ ty) hj (by omega)) fun _=>(.a [3,3,3,1,3] (ixL [Bk+355] [0,0,0,0]) 0 2 0 0 [0] [1] (dget_ok (hd:=none) (n:=N+355) (t:=t+2) (H:=Bk+355) (es:=(A_20 h1 u1 ka va h2 u2 kb vb h3 u3 kc vc h4 u4 kd vd)) (ep:=eb) (k:=⟨#[99]⟩) (tk:=ty) rfl rfl) fun _=>(.a (d6 7 0x4144455) (ix [Dc+355,F0+355] 6 0x110000) 0 0 0 0 [] [2] (dget_is (hd:=none) (n:=N+355) (t:=t+3) (H:=Dc+355) (es:=en4 w1 w2 w3 w4 s1 s2 s3 s4 xa xb xc xd) (ep:=ed) (k:=kx) (tk:=tx) (v:=.int kp tk) hc1 hc2 hc3) fun _=>(.a (d6 7 0x1500115) [F0+355,F0+355] 0 0 0 0 [] [0] (len_ok (hd:=none) (n:=N+355) (t:=t+5) (H:=R+355) (vs:=vs) (e:=eR) (by omega)) fun _=>(.a (d6 8 0x15001111) [F0+355] 0 0 0 0 [] [0] (len_ok (hd:=none) (n:=N+355) (t:=t+10) (H:=R+355) (vs:=vs) (e:=eR) (by omega)) fun _=>(.a [1] [] 0 0 0 0 [] [] (ifdivI_ok (hd:=none) (n:=N+355) (t:=t+12) (a:=kp - ↑j + ↑vs.length - 1) (b:=↑vs.length) (ta:=t+9) (tb:=t+11) (by omega) (by omega)) fun _=>(.a (d6 10 0x2122255511) (ix [R+355,F0+355] 7 0x1110000) 0 0 0 0 [] [0] (lget_ok (hd:=none) (n:=N+355) (t:=t+14) (k:=j) (H:=R+355) (vs:=vs) (e:=eR) (tk:=t) (x:=.str ⟨#[99]⟩ ty) hj (by omega)) fun _=>(.a [3,3,1,3] (ixL [Bk+355] [0,0,0]) 2 0 0 0 [] [] (dset_ok (hd:=none) (n:=N+355) (t:=t+14) (H:=Bk+355) (es:=(A_20 h1 u1 ka va h2 u2 kb vb h3 u3 kc vc h4 u4 kd vd)) (ep:=eb) (k:=⟨#[99]⟩) (tk:=ty) (v:=.int (kc + (kp - ↑j + ↑vs.length - 1).fdiv ↑vs.length) (t+13)) rfl rfl) fun _=>(.o [] [] 7 0 0 0 [] [0,2] (IH (ka1:=ka) (kb1:=kb) (kc1:=kc + (kp - ↑j + ↑vs.length - 1).fdiv ↑vs.length) (va1:=va) (vb1:=vb) (vc1:=t+13) (g51:=g5) (q51:=q5) (yv1:=.int (↑j) t) (pe1:=pe) (N1:=N) (t1:=t+15) (by omega) (by rw [hd] at e1; simp only [pzS,sOf,show (⟨#[99]⟩:Str) = sc from rfl,ne_B,if_true,if_false,Int.zero_add] at e1; exact e1) (by rw [hd] at e2; simp only [pzS,sOf,show (⟨#[99]⟩:Str) = sc from rfl,ne_B,if_true,if_false,Int.zero_add] at e2; exact e2) (by rw [hd] at e3; simp only [pzS,sOf,show (⟨#[99]⟩:Str) = sc from rfl,ne_B,if_true,if_false,Int.zero_add] at e3; rw [← Int.add_assoc] at e3; exact e3)) fun v9=>(.h (r':=(.ok .next)) (l':=[((I+355),⟨(.type "range_iterator"),none,.fields ⟨[(.int (↑v9.1.i) 0),(.int 0 0),(.int 1 0)]⟩,⟨[]⟩⟩),((Bk+355),dictO [dE h1 ⟨#[97]⟩ u1 (.int ma v9.1.va),dE h2 ⟨#[98]⟩ u2 (.int mb v9.1.vb),dE h3 ⟨#[99]⟩ u3 (.int mc v9.1.vc),dE h4 ⟨#[100]⟩ u4 (.int kd vd)] eb),((F0+355),frO [dE g1 ⟨#[99,111,117,110,116,115]⟩ q1 (.ref (Dc+355)),dE g2 ⟨#[112,108,97,99,101]⟩ q2 (.str kx tx),dE g3 ⟨#[114,111,119]⟩ q3 (.ref (R+355)),dE g4 ⟨#[98,97,99,107]⟩ q4 (.ref (Bk+355)),dE v9.1.gh ⟨#[106]⟩ v9.1.gu v9.1.gv] v9.1.fe)]) (m':=(v9.1.n+355)) (k':=v9.1.t) (z':=[]) ⟨v9,rfl,rfl,rfl,rfl,rfl⟩)))))))))))
 exact ⟨P₀,by intro x; kernel_rfl⟩
include MB hB in
theorem pz_end {I F0 Fn cc Cl Dc R Bk N N0 t j eb pe:Nat} {g1 g2 g3 g4 g5 h1 h2 h3 h4:Int} {q1 q2 q3 q4 q5 u1 u2 u3 u4 va vb vc vd tx:Tok} {ka kb kc kd ma mb mc kp:Int} {vs:List Value} {kx:Str} {yv:Value} (hD:Lim D U 80) (hN:N0≤N) (hz:vs.drop j = []) (e1:ka + pzS sa (vs.drop j) kp vs.length j = ma) (e2:kb + pzS sb (vs.drop j) kp vs.length j = mb) (e3:kc + pzS sc (vs.drop j) kp vs.length j = mc) :
  CutOk (XX w r g d os) B D U (pzCode w r I F0 Fn cc Cl) none [(I+355,rnO (j:Nat) 0),(Bk+355,dictO (en4 h1 h2 h3 h4 u1 u2 u3 u4 (.int ka va) (.int kb vb) (.int kc vc) (.int kd vd)) eb),(F0+355,frO (lz4 Dc R Bk g1 g2 g3 g4 q1 q2 q3 q4 kx tx (lz1 g5 q5 yv)) pe)] [] (N+355) (t) ({v:PzV // N0≤v.n}) (fun v=>.ok .next) (fun v=>[]) (fun v=>A_16 h1 h2 h3 h4 u1 u2 u3 u4 ma mb mc kd vd eb Dc R Bk g1 g2 g3 g4 q1 q2 q3 q4 kx tx v.1) (fun v=>v.1.n+355) (fun v=>v.1.t) (fun v=>[]):=by
 refine .of_q MB hB hD.lo 28 0 ?_
 intro S₀
 let P₀:Rows→Pk (XX w r g d os) B D U S₀ []:=fun x₀=>(.a [1,1,1] [I+355,I+355] 1 0 0 0 [] [] (rn_none (n:=N+355) (t:=t) (I:=I+355) (v:=↑j)) fun _=>(.k [1,1] [N+356] (r':=(.ok .next)) (l':=[((I+355),⟨(.type "range_iterator"),none,.fields ⟨[(.int (↑j) 0),(.int 0 0),(.int 1 0)]⟩,⟨[]⟩⟩),((Bk+355),dictO (A_20 h1 u1 ka va h2 u2 kb vb h3 u3 kc vc h4 u4 kd vd) eb),((F0+355),frO [dE g1 ⟨#[99,111,117,110,116,115]⟩ q1 (.ref (Dc+355)),dE g2 ⟨#[112,108,97,99,101]⟩ q2 (.str kx tx),dE g3 ⟨#[114,111,119]⟩ q3 (.ref (R+355)),dE g4 ⟨#[98,97,99,107]⟩ q4 (.ref (Bk+355)),dE g5 ⟨#[106]⟩ q5 yv] pe)]) (m':=(N+357)) (k':=t) (z':=[]) ⟨⟨⟨va,vb,vc,g5,q5,yv,pe,eb,j,N+2,t⟩,by show N0≤N+2; omega⟩,rfl,(by try dsimp only [S₀]; rw [hz] at e1 e2 e3; simp [S₀,pzS] at e1 e2 e3; simp [S₀,setO,e1,e2,e3]),rfl,rfl,rfl⟩))
 exact ⟨P₀,by intro x; kernel_rfl⟩
include MB hB in
theorem pz_end0 {I F0 Fn cc Cl Dc R Bk N N0 t eb pe:Nat} {g1 g2 g3 g4 h1 h2 h3 h4:Int} {q1 q2 q3 q4 u1 u2 u3 u4 va vb vc vd tx:Tok} {ka kb kc kd:Int} {kx:Str} (hD:Lim D U 80) (hN:N0≤N) :
  CutOk (XX w r g d os) B D U (pzCode w r I F0 Fn cc Cl) none [(I+355,rnO 0 0),(Bk+355,dictO (en4 h1 h2 h3 h4 u1 u2 u3 u4 (.int ka va) (.int kb vb) (.int kc vc) (.int kd vd)) eb),(F0+355,frO (lz4 Dc R Bk g1 g2 g3 g4 q1 q2 q3 q4 kx tx []) pe)] [] (N+355) (t) ({v:Mx // N0≤v.n}) (fun v=>.ok .next) (fun v=>[]) (fun v=>[rnO 0 0,dictO (en4 h1 h2 h3 h4 u1 u2 u3 u4 (.int ka va) (.int kb vb) (.int kc vc) (.int kd vd)) eb,frO (lz4 Dc R Bk g1 g2 g3 g4 q1 q2 q3 q4 kx tx []) pe]) (fun v=>v.1.n+355) (fun v=>v.1.t) (fun v=>[]):=by
 refine .of_q MB hB hD.lo 28 0 ?_
 intro S₀
 let P₀:Rows→Pk (XX w r g d os) B D U S₀ []:=fun x₀=>(.a [1,1,1] [I+355,I+355] 1 0 0 0 [] [] (rn_none (n:=N+355) (t:=t) (I:=I+355) (v:=0)) fun _=>(.f [1,1] [N+356] ⟨⟨0,N+2,t⟩,by show N0≤N+2; omega⟩))
 exact ⟨P₀,by intro x; kernel_rfl⟩
section
variable {w:World} {r:Rows} {g:Array GenState} {d:Drawn} {os:OsState} {B:Heap→Prop} {D U:Nat}
theorem pz_loop1 (MB:Mono B) (hB:∀ h,B h→(KF (pr w r)).In h) (hD:Lim D U 80) {I F0 Fn cc Cl Dc R Bk N0 eR eb ed:Nat} {g1 g2 g3 g4 h1 h2 h3 h4 w1 w2 w3 w4:Int} {q1 q2 q3 q4 u1 u2 u3 u4 s1 s2 s3 s4 vd tx tk:Tok} {kd ma mb mc kp:Int} {xa xb xc xd:Value} {vs:List Value} {kx:Str} (hall:∀ v∈vs,∃ k t,v = .str k t∧(k = sa∨k = sb∨k = sc)) (hlen:vs.length≤400) (hc1:dstr (en4 w1 w2 w3 w4 s1 s2 s3 s4 xa xb xc xd) = true) (hc2:dhas (en4 w1 w2 w3 w4 s1 s2 s3 s4 xa xb xc xd) kx = true) (hc3:dlook (en4 w1 w2 w3 w4 s1 s2 s3 s4 xa xb xc xd) kx = .int kp tk) :
  ∀ (kk j:Nat),vs.length = j + kk→∀ (ka kb kc:Int) (va vb vc:Tok) (g5:Int) (q5:Tok) (yv:Value) (pe N t:Nat),N0≤N→ka + pzS sa (vs.drop (j)) kp vs.length (j) = ma→kb + pzS sb (vs.drop (j)) kp vs.length (j) = mb→kc + pzS sc (vs.drop (j)) kp vs.length (j) = mc →
  CutOk (XX w r g d os) B D U (pzCode w r I F0 Fn cc Cl) none [(I+355,rnO (j:Nat) (kk:Nat)),(Bk+355,dictO (en4 h1 h2 h3 h4 u1 u2 u3 u4 (.int ka va) (.int kb vb) (.int kc vc) (.int kd vd)) eb),(F0+355,frO (lz4 Dc R Bk g1 g2 g3 g4 q1 q2 q3 q4 kx tx (lz1 g5 q5 yv)) pe)] [(R+355,listO vs eR),(Dc+355,dictO (en4 w1 w2 w3 w4 s1 s2 s3 s4 xa xb xc xd) ed)] (N+355) (t) ({v:PzV // N0≤v.n}) (fun _=>.ok .next) (fun _=>[]) (fun v=>A_16 h1 h2 h3 h4 u1 u2 u3 u4 ma mb mc kd vd eb Dc R Bk g1 g2 g3 g4 q1 q2 q3 q4 kx tx v.1) (fun v=>v.1.n+355) (fun v=>v.1.t) (fun _=>[]):=by
 intro kk
 induction kk with
 | zero =>
  intro j hj ka kb kc va vb vc g5 q5 yv pe N t hN e1 e2 e3
  exact CutOk.wk (fun h b i=>⟨b,.nil⟩) (pz_end MB hB hD hN (List.drop_of_length_le (by omega)) e1 e2 e3)
 | succ kk ih =>
  intro j hj ka kb kc va vb vc g5 q5 yv pe N t hN e1 e2 e3
  have hlt:j < vs.length:=by omega
  have hv:vs[j]? = some vs[j]:=List.getElem?_eq_getElem hlt
  have hd:vs.drop j = vs[j] :: vs.drop (j+1):=List.drop_eq_getElem_cons hlt
  obtain ⟨k,ty,hk,hkk⟩:=hall vs[j] (List.getElem_mem hlt)
  rw [hk] at hv hd
  have IH:=fun (ka1 kb1 kc1:Int) (va1 vb1 vc1:Tok) (g51:Int) (q51:Tok) (yv1:Value) (pe1 N1 t1:Nat) => ih (j+1) (by omega) ka1 kb1 kc1 va1 vb1 vc1 g51 q51 yv1 pe1 N1 t1
  rcases hkk with rfl | rfl | rfl
  ·exact pz_1a MB hB hD hN hlen hlt hc1 hc2 hc3 hv hd e1 e2 e3 IH
  ·exact pz_1b MB hB hD hN hlen hlt hc1 hc2 hc3 hv hd e1 e2 e3 IH
  ·exact pz_1c MB hB hD hN hlen hlt hc1 hc2 hc3 hv hd e1 e2 e3 IH
theorem pz_loop0 (MB:Mono B) (hB:∀ h,B h→(KF (pr w r)).In h) (hD:Lim D U 80) {I F0 Fn cc Cl Dc R Bk N0 eR eb ed:Nat} {g1 g2 g3 g4 h1 h2 h3 h4 w1 w2 w3 w4:Int} {q1 q2 q3 q4 u1 u2 u3 u4 s1 s2 s3 s4 vd tx tk:Tok} {kd ma mb mc kp:Int} {xa xb xc xd:Value} {vs:List Value} {kx:Str} (hall:∀ v∈vs,∃ k t,v = .str k t∧(k = sa∨k = sb∨k = sc)) (hlen:vs.length≤400) (hc1:dstr (en4 w1 w2 w3 w4 s1 s2 s3 s4 xa xb xc xd) = true) (hc2:dhas (en4 w1 w2 w3 w4 s1 s2 s3 s4 xa xb xc xd) kx = true) (hc3:dlook (en4 w1 w2 w3 w4 s1 s2 s3 s4 xa xb xc xd) kx = .int kp tk) (h0:0 < vs.length) {ka kb kc:Int} {va vb vc:Tok} {pe N t:Nat} (hN:N0≤N)
  (e1:ka + pzS sa vs kp vs.length 0 = ma) (e2:kb + pzS sb vs kp vs.length 0 = mb) (e3:kc + pzS sc vs kp vs.length 0 = mc) :
  CutOk (XX w r g d os) B D U (pzCode w r I F0 Fn cc Cl) none [(I+355,rnO 0 (vs.length:Nat)),(Bk+355,dictO (en4 h1 h2 h3 h4 u1 u2 u3 u4 (.int ka va) (.int kb vb) (.int kc vc) (.int kd vd)) eb),(F0+355,frO (lz4 Dc R Bk g1 g2 g3 g4 q1 q2 q3 q4 kx tx []) pe)] [(R+355,listO vs eR),(Dc+355,dictO (en4 w1 w2 w3 w4 s1 s2 s3 s4 xa xb xc xd) ed)] (N+355) (t) ({v:PzV // N0≤v.n}) (fun _=>.ok .next) (fun _=>[]) (fun v=>A_16 h1 h2 h3 h4 u1 u2 u3 u4 ma mb mc kd vd eb Dc R Bk g1 g2 g3 g4 q1 q2 q3 q4 kx tx v.1) (fun v=>v.1.n+355) (fun v=>v.1.t) (fun _=>[]):=by
  have hlt:0 < vs.length:=h0
  obtain ⟨kk,hkk⟩:∃ kk,vs.length = kk+1:=⟨vs.length - 1,by omega⟩
  have hv:vs[0]? = some vs[0]:=List.getElem?_eq_getElem hlt
  have hd:vs.drop 0 = vs[0] :: vs.drop (0+1):=List.drop_eq_getElem_cons hlt
  obtain ⟨k,ty,hk,hkl⟩:=hall vs[0] (List.getElem_mem hlt)
  rw [hk] at hv hd
  have IH:=fun (ka1 kb1 kc1:Int) (va1 vb1 vc1:Tok) (g51:Int) (q51:Tok) (yv1:Value) (pe1 N1 t1:Nat) => pz_loop1 (g:=g) (d:=d) (os:=os) MB hB hD (I:=I) (F0:=F0) (Fn:=Fn) (cc:=cc) (Cl:=Cl) (Dc:=Dc) (R:=R) (Bk:=Bk) (N0:=N0) (eR:=eR) (eb:=eb) (ed:=ed) (g1:=g1) (g2:=g2) (g3:=g3) (g4:=g4) (h1:=h1) (h2:=h2) (h3:=h3) (h4:=h4) (w1:=w1) (w2:=w2) (w3:=w3) (w4:=w4) (q1:=q1) (q2:=q2) (q3:=q3) (q4:=q4) (u1:=u1) (u2:=u2) (u3:=u3) (u4:=u4) (s1:=s1) (s2:=s2) (s3:=s3) (s4:=s4) (vd:=vd) (tx:=tx) (tk:=tk) (kd:=kd) (ma:=ma) (mb:=mb) (mc:=mc) (kp:=kp) (xa:=xa) (xb:=xb) (xc:=xc) (xd:=xd) (vs:=vs) (kx:=kx) hall hlen hc1 hc2 hc3 kk (0+1) (by omega) ka1 kb1 kc1 va1 vb1 vc1 g51 q51 yv1 pe1 N1 t1
  have e1':ka + pzS sa (vs.drop 0) kp vs.length 0 = ma:=by simpa using e1
  have e2':kb + pzS sb (vs.drop 0) kp vs.length 0 = mb:=by simpa using e2
  have e3':kc + pzS sc (vs.drop 0) kp vs.length 0 = mc:=by simpa using e3
  rw [show (rnO 0 (vs.length:Nat)) = rnO ((0:Nat):Int) ((kk+1:Nat):Int) from by rw [hkk]; rfl]
  rcases hkl with rfl | rfl | rfl
  ·exact pz_0a MB hB hD hN hlen hlt hc1 hc2 hc3 hv hd e1' e2' e3' IH
  ·exact pz_0b MB hB hD hN hlen hlt hc1 hc2 hc3 hv hd e1' e2' e3' IH
  ·exact pz_0c MB hB hD hN hlen hlt hc1 hc2 hc3 hv hd e1' e2' e3' IH
end
structure PsV where
 A:Nat
 a:Tok
 b:Tok
 c:Tok
 d:Tok
 va:Tok
 vb:Tok
 vc:Tok
 e:Nat
 n:Nat
 t:Nat
include MB hB in
theorem pass_n {Fn cc ct Cl T dT H e Dc e1 N t:Nat} {tm q t0 tx tk:Tok} {k0 h1 h2 h3 h4 ka kb kc kd kp:Int} {u1 u2 u3 u4 wa wb wc wd:Tok} {es:List Ent} {kx:Str} {f0 f2 f3 f4 f5 f6 f7 f8 f9 f10 f11 f12 f13 f14 f15 f16 f17 f18:Value} (hD:Lim D U 100) (hp:∀ h,B h→PairsIn es h) (hes:0 < es.length∧es.length≤400) (hks:∀ x∈es,Key x.k) (hk:Arg kx) (hh:HashOk (XX w r g d os) h1 h2 h3 h4) (hc2:dhas (en4 h1 h2 h3 h4 u1 u2 u3 u4 (.int ka wa) (.int kb wb) (.int kc wc) (.int kd wd)) kx = true) (hc3:dlook (en4 h1 h2 h3 h4 u1 u2 u3 u4 (.int ka wa) (.int kb wb) (.int kc wc) (.int kd wd)) kx = .int kp tk) (h0:0 < (hits (low kx) es).length) (hall:∀ v∈(hits (low kx) es),∃ k t,v = .str k t∧(k = sa∨k = sb∨k = sc)) :
  CutOk (XX w r g d os) B D U (.call (.ref (Fn+355)) ⟨[.ref (Dc+355),.str kx tx],[]⟩) none [] [(Fn+355,passO w r (Cl+355) (cc+355) (ct+355) tm),(cc+355,cdO q f0 f2 f3 f4 f5 f6 f7 f8 f9 f10 f11 f12 f13 f14 f15 f16 f17 f18),(Cl+355,celO T),(T+355,hdrO dT),(dT+355,hdrD k0 t0 H),(H+355,listO (es.map Ent.v) e),(Dc+355,dictO (en4 h1 h2 h3 h4 u1 u2 u3 u4 (.int ka wa) (.int kb wb) (.int kc wc) (.int kd wd)) e1)] (N+355) (t) ({v:PsV // N≤v.A∧N≤v.n}) (fun v=>.ok (.ret (.ref (v.1.A+355)))) (fun v=>[(v.1.A+355,dictO (en4 h1 h2 h3 h4 v.1.a v.1.b v.1.c v.1.d (.int (ka + pzS sa (hits (low kx) es) kp (hits (low kx) es).length 0) v.1.va) (.int (kb + pzS sb (hits (low kx) es) kp (hits (low kx) es).length 0) v.1.vb) (.int (kc + pzS sc (hits (low kx) es) kp (hits (low kx) es).length 0) v.1.vc) (.int kd wd)) v.1.e)]) (fun v=>[]) (fun v=>v.1.n+355) (fun v=>v.1.t) (fun v=>[]):=by
 refine CutOk.of_pk MB hB hD.lo (by intro v p hp; simp only [List.mem_cons,List.not_mem_nil,or_false] at hp; rcases hp with rfl <;> (have hv:=v.2; dsimp only at *; omega)) (fun _=>rfl) 4 0 ?_
 k_data
 let P₀:Rows→Pk (XX w r g d os) B D U S₀ []:=fun x₀=>(.a (d6 26 0x1a80000800080008610111142) (ix [N+355,dT+355,T+355,Cl+355,cc+355,Fn+355] 13 0x5400003222210) 0 0 1 3 [] [6,8,10] (get_all_ok (es:=es) (k:=kx) (tk:=tx) (T:=T) (dT:=dT) (H:=H) (e:=e) (N:=N+1) (t:=t+2) (h1:=k0) (t1:=t0) MB1 hB1 hD.up ⟨hes.1,by omega⟩ hks (fun h b=>hp h b.1) hk) fun v0=>(.a (d6 13 0x1111111130033) (ix [v0.1.n+355,N+355] 6 0x111000) 1 0 1 4 [] [12] (dinit_ok (hd:=none) (n:=v0.1.n+356) (t:=v0.1.t+1) (H:=v0.1.n+355) (S:=Dc+355) (h1:=h1) (h2:=h2) (h3:=h3) (h4:=h4) (u1:=u1) (u2:=u2) (u3:=u3) (u4:=u4) (va:=.int ka wa) (vb:=.int kb wb) (vc:=.int kc wc) (vd:=.int kd wd) (e0:=0) (e1:=e1) hh (beq_eq_false_iff_ne.mpr (by show Dc+355≠1; omega))) fun v1=>(.a (d6 8 0x15000055) (ixL [N+355] [0,0,0]) 0 2 1 3 [0] [1] (len_ok (hd:=none) (n:=v0.1.n+356) (t:=v0.1.t+2) (H:=N+360) (vs:=hits (low kx) es) (e:=v0.1.e) (by have:=hits_len (p:=low kx) (es:=es); omega)) fun _=>(.a (d6 14 0x11111111111111) (ix [v0.1.n+356] 7 0x0) 0 1 1 3 [0] [1] (riter_ok (hd:=none) (n:=v0.1.n+357) (t:=v0.1.t+6) (R:=v0.1.n+356) (m:=(hits (low kx) es).length) (a:=v0.1.t+4) (b:=v0.1.t+3) (c:=v0.1.t+5) (by have:=hits_len (p:=low kx) (es:=es); omega)) fun _=>(.a [1] [v0.1.n+357] 21 8 1 3 [0] [1,12] (pz_loop0 (I:=v0.1.n+2) (F0:=N) (Fn:=Fn) (cc:=cc) (Cl:=Cl) (Dc:=Dc) (R:=N+5) (Bk:=v0.1.n) (N0:=N) (eR:=v0.1.e) (eb:=v1.e) (ed:=e1) (g1:=kh w r ⟨#[99,111,117,110,116,115]⟩) (g2:=kh w r ⟨#[112,108,97,99,101]⟩) (g3:=kh w r ⟨#[114,111,119]⟩) (g4:=kh w r ⟨#[98,97,99,107]⟩) (h1:=h1) (h2:=h2) (h3:=h3) (h4:=h4) (w1:=h1) (w2:=h2) (w3:=h3) (w4:=h4) (q1:=t) (q2:=t+1) (q3:=v0.1.t) (q4:=v0.1.t+1) (u1:=v1.a) (u2:=v1.b) (u3:=v1.c) (u4:=v1.d) (s1:=u1) (s2:=u2) (s3:=u3) (s4:=u4) (vd:=wd) (tx:=tx) (kd:=kd) (ma:=ka + pzS sa (hits (low kx) es) kp (hits (low kx) es).length 0) (mb:=kb + pzS sb (hits (low kx) es) kp (hits (low kx) es).length 0) (mc:=kc + pzS sc (hits (low kx) es) kp (hits (low kx) es).length 0) (kp:=kp) (xa:=.int ka wa) (xb:=.int kb wb) (xc:=.int kc wc) (xd:=.int kd wd) (vs:=hits (low kx) es) (kx:=kx) (ka:=ka) (kb:=kb) (kc:=kc) (va:=wa) (vb:=wb) (vc:=wc) (pe:=4) (N:=v0.1.n+3) (t:=v0.1.t+6) MB1 hB1 hD.up hall (by have:=hits_len (p:=low kx) (es:=es); omega) rfl hc2 hc3 h0 (by have:=v0.2; omega) rfl rfl rfl) fun v4=>(.f [9] [N+355] ⟨⟨v0.1.n,v1.a,v1.b,v1.c,v1.d,v4.1.va,v4.1.vb,v4.1.vc,v1.e,v4.1.n,v4.1.t⟩,by have a0:=v0.2; have a4:=v4.2; exact ⟨by show N≤v0.1.n; omega,by show N≤v4.1.n; omega⟩⟩))))))
 exact ⟨P₀,by intro ⟨x1,x2,x3,x4⟩; cases x2 <;> kernel_rfl⟩
include MB hB in
theorem pz_end0h (hD:Lim D U 80) {I F0 Fn cc Cl Dc R Bk N N0 t m eb pe:Nat} {g1 g2 g3 g4 h1 h2 h3 h4:Int} {q1 q2 q3 q4 u1 u2 u3 u4 va vb vc vd tx:Tok} {ka kb kc kd:Int} {kx:Str} (hN:N0≤N) (hm:m = 0) :
  CutOk (XX w r g d os) B D U (pzCode w r I F0 Fn cc Cl) none [(I+355,rnO 0 (m:Nat)),(Bk+355,dictO (en4 h1 h2 h3 h4 u1 u2 u3 u4 (.int ka va) (.int kb vb) (.int kc vc) (.int kd vd)) eb),(F0+355,frO (lz4 Dc R Bk g1 g2 g3 g4 q1 q2 q3 q4 kx tx []) pe)] [] (N+355) (t) ({v:Mx // N0≤v.n}) (fun _=>.ok .next) (fun _=>[]) (fun v=>[rnO 0 0,dictO (en4 h1 h2 h3 h4 u1 u2 u3 u4 (.int ka va) (.int kb vb) (.int kc vc) (.int kd vd)) eb,frO (lz4 Dc R Bk g1 g2 g3 g4 q1 q2 q3 q4 kx tx []) pe]) (fun v=>v.1.n+355) (fun v=>v.1.t) (fun _=>[]):=by
 subst hm
 exact pz_end0 MB hB hD hN
include MB hB in
theorem pass_e {Fn cc ct Cl T dT H e Dc e1 N t:Nat} {tm q t0 tx tk:Tok} {k0 h1 h2 h3 h4 ka kb kc kd kp:Int} {u1 u2 u3 u4 wa wb wc wd:Tok} {es:List Ent} {kx:Str} {f0 f2 f3 f4 f5 f6 f7 f8 f9 f10 f11 f12 f13 f14 f15 f16 f17 f18:Value} (hD:Lim D U 100) (hp:∀ h,B h→PairsIn es h) (hes:0 < es.length∧es.length≤400) (hks:∀ x∈es,Key x.k) (hk:Arg kx) (hh:HashOk (XX w r g d os) h1 h2 h3 h4) (hc2:dhas (en4 h1 h2 h3 h4 u1 u2 u3 u4 (.int ka wa) (.int kb wb) (.int kc wc) (.int kd wd)) kx = true) (hc3:dlook (en4 h1 h2 h3 h4 u1 u2 u3 u4 (.int ka wa) (.int kb wb) (.int kc wc) (.int kd wd)) kx = .int kp tk) (h0:(hits (low kx) es) = []) :
  CutOk (XX w r g d os) B D U (.call (.ref (Fn+355)) ⟨[.ref (Dc+355),.str kx tx],[]⟩) none [] [(Fn+355,passO w r (Cl+355) (cc+355) (ct+355) tm),(cc+355,cdO q f0 f2 f3 f4 f5 f6 f7 f8 f9 f10 f11 f12 f13 f14 f15 f16 f17 f18),(Cl+355,celO T),(T+355,hdrO dT),(dT+355,hdrD k0 t0 H),(H+355,listO (es.map Ent.v) e),(Dc+355,dictO (en4 h1 h2 h3 h4 u1 u2 u3 u4 (.int ka wa) (.int kb wb) (.int kc wc) (.int kd wd)) e1)] (N+355) (t) ({v:PsV // N≤v.A∧N≤v.n}) (fun v=>.ok (.ret (.ref (v.1.A+355)))) (fun v=>[(v.1.A+355,dictO (en4 h1 h2 h3 h4 v.1.a v.1.b v.1.c v.1.d (.int ka v.1.va) (.int kb v.1.vb) (.int kc v.1.vc) (.int kd wd)) v.1.e)]) (fun v=>[]) (fun v=>v.1.n+355) (fun v=>v.1.t) (fun v=>[]):=by
 refine CutOk.of_pk MB hB hD.lo (by intro v p hp; simp only [List.mem_cons,List.not_mem_nil,or_false] at hp; rcases hp with rfl <;> (have hv:=v.2; dsimp only at *; omega)) (fun _=>rfl) 4 0 ?_
 k_data
 let P₀:Rows→Pk (XX w r g d os) B D U S₀ []:=fun x₀=>(.a (d6 26 0x1a80000800080008610111142) (ix [N+355,dT+355,T+355,Cl+355,cc+355,Fn+355] 13 0x5400003222210) 0 0 1 3 [] [6,8,10] (get_all_ok (es:=es) (k:=kx) (tk:=tx) (T:=T) (dT:=dT) (H:=H) (e:=e) (N:=N+1) (t:=t+2) (h1:=k0) (t1:=t0) MB1 hB1 hD.up ⟨hes.1,by omega⟩ hks (fun h b=>hp h b.1) hk) fun v0=>(.a (d6 13 0x1111111130033) (ix [v0.1.n+355,N+355] 6 0x111000) 1 0 1 4 [] [12] (dinit_ok (hd:=none) (n:=v0.1.n+356) (t:=v0.1.t+1) (H:=v0.1.n+355) (S:=Dc+355) (h1:=h1) (h2:=h2) (h3:=h3) (h4:=h4) (u1:=u1) (u2:=u2) (u3:=u3) (u4:=u4) (va:=.int ka wa) (vb:=.int kb wb) (vc:=.int kc wc) (vd:=.int kd wd) (e0:=0) (e1:=e1) hh (beq_eq_false_iff_ne.mpr (by show Dc+355≠1; omega))) fun v1=>(.a (d6 8 0x15000055) (ixL [N+355] [0,0,0]) 0 2 1 3 [0] [1] (len_ok (hd:=none) (n:=v0.1.n+356) (t:=v0.1.t+2) (H:=N+360) (vs:=hits (low kx) es) (e:=v0.1.e) (by have:=hits_len (p:=low kx) (es:=es); omega)) fun _=>(.a (d6 14 0x11111111111111) (ix [v0.1.n+356] 7 0x0) 0 1 1 3 [0] [1] (riter_ok (hd:=none) (n:=v0.1.n+357) (t:=v0.1.t+6) (R:=v0.1.n+356) (m:=(hits (low kx) es).length) (a:=v0.1.t+4) (b:=v0.1.t+3) (c:=v0.1.t+5) (by have:=hits_len (p:=low kx) (es:=es); omega)) fun _=>(.a [1] [v0.1.n+357] 21 0 1 3 [] [] (pz_end0h (I:=v0.1.n+2) (F0:=N) (Fn:=Fn) (cc:=cc) (Cl:=Cl) (Dc:=Dc) (R:=N+5) (Bk:=v0.1.n) (N:=v0.1.n+3) (N0:=N) (t:=v0.1.t+6) (m:=(hits (low kx) es).length) (eb:=v1.e) (pe:=4) (g1:=kh w r ⟨#[99,111,117,110,116,115]⟩) (g2:=kh w r ⟨#[112,108,97,99,101]⟩) (g3:=kh w r ⟨#[114,111,119]⟩) (g4:=kh w r ⟨#[98,97,99,107]⟩) (h1:=h1) (h2:=h2) (h3:=h3) (h4:=h4) (q1:=t) (q2:=t+1) (q3:=v0.1.t) (q4:=v0.1.t+1) (u1:=v1.a) (u2:=v1.b) (u3:=v1.c) (u4:=v1.d) (va:=wa) (vb:=wb) (vc:=wc) (vd:=wd) (tx:=tx) (ka:=ka) (kb:=kb) (kc:=kc) (kd:=kd) (kx:=kx) MB1 hB1 hD.up (by have:=v0.2; omega) (by rw [h0]; rfl)) fun v4=>(.f [9] [N+355] ⟨⟨v0.1.n,v1.a,v1.b,v1.c,v1.d,wa,wb,wc,v1.e,v4.1.n,v4.1.t⟩,by have a0:=v0.2; have a4:=v4.2; exact ⟨by show N≤v0.1.n; omega,by show N≤v4.1.n; omega⟩⟩))))))
 exact ⟨P₀,by intro ⟨x1,x2,x3,x4⟩; cases x2 <;> kernel_rfl⟩
theorem arg_sa:Arg sa:=.inl rfl
theorem arg_sb:Arg sb:=by unfold Arg Key; simp
theorem arg_sc:Arg sc:=by unfold Arg Key; simp
theorem arg_sd:Arg sd:=by unfold Arg Key; simp
include MB hB in
theorem red_ok {Fn cc ct Cl T dT H e Dc e1 O eo N t:Nat} {tm q t0 z0 z1 z2 z3:Tok} {k0 h1 h2 h3 h4 ka kb kc kd:Int} {u1 u2 u3 u4 wa wb wc wd:Tok} {es:List Ent} {f0 f2 f3 f4 f5 f6 f7 f8 f9 f10 f11 f12 f13 f14 f15 f16 f17 f18:Value} (hD:Lim D U 110) (hp:∀ h,B h→PairsIn es h) (hes:0 < es.length∧es.length≤400) (hks:∀ x∈es,Key x.k) (hh:HashOk (XX w r g d os) h1 h2 h3 h4) (ia:hits sa es = []) (jb:0 < (hits sb es).length) (gb:∀ v∈hits sb es,∃ k t,v = .str k t∧(k = sa∨k = sb∨k = sc)) (jc:0 < (hits sc es).length) (gc:∀ v∈hits sc es,∃ k t,v = .str k t∧(k = sa∨k = sb∨k = sc)) (jd:0 < (hits sd es).length) (gd:∀ v∈hits sd es,∃ k t,v = .str k t∧(k = sa∨k = sb∨k = sc)) :
  CutOk (XX w r g d os) B D U (.call (.ref 195) ⟨[.ref (Fn+355),.ref (O+355),.ref (Dc+355)],[]⟩) none [] [(Fn+355,passO w r (Cl+355) (cc+355) (ct+355) tm),(cc+355,cdO q f0 f2 f3 f4 f5 f6 f7 f8 f9 f10 f11 f12 f13 f14 f15 f16 f17 f18),(Cl+355,celO T),(T+355,hdrO dT),(dT+355,hdrD k0 t0 H),(H+355,listO (es.map Ent.v) e),(Dc+355,dictO (en4 h1 h2 h3 h4 u1 u2 u3 u4 (.int ka wa) (.int kb wb) (.int kc wc) (.int kd wd)) e1),(O+355,listO [.str ⟨#[100]⟩ z0,.str ⟨#[99]⟩ z1,.str ⟨#[98]⟩ z2,.str ⟨#[97]⟩ z3] eo)] (N+355) (t) ({v:PsV // N≤v.A∧N≤v.n}) (fun v=>.ok (.ret (.ref (v.1.A+355)))) (fun v=>[(v.1.A+355,dictO (en4 h1 h2 h3 h4 v.1.a v.1.b v.1.c v.1.d (.int (((ka + pzS sa (hits sd es) kd (hits sd es).length 0) + pzS sa (hits sc es) (kc + pzS sc (hits sd es) kd (hits sd es).length 0) (hits sc es).length 0) + pzS sa (hits sb es) ((kb + pzS sb (hits sd es) kd (hits sd es).length 0) + pzS sb (hits sc es) (kc + pzS sc (hits sd es) kd (hits sd es).length 0) (hits sc es).length 0) (hits sb es).length 0) v.1.va) (.int (((kb + pzS sb (hits sd es) kd (hits sd es).length 0) + pzS sb (hits sc es) (kc + pzS sc (hits sd es) kd (hits sd es).length 0) (hits sc es).length 0) + pzS sb (hits sb es) ((kb + pzS sb (hits sd es) kd (hits sd es).length 0) + pzS sb (hits sc es) (kc + pzS sc (hits sd es) kd (hits sd es).length 0) (hits sc es).length 0) (hits sb es).length 0) v.1.vb) (.int (((kc + pzS sc (hits sd es) kd (hits sd es).length 0) + pzS sc (hits sc es) (kc + pzS sc (hits sd es) kd (hits sd es).length 0) (hits sc es).length 0) + pzS sc (hits sb es) ((kb + pzS sb (hits sd es) kd (hits sd es).length 0) + pzS sb (hits sc es) (kc + pzS sc (hits sd es) kd (hits sd es).length 0) (hits sc es).length 0) (hits sb es).length 0) v.1.vc) (.int kd wd)) v.1.e)]) (fun v=>[]) (fun v=>v.1.n+355) (fun v=>v.1.t) (fun v=>[]):=by
 refine CutOk.of_pk MB hB hD.lo (by intro v p hp; simp only [List.mem_cons,List.not_mem_nil,or_false] at hp; rcases hp with rfl <;> (have hv:=v.2; dsimp only at *; omega)) (fun _=>rfl) 4 0 ?_
 k_data
 let P₀:Rows→Pk (XX w r g d os) B D U S₀ []:=fun x₀=>(.a (d8 54 0x203030303030101100101010101010101010101010103030303000e0003030301011001101001010100000100010101010101000000) (ix [Fn+355,N+355,N+356,O+355,Dc+355] 36 0x111111133321114111122222222322111110) 0 0 1 3 [] (d6 7 0xca86420) (pass_n (Fn:=Fn) (cc:=cc) (ct:=ct) (Cl:=Cl) (T:=T) (dT:=dT) (H:=H) (e:=e) (Dc:=Dc) (e1:=e1) (N:=N+2) (t:=t+6) (tm:=tm) (q:=q) (t0:=t0) (tx:=z0) (tk:=wd) (k0:=k0) (h1:=h1) (h2:=h2) (h3:=h3) (h4:=h4) (ka:=ka) (kb:=kb) (kc:=kc) (kd:=kd) (kp:=kd) (u1:=u1) (u2:=u2) (u3:=u3) (u4:=u4) (wa:=wa) (wb:=wb) (wc:=wc) (wd:=wd) (es:=es) (kx:=⟨#[100]⟩) (f0:=f0) (f2:=f2) (f3:=f3) (f4:=f4) (f5:=f5) (f6:=f6) (f7:=f7) (f8:=f8) (f9:=f9) (f10:=f10) (f11:=f11) (f12:=f12) (f13:=f13) (f14:=f14) (f15:=f15) (f16:=f16) (f17:=f17) (f18:=f18) MB1 hB1 hD.up (fun h b=>hp h b.1) hes hks arg_sd hh rfl rfl jd gd) fun v0=>(.a (d8 18 0x20505050505030310030301030103010505) (ix [Fn+355,N+355,N+356,O+355] 15 0x112222322111110) 0 1 1 3 [6] (d6 7 0x1a86420) (pass_n (Fn:=Fn) (cc:=cc) (ct:=ct) (Cl:=Cl) (T:=T) (dT:=dT) (H:=H) (e:=e) (Dc:=v0.1.A) (e1:=v0.1.e) (N:=v0.1.n) (t:=v0.1.t+2) (tm:=tm) (q:=q) (t0:=t0) (tx:=z1) (tk:=v0.1.vc) (k0:=k0) (h1:=h1) (h2:=h2) (h3:=h3) (h4:=h4) (ka:=ka + pzS sa (hits (low ⟨#[100]⟩) es) kd (hits (low ⟨#[100]⟩) es).length 0) (kb:=kb + pzS sb (hits (low ⟨#[100]⟩) es) kd (hits (low ⟨#[100]⟩) es).length 0) (kc:=kc + pzS sc (hits (low ⟨#[100]⟩) es) kd (hits (low ⟨#[100]⟩) es).length 0) (kd:=kd) (kp:=kc + pzS sc (hits (low ⟨#[100]⟩) es) kd (hits (low ⟨#[100]⟩) es).length 0) (u1:=v0.1.a) (u2:=v0.1.b) (u3:=v0.1.c) (u4:=v0.1.d) (wa:=v0.1.va) (wb:=v0.1.vb) (wc:=v0.1.vc) (wd:=wd) (es:=es) (kx:=⟨#[99]⟩) (f0:=f0) (f2:=f2) (f3:=f3) (f4:=f4) (f5:=f5) (f6:=f6) (f7:=f7) (f8:=f8) (f9:=f9) (f10:=f10) (f11:=f11) (f12:=f12) (f13:=f13) (f14:=f14) (f15:=f15) (f16:=f16) (f17:=f17) (f18:=f18) MB1 hB1 hD.up (fun h b=>hp h b.1) hes hks arg_sc hh rfl rfl jc gc) fun v1=>(.a (d8 18 0x20707070707050510050501050105010707) (ix [Fn+355,N+355,N+356,O+355] 15 0x112222322111110) 0 1 1 3 [6] (d6 7 0x1a86420) (pass_n (Fn:=Fn) (cc:=cc) (ct:=ct) (Cl:=Cl) (T:=T) (dT:=dT) (H:=H) (e:=e) (Dc:=v1.1.A) (e1:=v1.1.e) (N:=v1.1.n) (t:=v1.1.t+2) (tm:=tm) (q:=q) (t0:=t0) (tx:=z2) (tk:=v1.1.vb) (k0:=k0) (h1:=h1) (h2:=h2) (h3:=h3) (h4:=h4) (ka:=ka + pzS sa (hits (low ⟨#[100]⟩) es) kd (hits (low ⟨#[100]⟩) es).length 0 + pzS sa (hits (low ⟨#[99]⟩) es) (kc + pzS sc (hits (low ⟨#[100]⟩) es) kd (hits (low ⟨#[100]⟩) es).length 0) (hits (low ⟨#[99]⟩) es).length 0) (kb:=kb + pzS sb (hits (low ⟨#[100]⟩) es) kd (hits (low ⟨#[100]⟩) es).length 0 + pzS sb (hits (low ⟨#[99]⟩) es) (kc + pzS sc (hits (low ⟨#[100]⟩) es) kd (hits (low ⟨#[100]⟩) es).length 0) (hits (low ⟨#[99]⟩) es).length 0) (kc:=kc + pzS sc (hits (low ⟨#[100]⟩) es) kd (hits (low ⟨#[100]⟩) es).length 0 + pzS sc (hits (low ⟨#[99]⟩) es) (kc + pzS sc (hits (low ⟨#[100]⟩) es) kd (hits (low ⟨#[100]⟩) es).length 0) (hits (low ⟨#[99]⟩) es).length 0) (kd:=kd) (kp:=kb + pzS sb (hits (low ⟨#[100]⟩) es) kd (hits (low ⟨#[100]⟩) es).length 0 + pzS sb (hits (low ⟨#[99]⟩) es) (kc + pzS sc (hits (low ⟨#[100]⟩) es) kd (hits (low ⟨#[100]⟩) es).length 0) (hits (low ⟨#[99]⟩) es).length 0) (u1:=v1.1.a) (u2:=v1.1.b) (u3:=v1.1.c) (u4:=v1.1.d) (wa:=v1.1.va) (wb:=v1.1.vb) (wc:=v1.1.vc) (wd:=wd) (es:=es) (kx:=⟨#[98]⟩) (f0:=f0) (f2:=f2) (f3:=f3) (f4:=f4) (f5:=f5) (f6:=f6) (f7:=f7) (f8:=f8) (f9:=f9) (f10:=f10) (f11:=f11) (f12:=f12) (f13:=f13) (f14:=f14) (f15:=f15) (f16:=f16) (f17:=f17) (f18:=f18) MB1 hB1 hD.up (fun h b=>hp h b.1) hes hks arg_sb hh rfl rfl jb gb) fun v2=>(.a (d8 18 0x20909090909070710070701070107010909) (ix [Fn+355,N+355,N+356,O+355] 15 0x112222322111110) 0 1 1 3 [6] (d6 7 0x1a86420) (pass_e (Fn:=Fn) (cc:=cc) (ct:=ct) (Cl:=Cl) (T:=T) (dT:=dT) (H:=H) (e:=e) (Dc:=v2.1.A) (e1:=v2.1.e) (N:=v2.1.n) (t:=v2.1.t+2) (tm:=tm) (q:=q) (t0:=t0) (tx:=z3) (k0:=k0) (h1:=h1) (h2:=h2) (h3:=h3) (h4:=h4) (ka:=ka + pzS sa (hits (low ⟨#[100]⟩) es) kd (hits (low ⟨#[100]⟩) es).length 0 + pzS sa (hits (low ⟨#[99]⟩) es) (kc + pzS sc (hits (low ⟨#[100]⟩) es) kd (hits (low ⟨#[100]⟩) es).length 0) (hits (low ⟨#[99]⟩) es).length 0 + pzS sa (hits (low ⟨#[98]⟩) es) (kb + pzS sb (hits (low ⟨#[100]⟩) es) kd (hits (low ⟨#[100]⟩) es).length 0 + pzS sb (hits (low ⟨#[99]⟩) es) (kc + pzS sc (hits (low ⟨#[100]⟩) es) kd (hits (low ⟨#[100]⟩) es).length 0) (hits (low ⟨#[99]⟩) es).length 0) (hits (low ⟨#[98]⟩) es).length 0) (kb:=kb + pzS sb (hits (low ⟨#[100]⟩) es) kd (hits (low ⟨#[100]⟩) es).length 0 + pzS sb (hits (low ⟨#[99]⟩) es) (kc + pzS sc (hits (low ⟨#[100]⟩) es) kd (hits (low ⟨#[100]⟩) es).length 0) (hits (low ⟨#[99]⟩) es).length 0 + pzS sb (hits (low ⟨#[98]⟩) es) (kb + pzS sb (hits (low ⟨#[100]⟩) es) kd (hits (low ⟨#[100]⟩) es).length 0 + pzS sb (hits (low ⟨#[99]⟩) es) (kc + pzS sc (hits (low ⟨#[100]⟩) es) kd (hits (low ⟨#[100]⟩) es).length 0) (hits (low ⟨#[99]⟩) es).length 0) (hits (low ⟨#[98]⟩) es).length 0) (kc:=kc + pzS sc (hits (low ⟨#[100]⟩) es) kd (hits (low ⟨#[100]⟩) es).length 0 + pzS sc (hits (low ⟨#[99]⟩) es) (kc + pzS sc (hits (low ⟨#[100]⟩) es) kd (hits (low ⟨#[100]⟩) es).length 0) (hits (low ⟨#[99]⟩) es).length 0 + pzS sc (hits (low ⟨#[98]⟩) es) (kb + pzS sb (hits (low ⟨#[100]⟩) es) kd (hits (low ⟨#[100]⟩) es).length 0 + pzS sb (hits (low ⟨#[99]⟩) es) (kc + pzS sc (hits (low ⟨#[100]⟩) es) kd (hits (low ⟨#[100]⟩) es).length 0) (hits (low ⟨#[99]⟩) es).length 0) (hits (low ⟨#[98]⟩) es).length 0) (kd:=kd) (u1:=v2.1.a) (u2:=v2.1.b) (u3:=v2.1.c) (u4:=v2.1.d) (wa:=v2.1.va) (wb:=v2.1.vb) (wc:=v2.1.vc) (wd:=wd) (es:=es) (kx:=⟨#[97]⟩) (f0:=f0) (f2:=f2) (f3:=f3) (f4:=f4) (f5:=f5) (f6:=f6) (f7:=f7) (f8:=f8) (f9:=f9) (f10:=f10) (f11:=f11) (f12:=f12) (f13:=f13) (f14:=f14) (f15:=f15) (f16:=f16) (f17:=f17) (f18:=f18) MB1 hB1 hD.up (fun h b=>hp h b.1) hes hks arg_sa hh rfl rfl ia) fun v3=>(.f (d8 15 0xf0101090910090901090109010b0b) (ix [N+355,v3.1.n+356,N+356,O+355] 11 0x222232210) ⟨⟨v3.1.A,v3.1.a,v3.1.b,v3.1.c,v3.1.d,v3.1.va,v3.1.vb,v3.1.vc,v3.1.e,(v3.1.n)+2,(v3.1.t+1)⟩,by have a0:=v0.2; have a1:=v1.2; have a2:=v2.2; have a3:=v3.2; exact ⟨by show N≤v3.1.A; omega,by show N≤(v3.1.n)+2; omega⟩⟩)))))
 exact ⟨P₀,by intro ⟨x1,x2,x3,x4⟩; cases x2 <;> kernel_rfl⟩
theorem turned_nil (k:Nat):turned k [] = []:=by unfold turned; simp
theorem turned_zero (l:List Value):turned 0 l = l:=by unfold turned; simp
theorem turned_length (k:Nat) (l:List Value):(turned k l).length = l.length:=by
 unfold turned
 rw [List.length_append,List.length_drop,List.length_take]
 rcases Nat.eq_zero_or_pos l.length with h | h
 ·rw [h]; simp
 ·rw [Nat.max_eq_right h]
  have:=Nat.mod_lt k h
  omega
theorem turned_next {k:Nat} {l:List Value} {y:Value} {rest:List Value} (h:turned k l = y :: rest):turned (k+1) l = rest++[y]∧l[k % l.length]? = some y:=by
 have hl:0 < l.length:=by
  rw [← turned_length k l,h]; simp
 unfold turned at h ⊢
 rw [Nat.max_eq_right hl] at h ⊢
 have hm:=Nat.mod_lt k hl
 generalize hk:k % l.length = m at h hm ⊢
 rw [List.drop_eq_getElem_cons hm] at h
 injection h with h1 h2
 have hy:l[m]? = some y:=by rw [← h1]; exact List.getElem?_eq_getElem hm
 refine ⟨?_,hy⟩
 have ht:l.take (m+1) = l.take m++[y]:=by rw [List.take_add_one,hy]; rfl
 have hr:rest++[y] = l.drop (m+1)++l.take (m+1):=by have h2':l.drop (m+1)++l.take m = rest:=h2; rw [ht,← List.append_assoc,h2']
 rw [hr]
 have hmod:(k+1) % l.length = if m+1 = l.length then 0 else m+1:=by
  have e:k+1 = l.length * (k / l.length) + (m+1):=by
   have:=Nat.div_add_mod k l.length
   omega
  rw [e,Nat.mul_add_mod]
  split
  ·rename_i q; rw [q,Nat.mod_self]
  ·exact Nat.mod_eq_of_lt (by omega)
 rw [hmod]
 split
 ·rename_i q
  rw [q]
  simp
 ·rfl
noncomputable def at01 (l:List Value) (q:Str) (n:Nat):Nat:=match l[n % l.length]? with
 | some v => if sOf v = q then 1 else 0
 | none => 0
noncomputable def cn (l:List Value) (q:Str):Nat→Nat
 | 0 => 0
 | n+1 => cn l q n + at01 l q n
theorem cn_nil (q:Str):∀ n,cn [] q n = 0
 | 0 => rfl
 | n+1 => by rw [cn,cn_nil q n]; simp [at01]
noncomputable def one (p q:Str):Nat:=if q = p then 1 else 0
noncomputable def cnt (ps:List Str) (q:Str):Nat:=(ps.filter fun p=>decide (p = q)).length
theorem cnt_cons (p:Str) (ps:List Str) (q:Str):cnt (p :: ps) q = one p q + cnt ps q:=by
 unfold cnt one
 by_cases h:p = q
 ·subst h; simp; omega
 ·simp [h,Ne.symm h]
structure Eqv (k:Cnt) (f:Str→Nat):Prop where
 a:k.a = f sa
 b:k.b = f sb
 c:k.c = f sc
 d:k.d = f sd
theorem Eqv.inc {k:Cnt} {f:Str→Nat} (h:Eqv k f) {p:Str} (hp:Let p):Eqv (k.inc p) (fun q=>f q + one p q):=by
 obtain ⟨h1,h2,h3,h4⟩:=h
 rcases hp with rfl | rfl | rfl | rfl <;> constructor <;> simp [Cnt.inc,one,show ¬ (sb = sa) from by decide,show ¬ (sc = sa) from by decide,show ¬ (sd = sa) from by decide,show ¬ (sc = sb) from by decide,show ¬ (sd = sb) from by decide,show ¬ (sd = sc) from by decide,show ¬ (sa = sb) from by decide,show ¬ (sa = sc) from by decide,show ¬ (sa = sd) from by decide,show ¬ (sb = sc) from by decide,show ¬ (sb = sd) from by decide,show ¬ (sc = sd) from by decide,h1,h2,h3,h4]
noncomputable def tot (es0:List Ent) (f:Str→Nat) (q:Str):Nat:=cn (hits sa es0) q (f sa) + cn (hits sb es0) q (f sb) + cn (hits sc es0) q (f sc) + cn (hits sd es0) q (f sd)
structure Inv (es0:List Ent) (s:Str→Nat) (es:List Ent) (f pend:Str→Nat):Prop where
 row:∀ q,Let q→hits q es = turned (f q) (hits q es0)
 sum:∀ q,Let q→f q + pend q = s q + tot es0 f q
theorem tot_inc {es0:List Ent} {f:Str→Nat} {p q:Str} (hp:Let p):tot es0 (fun r=>f r + one p r) q = tot es0 f q + at01 (hits p es0) q (f p):=by
 have n1:¬ sb = sa:=by decide
 have n2:¬ sc = sa:=by decide
 have n3:¬ sd = sa:=by decide
 have n4:¬ sc = sb:=by decide
 have n5:¬ sd = sb:=by decide
 have n6:¬ sd = sc:=by decide
 rcases hp with rfl | rfl | rfl | rfl <;> simp only [tot,one,if_true,n1,n2,n3,n4,n5,n6,Ne.symm n1,Ne.symm n2,Ne.symm n3,Ne.symm n4,Ne.symm n5,Ne.symm n6,if_false,Nat.add_zero,cn] <;> omega
theorem lowlet {p:Str} (hp:Let p):low p = p:=by
 rcases hp with rfl | rfl | rfl | rfl <;> simp [low] <;> decide
theorem let_ne {p:Str} (hp:Let p):p≠sE:=by
 rcases hp with rfl | rfl | rfl | rfl <;> decide
theorem hits_step {es news:List Ent} {p q:Str} {l:List Value} (hp:Let p) (hn:News p l news):hits q (keepE p es++news) = if q = p then l else hits q es:=by
 have hk:∀ e∈news,e.k = p:=fun e he=>by
  have:(e.k,e.x)∈l.map (fun x=>(p,x)):=by rw [← hn]; exact List.mem_map.mpr ⟨e,he,rfl⟩
  obtain ⟨x,_,h⟩:=List.mem_map.mp this
  injection h with h _
  exact h.symm
 have hx:news.map Ent.x = l:=by
  have:=congrArg (List.map Prod.snd) hn
  simpa [List.map_map,Function.comp_def] using this
 unfold hits keepE
 rw [List.filter_append,List.map_append,List.filter_filter]
 by_cases h:q = p
 ·subst h
  rw [if_pos rfl]
  have e1:(es.filter fun a=>decide (low a.k = q) && decide (low a.k≠q)) = []:=by
   rw [List.filter_eq_nil_iff]; intro a _; simp
  have e2:(news.filter fun e=>decide (low e.k = q)) = news:=by
   rw [List.filter_eq_self]; intro a ha; rw [hk a ha,lowlet hp]; simp
  rw [e1,e2,hx]; rfl
 ·rw [if_neg h]
  have e1:(es.filter fun a=>decide (low a.k = q) && decide (low a.k≠p)) = es.filter fun e=>decide (low e.k = q):=by
   apply List.filter_congr
   intro a _
   by_cases ha:low a.k = q
   ·simp [ha,h]
   ·simp [ha]
  have e2:(news.filter fun e=>decide (low e.k = q)) = []:=by
   rw [List.filter_eq_nil_iff]; intro a ha; rw [hk a ha,lowlet hp]; simpa using Ne.symm h
  rw [e1,e2]; simp
theorem Inv.go {es0 es news:List Ent} {s f O:Str→Nat} {p y:Str} {ty:Tok} {rest:List Value} (hp:Let p) (I:Inv es0 s es f (fun q=>O q + one p q)) (hh:hits p es = .str y ty :: rest) (hn:News p (rest++[.str y ty]) news) :
  Inv es0 s (keepE p es++news) (fun q=>f q + one p q) (fun q=>O q + one y q):=by
 have ht:=I.row p hp
 rw [hh] at ht
 obtain ⟨t1,t2⟩:=turned_next ht.symm
 refine ⟨fun q hq=>?_,fun q hq=>?_⟩
 ·rw [hits_step hp hn]
  unfold one
  split
  ·rename_i e; subst e; exact t1.symm
  ·exact I.row q hq
 ·have e:=I.sum q hq
  have e2:at01 (hits p es0) q (f p) = one y q:=by
   unfold at01 one
   rw [t2]
   show (if sOf (Value.str y ty) = q then 1 else 0) = (if q = y then 1 else 0)
   by_cases h:y = q
   ·subst h; simp [sOf]
   ·simp [sOf,h,Ne.symm h]
  show f q + one p q + (O q + one y q) = _
  rw [tot_inc hp,e2]
  have e':f q + (O q + one p q) = s q + tot es0 f q:=e
  omega
theorem Inv.stay {es0 es:List Ent} {s f O:Str→Nat} {p:Str} (hp:Let p) (I:Inv es0 s es f (fun q=>O q + one p q)) (hh:hits p es = []):Inv es0 s es (fun q=>f q + one p q) O:=by
 have ht:=I.row p hp
 rw [hh] at ht
 have h0:hits p es0 = []:=by
  have:=turned_length (f p) (hits p es0)
  rw [← ht] at this
  exact List.length_eq_zero_iff.mp this.symm
 refine ⟨fun q hq=>?_,fun q hq=>?_⟩
 ·rw [I.row q hq]
  unfold one
  split
  ·rename_i e; subst e; rw [h0,turned_nil,turned_nil]
  ·rfl
 ·have e':f q + (O q + one p q) = s q + tot es0 f q:=I.sum q hq
  show f q + one p q + O q = _
  rw [tot_inc hp,h0]
  simp only [at01,List.length_nil,List.getElem?_nil]
  omega
theorem walk_inv {es0:List Ent} {s:Str→Nat} {es es':List Ent} {k k':Cnt} {p:Str} (W:Walk es k p es' k'):∀ (f O:Str→Nat),Eqv k f→Inv es0 s es f (fun q=>O q + one p q)→∃ f',Eqv k' f'∧Inv es0 s es' f' O:=by
 induction W with
 | stop es k =>
  intro f O hk I
  refine ⟨f,hk,I.row,fun q hq=>?_⟩
  have e':f q + (O q + one sE q) = s q + tot es0 f q:=I.sum q hq
  have:one sE q = 0:=by unfold one; rw [if_neg (let_ne hq)]
  omega
 | last es k p hp hh =>
  intro f O hk I
  exact ⟨_,hk.inc hp,I.stay hp hh⟩
 | more es k p y ty rest news es' k' hp hh hn _ ih =>
  intro f O hk I
  exact ih _ O (hk.inc hp) (I.go hp hh hn)
theorem runs_inv {es0:List Ent} {s:Str→Nat} {es es':List Ent} {k k':Cnt} {qs:List Str} (R:Runs es k qs es' k'):∀ (f:Str→Nat),Eqv k f→Inv es0 s es f (cnt qs)→∃ f',Eqv k' f'∧Inv es0 s es' f' (fun _=>0):=by
 induction R with
 | nil es k => intro f hk I; exact ⟨f,hk,I⟩
 | cons es es1 es2 k k1 k2 q qs W _ ih =>
  intro f hk I
  have I':Inv es0 s es f (fun r=>cnt qs r + one q r):=⟨I.row,fun r hr=>by
   have e:f r + cnt (q :: qs) r = s r + tot es0 f r:=I.sum r hr
   rw [cnt_cons] at e
   show f r + (cnt qs r + one q r) = _
   omega⟩
  obtain ⟨f1,h1,I1⟩:=walk_inv W f (cnt qs) hk I'
  exact ih f1 h1 I1
theorem moves_inv {es0:List Ent} {s:Str→Nat} {es es':List Ent} {ps ms:List Str} (M:Moves es ps es' ms):∀ (f O:Str→Nat),Inv es0 s es f (fun q=>O q + cnt ps q)→Inv es0 s es' (fun q=>f q + cnt ps q) (fun q=>O q + cnt ms q):=by
 induction M with
 | nil es => intro f O I; exact I
 | stay es es' p ps ms hp hh _ ih =>
  intro f O I
  have I':Inv es0 s es f (fun q=>(O q + cnt ps q) + one p q):=⟨I.row,fun q hq=>by
   have e:f q + (O q + cnt (p :: ps) q) = s q + tot es0 f q:=I.sum q hq
   rw [cnt_cons] at e
   show f q + (O q + cnt ps q + one p q) = _
   omega⟩
  have I2:=ih (fun q=>f q + one p q) O (I'.stay hp hh)
  have ef:(fun q=>f q + cnt (p :: ps) q) = fun q=>f q + one p q + cnt ps q:=by funext q; rw [cnt_cons]; omega
  rw [ef]
  refine ⟨I2.row,fun q hq=>?_⟩
  have e:f q + one p q + cnt ps q + (O q + cnt ms q) = _:=I2.sum q hq
  have z:one sE q = 0:=by unfold one; rw [if_neg (let_ne hq)]
  show f q + one p q + cnt ps q + (O q + cnt (sE :: ms) q) = _
  rw [cnt_cons,z,Nat.zero_add]
  exact e
 | go es es' news p y ty rest ps ms hp hh hn _ ih =>
  intro f O I
  have I':Inv es0 s es f (fun q=>(O q + cnt ps q) + one p q):=⟨I.row,fun q hq=>by
   have e:f q + (O q + cnt (p :: ps) q) = s q + tot es0 f q:=I.sum q hq
   rw [cnt_cons] at e
   show f q + (O q + cnt ps q + one p q) = _
   omega⟩
  have I1:=I'.go hp hh hn
  have I1':Inv es0 s (keepE p es++news) (fun q=>f q + one p q) (fun q=>(O q + one y q) + cnt ps q):=⟨I1.row,fun q hq=>by
   have e:f q + one p q + (O q + cnt ps q + one y q) = _:=I1.sum q hq
   show f q + one p q + (O q + one y q + cnt ps q) = _
   omega⟩
  have I2:=ih (fun q=>f q + one p q) (fun q=>O q + one y q) I1'
  have ef:(fun q=>f q + cnt (p :: ps) q) = fun q=>f q + one p q + cnt ps q:=by funext q; rw [cnt_cons]; omega
  rw [ef]
  refine ⟨I2.row,fun q hq=>?_⟩
  have e:f q + one p q + cnt ps q + (O q + one y q + cnt ms q) = _:=I2.sum q hq
  show f q + one p q + cnt ps q + (O q + cnt (y :: ms) q) = _
  rw [cnt_cons]
  omega
theorem incs_eqv:∀ {ps:List Str} {k:Cnt} {f:Str→Nat},Eqv k f→(∀ p∈ps,Let p)→Eqv (incs k ps) (fun q=>f q + cnt ps q)
 | [],k,f,h,_ => h
 | p :: ps,k,f,h,hp => by
  have:=incs_eqv (h.inc (hp p (.head _))) (fun q hq=>hp q (.tail _ hq)) (ps:=ps)
  have ef:(fun q=>f q + cnt (p :: ps) q) = fun q=>f q + one p q + cnt ps q:=by funext q; rw [cnt_cons]; omega
  rw [ef]
  exact this
theorem moves_let {es es':List Ent} {ps ms:List Str} (M:Moves es ps es' ms):∀ p∈ps,Let p:=by
 induction M with
 | nil es => intro p h; cases h
 | stay es es' p ps ms hp hh _ ih => intro q hq; rcases List.mem_cons.mp hq with rfl | h; exact hp; exact ih q h
 | go es es' news p y ty rest ps ms hp hh hn _ ih => intro q hq; rcases List.mem_cons.mp hq with rfl | h; exact hp; exact ih q h
theorem turns_inv {es0:List Ent} {s:Str→Nat} {es es':List Ent} {k k':Cnt} {ps:List Str} (T:Turns es k ps es' k'):∀ (f:Str→Nat),Eqv k f→Inv es0 s es f (cnt ps)→∃ f',Eqv k' f'∧Inv es0 s es' f' (fun _=>0):=by
 induction T with
 | stop es k => intro f hk I; exact ⟨f,hk,I⟩
 | more es es1 es2 k k2 ps ms hne M _ ih =>
  intro f hk I
  have I0:Inv es0 s es f (fun q=>0 + cnt ps q):=⟨I.row,fun q hq=>by
   have e:f q + cnt ps q = _:=I.sum q hq
   show f q + (0 + cnt ps q) = _
   omega⟩
  have I1:=moves_inv M f (fun _=>0) I0
  refine ih _ (incs_eqv hk (moves_let M)) ⟨I1.row,fun q hq=>?_⟩
  have e:f q + cnt ps q + (0 + cnt ms q) = _:=I1.sum q hq
  have z:cnt (ms.filter fun y=>decide (y≠sE)) q = cnt ms q:=by
   unfold cnt
   rw [List.filter_filter]
   congr 1
   apply List.filter_congr
   intro a _
   by_cases h:a = q
   ·subst h; simp [let_ne hq]
   ·simp [h]
  show f q + cnt ps q + cnt (ms.filter fun y=>decide (y≠sE)) q = _
  rw [z]
  omega
theorem inv_start (es0:List Ent) (s:Str→Nat) (qs:List Str) (h:∀ q,Let q→cnt qs q = s q):Inv es0 s es0 (fun _=>0) (cnt qs) :=
 ⟨fun q _=>(turned_zero _).symm,fun q hq=>by
  show 0 + cnt qs q = s q + tot es0 (fun _=>0) q
  simp only [tot,cn,Nat.zero_add,Nat.add_zero]
  exact h q hq⟩
-- only lower letters in a row
theorem cn_low {l:List Value} {q:Str} (h:∀ v∈l,sOf v≠q):∀ n,cn l q n = 0
 | 0 => rfl
 | n+1 => by
  rw [cn,cn_low h n]
  unfold at01
  split
  ·rename_i v hv
   rw [if_neg (h v (List.mem_of_getElem? hv))]
  ·rfl
structure Flow4 (es0:List Ent) (s f:Str→Nat):Prop where
 d:f sd = s sd
 c:f sc = s sc + cn (hits sd es0) sc (f sd)
 b:f sb = s sb + (cn (hits sd es0) sb (f sd) + cn (hits sc es0) sb (f sc))
 a:f sa = s sa + (cn (hits sd es0) sa (f sd) + cn (hits sc es0) sa (f sc) + cn (hits sb es0) sa (f sb))
theorem hits_low {es0:List Ent} (hg:∀ x∈es0,Dwn x) {p q:Str} (hq:rk p≤rk q):∀ v∈hits p es0,sOf v≠q:=by
 intro v hv e
 obtain ⟨x,hx,rfl⟩:=List.mem_map.mp hv
 obtain ⟨hx1,hx2⟩:=List.mem_filter.mp hx
 obtain ⟨_,y,ty,_,hr,hxx⟩:=hg x hx1
 have hl:low x.k = p:=by simpa using hx2
 rw [hxx] at e
 have e':y = q:=e
 subst e'
 rw [hl] at hr
 omega
theorem flow_of_inv {es0 es:List Ent} {s f:Str→Nat} (hg:∀ x∈es0,Dwn x) (I:Inv es0 s es f (fun _=>0)):Flow4 es0 s f:=by
 have L:=fun {p q:Str} (h:rk p≤rk q) n => cn_low (hits_low hg h) n
 have h1:=I.sum sd (.inr (.inr (.inr rfl)))
 have h2:=I.sum sc (.inr (.inr (.inl rfl)))
 have h3:=I.sum sb (.inr (.inl rfl))
 have h4:=I.sum sa (.inl rfl)
 simp only [tot,Nat.add_zero] at h1 h2 h3 h4
 rw [L (p:=sa) (q:=sd) (by decide),L (p:=sb) (q:=sd) (by decide),L (p:=sc) (q:=sd) (by decide),L (p:=sd) (q:=sd) (by decide)] at h1
 rw [L (p:=sa) (q:=sc) (by decide),L (p:=sb) (q:=sc) (by decide),L (p:=sc) (q:=sc) (by decide)] at h2
 rw [L (p:=sa) (q:=sb) (by decide),L (p:=sb) (q:=sb) (by decide)] at h3
 rw [L (p:=sa) (q:=sa) (by decide)] at h4
 exact ⟨by omega,by omega,by omega,by omega⟩
noncomputable def cc (N n j:Nat):Nat:=(N + n - 1 - j) / n
theorem cc_succ {N n j:Nat} (h:j < n):cc (N+1) n j = cc N n j + (if N % n = j then 1 else 0):=by
 unfold cc
 have hn:0 < n:=by omega
 have e:=Nat.div_add_mod N n
 have hb:=Nat.mod_lt N hn
 generalize N / n = a at e
 generalize N % n = b at e hb ⊢
 subst e
 have e1:n * a + b+1 + n - 1 - j = n * a + (b + n - j):=by omega
 have e2:n * a + b + n - 1 - j = n * a + (b + n - 1 - j):=by omega
 rw [e1,e2,Nat.mul_add_div hn,Nat.mul_add_div hn]
 have d1:(b + n - j) / n = if j≤b then 1 else 0:=by
  split
  ·rw [Nat.div_eq_iff hn]; omega
  ·exact Nat.div_eq_of_lt (by omega)
 have d2:(b + n - 1 - j) / n = if j < b then 1 else 0:=by
  split
  ·rw [Nat.div_eq_iff hn]; omega
  ·exact Nat.div_eq_of_lt (by omega)
 rw [d1,d2]
 split <;> split <;> split <;> omega
theorem cc_zero {n j:Nat} (h:j < n):cc 0 n j = 0:=Nat.div_eq_of_lt (by omega)
theorem pz_nat {N n j:Nat} (h:j < n):pz (N:Int) n j = (cc N n j:Int):=by
 unfold pz cc
 have e:(N:Int) - (j:Int) + (n:Int) - 1 = ((N + n - 1 - j:Nat):Int):=by omega
 rw [e,Int.fdiv_eq_ediv_of_nonneg _ (by omega)]
 rfl
theorem pzS_zero {q:Str} {n:Nat}:∀ (l:List Value) (j:Nat),l.length + j≤n→pzS q l 0 n j = 0
 | [],_,_ => rfl
 | y :: l,j,h => by
  have hl:(y :: l).length = l.length+1:=rfl
  rw [pzS,pzS_zero l (j+1) (by omega)]
  have:=pz_nat (N:=0) (n:=n) (j:=j) (by omega)
  rw [cc_zero (by omega)] at this
  have t:pz 0 n j = 0:=by simpa using this
  rw [t]
  split <;> rfl
theorem pzS_succ {q:Str} {L:List Value} {N:Nat}:∀ (m j:Nat),L.length = j + m→pzS q (L.drop j) ((N+1:Nat):Int) L.length j = pzS q (L.drop j) (N:Nat) L.length j + ((if j≤N % L.length then at01 L q N else 0:Nat):Int):=by
 intro m
 induction m with
 | zero =>
  intro j hj
  rw [List.drop_of_length_le (by omega)]
  have:(if j≤N % L.length then at01 L q N else 0:Nat) = 0:=by
   rcases Nat.eq_zero_or_pos L.length with h | h
   ·have:L = []:=List.length_eq_zero_iff.mp h
    subst this
    simp [at01]
   ·have:=Nat.mod_lt N h
    rw [if_neg (by omega)]
  rw [this]
  rfl
 | succ m ih =>
  intro j hj
  have hlt:j < L.length:=by omega
  rw [List.drop_eq_getElem_cons hlt]
  rw [pzS,pzS,ih (j+1) (by omega),pz_nat hlt,pz_nat hlt,cc_succ hlt]
  have ha:N % L.length = j→at01 L q N = if sOf L[j] = q then 1 else 0:=fun h=>by
   unfold at01
   rw [h,List.getElem?_eq_getElem hlt]
  generalize hb:N % L.length = b at ha ⊢
  generalize pzS q (List.drop (j+1) L) (N:Int) L.length (j+1) = P
  generalize cc N L.length j = C
  by_cases h1:b = j
  ·have ha':=ha h1
   have g1:¬ (j+1≤b):=by omega
   have g2:j≤b:=by omega
   rw [ha']
   by_cases h2:sOf L[j] = q
   ·simp only [h1,h2,if_true,if_pos g2,Nat.le_refl,show ¬ (j+1≤j) from by omega,if_false]; omega
   ·simp only [h1,h2,if_true,if_false,Nat.le_refl,show ¬ (j+1≤j) from by omega]; omega
  ·by_cases h3:j+1≤b
   ·have g2:j≤b:=by omega
    by_cases h2:sOf L[j] = q
    ·simp only [h1,h2,h3,g2,if_true,if_false]; omega
    ·simp only [h1,h2,h3,g2,if_true,if_false]; omega
   ·have g2:¬ j≤b:=by omega
    by_cases h2:sOf L[j] = q
    ·simp only [h1,h2,h3,g2,if_true,if_false]; omega
    ·simp only [h1,h2,h3,g2,if_true,if_false]; omega
theorem pzS_cn {q:Str} {L:List Value}:∀ N:Nat,pzS q L (N:Nat) L.length 0 = (cn L q N:Nat)
 | 0 => by
  have:=pzS_zero (q:=q) (n:=L.length) L 0 (by omega)
  simpa [cn] using this
 | N+1 => by
  have:=pzS_succ (q:=q) (L:=L) (N:=N) L.length 0 (by omega)
  rw [List.drop_zero,if_pos (by omega),pzS_cn N] at this
  rw [this,cn]
  omega
theorem cntV_cnt (q:Str) (ss:List Value):cntV q ss = cnt (ss.map sOf) q:=by
 induction ss with
 | nil => rfl
 | cons v l ih =>
  rw [List.map_cons,cnt_cons,← ih]
  unfold cntV one
  by_cases h:sOf v = q
  ·simp [h]; omega
  ·simp [h,Ne.symm h]
theorem cnt_rev (q:Str) (ss:List Str):cnt ss.reverse q = cnt ss q:=by
 unfold cnt
 rw [List.filter_reverse,List.length_reverse]
theorem hash_kh {w:World} {r:Rows} {g:Array GenState} {d:Drawn} {os:OsState}:HashOk (XX w r g d os) (kh w r ⟨#[97]⟩) (kh w r ⟨#[98]⟩) (kh w r ⟨#[99]⟩) (kh w r ⟨#[100]⟩):=by
 refine ⟨?_,?_,?_,?_⟩ <;> kernel_rfl
noncomputable abbrev plO (l:List Value):Obj:=⟨.none,none,.fields ⟨l⟩,#[]⟩
structure FoV where
 A:Nat
 a:Tok
 b:Tok
 c:Tok
 d:Tok
 va:Tok
 vb:Tok
 vc:Tok
 vd:Tok
 e:Nat
 z:Value
 pl:List Value
 n:Nat
 t:Nat
include MB hB in
theorem flow_ok {T dT H A e ea N t L C3 C4 pl0:Nat} {k0 c2 c3 c4 c5:Int} {t0 d2 d3 d4 d5:Tok} {y1 y2 y3 y4:Value} {es:List Ent} {ss:List Value} {z1 z2 z3:Tok} (hD:Lim D U 130) (hg:∀ x∈es,Dwn x) (hp:∀ h,B h→PairsIn es h) (hes:0 < es.length∧es.length≤400) (hss:∀ v∈ss,∃ x tx,v = .str x tx) (hsl:ss.length≤900) (hks:∀ x∈es,Key x.k) (pa0:nOf sa es≠0) (pb0:nOf sb es≠0) (pc0:nOf sc es≠0) (ia:hits sa es = []) (gb:∀ v∈hits sb es,∃ t,v = .str sa t) (gc:∀ v∈hits sc es,∃ k t,v = .str k t∧(k = sa∨k = sb)) (gd:∀ v∈hits sd es,∃ k t,v = .str k t∧(k = sa∨k = sb∨k = sc)) (jb:0 < (hits sb es).length) (jc:0 < (hits sc es).length) (jd:0 < (hits sd es).length) (r1:[]++rdyV (hits sd es) (nOf sa es) (nOf sb es) (nOf sc es) = [.str ⟨#[99]⟩ z1]) (r2:[]++rdyV (hits sc es) (nOf sa es - (cntV sa (hits sd es):Nat)) (nOf sb es - (cntV sb (hits sd es):Nat)) (-2) = [.str ⟨#[98]⟩ z2]) (r3:[]++rdyV (hits sb es) (nOf sa es - (cntV sa (hits sd es):Nat) - (cntV sa (hits sc es):Nat)) (-2) ((-2:Int) - (cntV sc (hits sc es):Nat)) = [.str ⟨#[97]⟩ z3]) :
  CutOk (XX w r g d os) B D U (.call (.ref 327) ⟨[.ref (T+355),.ref (A+355)],[]⟩) (some ⟨none,some (fsL w r L C3 C4)⟩) [(L+355,frS (llL c2 c3 c4 c5 d2 d3 d4 d5 y1 y2 y3 y4) pl0 ⟨[]⟩),(324,plO [])] [(T+355,hdrO dT),(dT+355,hdrD k0 t0 H),(H+355,listO (es.map Ent.v) e),(A+355,listO ss ea)] (N+355) (t) ({v:FoV // N≤v.A∧N≤v.n}) (fun v=>.ok (.ret (.ref (v.1.A+355)))) (fun v=>[(v.1.A+355,dictO (en4 (kh w r ⟨#[97]⟩) (kh w r ⟨#[98]⟩) (kh w r ⟨#[99]⟩) (kh w r ⟨#[100]⟩) v.1.a v.1.b v.1.c v.1.d (.int (((((0 + cntV sa (ss.drop 0):Nat):Int) + pzS sa (hits sd es) ((0 + cntV sd (ss.drop 0):Nat):Int) (hits sd es).length 0) + pzS sa (hits sc es) (((0 + cntV sc (ss.drop 0):Nat):Int) + pzS sc (hits sd es) ((0 + cntV sd (ss.drop 0):Nat):Int) (hits sd es).length 0) (hits sc es).length 0) + pzS sa (hits sb es) ((((0 + cntV sb (ss.drop 0):Nat):Int) + pzS sb (hits sd es) ((0 + cntV sd (ss.drop 0):Nat):Int) (hits sd es).length 0) + pzS sb (hits sc es) (((0 + cntV sc (ss.drop 0):Nat):Int) + pzS sc (hits sd es) ((0 + cntV sd (ss.drop 0):Nat):Int) (hits sd es).length 0) (hits sc es).length 0) (hits sb es).length 0) v.1.va) (.int (((((0 + cntV sb (ss.drop 0):Nat):Int) + pzS sb (hits sd es) ((0 + cntV sd (ss.drop 0):Nat):Int) (hits sd es).length 0) + pzS sb (hits sc es) (((0 + cntV sc (ss.drop 0):Nat):Int) + pzS sc (hits sd es) ((0 + cntV sd (ss.drop 0):Nat):Int) (hits sd es).length 0) (hits sc es).length 0) + pzS sb (hits sb es) ((((0 + cntV sb (ss.drop 0):Nat):Int) + pzS sb (hits sd es) ((0 + cntV sd (ss.drop 0):Nat):Int) (hits sd es).length 0) + pzS sb (hits sc es) (((0 + cntV sc (ss.drop 0):Nat):Int) + pzS sc (hits sd es) ((0 + cntV sd (ss.drop 0):Nat):Int) (hits sd es).length 0) (hits sc es).length 0) (hits sb es).length 0) v.1.vb) (.int (((((0 + cntV sc (ss.drop 0):Nat):Int) + pzS sc (hits sd es) ((0 + cntV sd (ss.drop 0):Nat):Int) (hits sd es).length 0) + pzS sc (hits sc es) (((0 + cntV sc (ss.drop 0):Nat):Int) + pzS sc (hits sd es) ((0 + cntV sd (ss.drop 0):Nat):Int) (hits sd es).length 0) (hits sc es).length 0) + pzS sc (hits sb es) ((((0 + cntV sb (ss.drop 0):Nat):Int) + pzS sb (hits sd es) ((0 + cntV sd (ss.drop 0):Nat):Int) (hits sd es).length 0) + pzS sb (hits sc es) (((0 + cntV sc (ss.drop 0):Nat):Int) + pzS sc (hits sd es) ((0 + cntV sd (ss.drop 0):Nat):Int) (hits sd es).length 0) (hits sc es).length 0) (hits sb es).length 0) v.1.vc) (.int ((0 + cntV sd (ss.drop 0):Nat):Int) v.1.vd)) v.1.e)]) (fun v=>[frS (llL c2 c3 c4 c5 d2 d3 d4 d5 y1 y2 y3 y4) pl0 (slL v.1.z C3 C4),plO v.1.pl]) (fun v=>v.1.n+355) (fun v=>v.1.t) (fun v=>[]):=by
 refine CutOk.of_pk MB hB hD.lo (by intro v p hp; simp only [List.mem_cons,List.not_mem_nil,or_false] at hp; rcases hp with rfl <;> (have hv:=v.2; dsimp only at *; omega)) (fun _=>rfl) 1649267441665 0 ?_
 k_data
 let P₀:Rows→Pk (XX w r g d os) B D U S₀ []:=fun x₀=>(.a (d6 11 0x10113300) (ixL [N+357,N+356] [0,0,1,1]) 0 0 1 3 [] [] (CutOk.wkS ((some ⟨none,some (fsF w r N (N+1) (N+2) L C3 C4)⟩):Hd) (srt_new (N:=N+3) (t:=t) MB1 hB1 hD.up)) fun _=>(.a (d6 34 0xd750000500050005ddd111111111111bb) (ix [N+355,N+358,N+359,N+362] 18 0x3333333000222210) 2 12 1 3 [0,1] [1,3] (CutOk.wkS ((some ⟨none,some (fsF w r N (N+1) (N+2) L C3 C4)⟩):Hd) (add0_a (S:=N+4) (dS:=N+3) (M:=N+6) (N:=N+8) (t:=t+16) (h1:=kz w r ⟨#[95,110,111,100,101,50,105,110,102,111]⟩) (h2:=kz w r ⟨#[95,114,101,97,100,121,95,110,111,100,101,115]⟩) (h3:=kz w r ⟨#[95,110,112,97,115,115,101,100,111,117,116]⟩) (h4:=kz w r ⟨#[95,110,102,105,110,105,115,104,101,100]⟩) (u1:=t+3) (u2:=t+5) (u3:=t+8) (u4:=t+11) (xa:=t+14) (v1:=.int 0 (t+6)) (v2:=.int 0 (t+9)) MB1 hB1 hD.up)) fun _=>(.a (d8 29 0x130d0b000000000b0000000b0000000b131313070707070107010701) (ix [N+355,N+358,N+359,N+362] 15 0x333333000222210) 16 96 1 3 [0,1] [1,3] (CutOk.wkS ((some ⟨none,some (fsF w r N (N+1) (N+2) L C3 C4)⟩):Hd) (add0_b (S:=N+4) (dS:=N+3) (M:=N+6) (N:=N+18) (t:=t+42) (Ia:=N+12) (h1:=kz w r ⟨#[95,110,111,100,101,50,105,110,102,111]⟩) (h2:=kz w r ⟨#[95,114,101,97,100,121,95,110,111,100,101,115]⟩) (h3:=kz w r ⟨#[95,110,112,97,115,115,101,100,111,117,116]⟩) (h4:=kz w r ⟨#[95,110,102,105,110,105,115,104,101,100]⟩) (ha:=kz w r ⟨#[97]⟩) (u1:=t+3) (u2:=t+5) (u3:=t+8) (u4:=t+11) (ta:=t+14) (xb:=t+40) (v1:=.int 0 (t+6)) (v2:=.int 0 (t+9)) MB1 hB1 hD.up)) fun _=>(.a (d8 29 0x191311000000001100000011000000111919190d0d0d0d010d010d01) (ix [N+355,N+358,N+359,N+362] 15 0x333333000222210) 128 768 1 3 [0,1] [1,3] (CutOk.wkS ((some ⟨none,some (fsF w r N (N+1) (N+2) L C3 C4)⟩):Hd) (add0_c (S:=N+4) (dS:=N+3) (M:=N+6) (N:=N+28) (t:=t+68) (Ia:=N+12) (Ib:=N+22) (h1:=kz w r ⟨#[95,110,111,100,101,50,105,110,102,111]⟩) (h2:=kz w r ⟨#[95,114,101,97,100,121,95,110,111,100,101,115]⟩) (h3:=kz w r ⟨#[95,110,112,97,115,115,101,100,111,117,116]⟩) (h4:=kz w r ⟨#[95,110,102,105,110,105,115,104,101,100]⟩) (ha:=kz w r ⟨#[97]⟩) (hb:=kz w r ⟨#[98]⟩) (u1:=t+3) (u2:=t+5) (u3:=t+8) (u4:=t+11) (ta:=t+14) (tb:=t+40) (xc:=t+66) (v1:=.int 0 (t+6)) (v2:=.int 0 (t+9)) MB1 hB1 hD.up)) fun _=>(.a (d8 29 0x1f1917000000001700000017000000171f1f1f131313130113011301) (ix [N+355,N+358,N+359,N+362] 15 0x333333000222210) 1024 6144 1 3 [0,1] [1,3] (CutOk.wkS ((some ⟨none,some (fsF w r N (N+1) (N+2) L C3 C4)⟩):Hd) (add0_d (S:=N+4) (dS:=N+3) (M:=N+6) (N:=N+38) (t:=t+94) (Ia:=N+12) (Ib:=N+22) (Ic:=N+32) (h1:=kz w r ⟨#[95,110,111,100,101,50,105,110,102,111]⟩) (h2:=kz w r ⟨#[95,114,101,97,100,121,95,110,111,100,101,115]⟩) (h3:=kz w r ⟨#[95,110,112,97,115,115,101,100,111,117,116]⟩) (h4:=kz w r ⟨#[95,110,102,105,110,105,115,104,101,100]⟩) (ha:=kz w r ⟨#[97]⟩) (hb:=kz w r ⟨#[98]⟩) (hc:=kz w r ⟨#[99]⟩) (u1:=t+3) (u2:=t+5) (u3:=t+8) (u4:=t+11) (ta:=t+14) (tb:=t+40) (tc:=t+66) (xd:=t+92) (v1:=.int 0 (t+6)) (v2:=.int 0 (t+9)) MB1 hB1 hD.up)) fun _=>(.a (d8 28 0x40200000000020000000200000002270101191919190119011901) (ix [dT+355,T+355,N+356,N+404,N+362] 13 0x4444443211110) 0 0 1 3 [] [0,2,4] (CutOk.wkS ((some ⟨none,some (fsF w r N (N+1) (N+2) L C3 C4)⟩):Hd) (items_ok (T:=T) (dT:=dT) (H:=H) (e:=e) (N:=N+50) (t:=t+118) (h1:=k0) (t1:=t0) (vs:=List.map Ent.v es) MB1 hB1 hD.up (by simp; omega))) fun _=>(.a (d6 6 0x111111) (ixL [N+408,N+407] [0,1,1,1]) 4214161 954978 1 3 (d6 9 0x213567840) (d8 9 0x507090b030d110f01) (CutOk.wkS ((some ⟨none,some (fsF w r N (N+1) (N+2) L C3 C4)⟩):Hd) (fa_loop0 (I:=N+53) (F0:=N) (C1:=N+1) (C2:=N+2) (S:=N+4) (dS:=N+3) (M:=N+6) (G:=N+52) (e:=0) (Ia:=N+12) (Ib:=N+22) (Ic:=N+32) (Id:=N+42) (La:=N+14) (Lb:=N+24) (Lc:=N+34) (Ld:=N+44) (da:=N+11) (db:=N+21) (dc:=N+31) (dd:=N+41) (h1:=kh w r ⟨#[115,111,114,116,101,114]⟩) (h2:=kh w r ⟨#[108,101,116,116,101,114]⟩) (k1:=kz w r ⟨#[95,110,111,100,101,50,105,110,102,111]⟩) (k2:=kz w r ⟨#[95,114,101,97,100,121,95,110,111,100,101,115]⟩) (k3:=kz w r ⟨#[95,110,112,97,115,115,101,100,111,117,116]⟩) (k4:=kz w r ⟨#[95,110,102,105,110,105,115,104,101,100]⟩) (ha:=kz w r ⟨#[97]⟩) (hb:=kz w r ⟨#[98]⟩) (hc:=kz w r ⟨#[99]⟩) (hd1:=kz w r ⟨#[100]⟩) (u1:=t+12) (u2:=t+15) (s1:=t+3) (s2:=t+5) (s3:=t+8) (s4:=t+11) (ta:=t+14) (tb:=t+40) (tc:=t+66) (td:=t+92) (xa:=t+14) (xb:=t+40) (xc:=t+66) (xd:=t+92) (pa:=t+38) (pb:=t+64) (pc:=t+90) (pd:=t+116) (nd:=0) (v1:=.int 0 (t+6)) (v2:=.int 0 (t+9)) (lt:=.str ⟨#[100]⟩ (t+92)) (es:=es) (pe:=2) (N:=N+54) (t:=t+120) MB1 hB1 hD.up hg (fun h b=>hp h b.1) hes)) fun v6=>(.a (d8 17 0x2725000000002500000025000000252d) (ix [N+358,N+359,N+355] 6 0x211110) 13107200 458736 1 3 (d6 14 0x1a26b37c48d59) (d8 14 0x50b111701070d1303090f15191b) (prep_ok (S:=N+4) (S1:=N+4) (dS:=N+3) (M:=N+6) (N:=v6.1.n) (t:=v6.1.t) (Ia:=N+12) (Ib:=N+22) (Ic:=N+32) (Id:=N+42) (La:=N+14) (Lb:=N+24) (Lc:=N+34) (Ld:=N+44) (da:=N+11) (db:=N+21) (dc:=N+31) (dd:=N+41) (eb:=v6.1.eb) (ec:=v6.1.ec) (ed:=v6.1.ed) (ea:=0) (Ff:=N) (C1:=N+1) (C2:=N+2) (L:=L) (C3:=C3) (C4:=C4) (pf:=v6.1.fe) (pl0:=pl0) (h1:=kz w r ⟨#[95,110,111,100,101,50,105,110,102,111]⟩) (h2:=kz w r ⟨#[95,114,101,97,100,121,95,110,111,100,101,115]⟩) (h3:=kz w r ⟨#[95,110,112,97,115,115,101,100,111,117,116]⟩) (h4:=kz w r ⟨#[95,110,102,105,110,105,115,104,101,100]⟩) (ha:=kz w r ⟨#[97]⟩) (hb:=kz w r ⟨#[98]⟩) (hc:=kz w r ⟨#[99]⟩) (hd1:=kz w r ⟨#[100]⟩) (u1:=t+3) (u2:=t+5) (u3:=t+8) (u4:=t+11) (ta:=t+14) (tb:=t+40) (tc:=t+66) (td:=t+92) (xa:=t+14) (xb:=t+40) (xc:=t+66) (xd:=t+92) (pa:=v6.1.pa) (pb:=v6.1.pb) (pc:=v6.1.pc) (pd:=t+116) (na:=nOf sa es) (nb:=nOf sb es) (nc:=nOf sc es) (lb:=hits sb es) (lc:=hits sc es) (ld:=hits sd es) (v1:=.int 0 (t+6)) (v2:=.int 0 (t+9)) (a1:=kh w r ⟨#[115,111,114,116,101,114]⟩) (a2:=kh w r ⟨#[108,101,116,116,101,114]⟩) (a3:=v6.1.fh) (a4:=v6.1.fg) (c2:=c2) (c3:=c3) (c4:=c4) (c5:=c5) (b1:=t+12) (b2:=t+15) (b3:=v6.1.fu) (b4:=v6.1.fv) (d2:=d2) (d3:=d3) (d4:=d4) (d5:=d5) (x1:=.str ⟨#[100]⟩ (t+92)) (x2:=v6.1.fx) (x3:=v6.1.fy) (y1:=y1) (y2:=y2) (y3:=y3) (y4:=y4) MB1 hB1 hD.up pa0 pb0 pc0 gb gc gd) fun v7=>(.a [49,49] [N+355,N+355] 18949251 1760064 1 3 (d6 10 0x162738495) (d8 10 0x3070b0f0105090d1113) (CutOk.wkS ((some ⟨none,some (fsF w r N (N+1) (N+2) L C3 C4)⟩):Hd) (fw_ok (S:=N+4) (dS:=N+3) (M:=N+6) (R:=v6.1.n+3) (O:=v7.1.n) (N:=v7.1.n+1) (t:=v7.1.t+1) (Ff:=N) (C1:=N+1) (C2:=N+2) (L:=L) (Ia:=N+12) (Ib:=N+22) (Ic:=N+32) (Id:=N+42) (La:=N+14) (Lb:=N+24) (Lc:=N+34) (Ld:=N+44) (da:=N+11) (db:=N+21) (dc:=N+31) (dd:=N+41) (ea:=0) (eb:=v6.1.eb) (ec:=v6.1.ec) (ed:=v6.1.ed) (er:=v7.1.e) (eo:=0) (pf:=v6.1.fe+1) (h1:=kz w r ⟨#[95,110,111,100,101,50,105,110,102,111]⟩) (h2:=kz w r ⟨#[95,114,101,97,100,121,95,110,111,100,101,115]⟩) (h3:=kz w r ⟨#[95,110,112,97,115,115,101,100,111,117,116]⟩) (h4:=kz w r ⟨#[95,110,102,105,110,105,115,104,101,100]⟩) (ha:=kz w r ⟨#[97]⟩) (hb:=kz w r ⟨#[98]⟩) (hc:=kz w r ⟨#[99]⟩) (hd1:=kz w r ⟨#[100]⟩) (a1:=kh w r ⟨#[115,111,114,116,101,114]⟩) (a2:=kh w r ⟨#[108,101,116,116,101,114]⟩) (a3:=v6.1.fh) (a4:=v6.1.fg) (a5:=kh w r ⟨#[111,114,100,101,114]⟩) (u1:=t+3) (u2:=t+5) (u3:=t+8) (u4:=t+11) (ta:=t+14) (tb:=t+40) (tc:=t+66) (td:=t+92) (xa:=t+14) (xb:=t+40) (xc:=t+66) (xd:=t+92) (pa:=v6.1.pa) (pb:=v6.1.pb) (pc:=v6.1.pc) (pd:=t+116) (b1:=t+12) (b2:=t+15) (b3:=v6.1.fu) (b4:=v6.1.fv) (b5:=v7.1.t) (kp:=t+6) (kf:=t+9) (z0:=t+92) (z1:=z1) (z2:=z2) (z3:=z3) (na:=nOf sa es) (nb:=nOf sb es) (nc:=nOf sc es) (lb:=hits sb es) (lc:=hits sc es) (ld:=hits sd es) (x1:=.str ⟨#[100]⟩ (t+92)) (x2:=v6.1.fx) (x3:=v6.1.fy) MB1 hB1 hD.up r1 r2 r3 (fun v hv=>by obtain ⟨t,rfl⟩:=gb v hv; exact ⟨_,_,rfl,.inl rfl⟩) ⟨jb,by have:=hits_len (p:=sb) (es:=es); omega⟩ (fun v hv=>by obtain ⟨k,t,rfl,h⟩:=gc v hv; exact ⟨_,_,rfl,h.elim .inl fun h=>.inr (.inl h)⟩) ⟨jc,by have:=hits_len (p:=sc) (es:=es); omega⟩ gd ⟨jd,by have:=hits_len (p:=sd) (es:=es); omega⟩)) fun v8=>(.a (cond x₀.a (d8 38 0x108010108080808430101010505050501050105010101010141410041410000004343433700) (d8 44 0x108010108080808430101010505050501050105010501050105050101010141410041410000004343433700)) (cond x₀.a (ix [A+355,v8.1.n+365,N+357,v8.1.n+363,N+355,324] 25 0x5555444433333331112000010) (ix [A+355,v8.1.n+365,N+357,v8.1.n+363,N+355,324] 29 0x55554444333333333331112000010)) 0 0 1 3 [] [6] (count_loop (hd:=some { v:=none,f:=some (fsF w r N (N+1) (N+2) L C3 C4) }) (n:=v8.1.n+366) (t:=v8.1.t+15) (H:=A+355) (e:=ea) (vs:=ss) (q:=⟨#[97]⟩) (tq:=v8.1.t+13) hss ss.length 0 0 (by simp)) fun _=>(.a (d8 27 0x10801010808080843010101050505050105010501030303030101) (ix [A+355,v8.1.n+365,N+357,v8.1.n+363,v8.1.n+364] 20 0x44443333331112000010) 0 0 1 3 [] [6] (count_loop (hd:=some { v:=none,f:=some (fsF w r N (N+1) (N+2) L C3 C4) }) (n:=v8.1.n+366) (t:=v8.1.t+19) (H:=A+355) (e:=ea) (vs:=ss) (q:=⟨#[98]⟩) (tq:=v8.1.t+17) hss ss.length 0 0 (by simp)) fun _=>(.a (d8 27 0x10801010808080843010101050505050105010501030303030101) (ix [A+355,v8.1.n+365,N+357,v8.1.n+363,v8.1.n+364] 20 0x44443333331112000010) 0 0 1 3 [] [6] (count_loop (hd:=some { v:=none,f:=some (fsF w r N (N+1) (N+2) L C3 C4) }) (n:=v8.1.n+366) (t:=v8.1.t+23) (H:=A+355) (e:=ea) (vs:=ss) (q:=⟨#[99]⟩) (tq:=v8.1.t+21) hss ss.length 0 0 (by simp)) fun _=>(.a (d8 27 0x10801010808080843010101050505050105010501030303030101) (ix [A+355,v8.1.n+365,N+357,v8.1.n+363,v8.1.n+364] 20 0x44443333331112000010) 0 0 1 3 [] [6] (count_loop (hd:=some { v:=none,f:=some (fsF w r N (N+1) (N+2) L C3 C4) }) (n:=v8.1.n+366) (t:=v8.1.t+27) (H:=A+355) (e:=ea) (vs:=ss) (q:=⟨#[100]⟩) (tq:=v8.1.t+25) hss ss.length 0 0 (by simp)) fun _=>(.a (d6 20 0x5551555515151333311) (ix [v8.1.n+365,v8.1.n+367,v8.1.n+363,v8.1.n+364] 14 0x33332222221000) 0 68719485032 1 3 [6,0,1,7,2] (d6 8 0x71420953) (CutOk.wkS ((some ⟨none,some (fsF w r N (N+1) (N+2) L C3 C4)⟩):Hd) (red_ok (Fn:=v8.1.n+7) (cc:=v8.1.n+6) (ct:=v8.1.n) (Cl:=N+1) (T:=T) (dT:=dT) (H:=H) (e:=e) (Dc:=v8.1.n+9) (e1:=4) (O:=v7.1.n) (eo:=v8.1.eo) (N:=v8.1.n+13) (t:=v8.1.t+29) (tm:=749) (q:=v8.1.t+1) (t0:=t0) (z0:=t+92) (z1:=z1) (z2:=z2) (z3:=z3) (k0:=k0) (h1:=kh w r ⟨#[97]⟩) (h2:=kh w r ⟨#[98]⟩) (h3:=kh w r ⟨#[99]⟩) (h4:=kh w r ⟨#[100]⟩) (ka:=↑(0 + cntV ⟨#[97]⟩ (List.drop 0 ss))) (kb:=↑(0 + cntV ⟨#[98]⟩ (List.drop 0 ss))) (kc:=↑(0 + cntV ⟨#[99]⟩ (List.drop 0 ss))) (kd:=↑(0 + cntV ⟨#[100]⟩ (List.drop 0 ss))) (u1:=v8.1.t+13) (u2:=v8.1.t+17) (u3:=v8.1.t+21) (u4:=v8.1.t+25) (wa:=v8.1.t+15) (wb:=v8.1.t+19) (wc:=v8.1.t+23) (wd:=v8.1.t+27) (es:=es) (f0:=.str ⟨#[95,108,97,119,95,112,97,115,115]⟩ v8.1.t) (f2:=.str ⟨#[47,99,108,97,105,109,47,99,117,116,46,112,121]⟩ (v8.1.t+2)) (f3:=.int 254 0) (f4:=.int 2 0) (f5:=.int 0 0) (f6:=.int 0 0) (f7:=.int 19 0) (f8:=.ref (v8.1.n+356)) (f9:=.bool true) (f10:=.int 276 0) (f11:=.ref (v8.1.n+357)) (f12:=.none) (f13:=.ref (v8.1.n+358)) (f14:=.ref (v8.1.n+359)) (f15:=.ref (v8.1.n+360)) (f16:=.int (Int.ofNat (v8.1.t+9)) 0) (f17:=.int 254 0) (f18:=.str ⟨#[47,99,108,97,105,109,47,99,117,116,46,112,121]⟩ (v8.1.t+10)) MB1 hB1 hD.up (fun h b=>hp h b.1) hes hks hash_kh ia jb (fun v hv=>by obtain ⟨t,rfl⟩:=gb v hv; exact ⟨_,_,rfl,.inl rfl⟩) jc (fun v hv=>by obtain ⟨k,t,rfl,h⟩:=gc v hv; exact ⟨_,_,rfl,h.elim .inl fun h=>.inr (.inl h)⟩) jd gd)) fun v13=>(.f [] [] ⟨⟨v13.1.A,v13.1.a,v13.1.b,v13.1.c,v13.1.d,v13.1.va,v13.1.vb,v13.1.vc,v8.1.t+27,v13.1.e,v7.1.z,[.int 254 0,.int 4 0,.ref (v8.1.n+361)],v13.1.n,v13.1.t⟩,by have a6:=v6.2; have a7:=v7.2; have a8:=v8.2; have a13:=v13.2; exact ⟨by show N≤v13.1.A; omega,by show N≤v13.1.n; omega⟩⟩)))))))))))))))
 exact ⟨P₀,by intro ⟨x1,x2,x3,x4⟩; cases x1 <;> cases x2 <;> kernel_rfl⟩
noncomputable def Abc (v:Value):Prop:=∃ k t,v = .str k t∧(k = sa∨k = sb∨k = sc)
noncomputable def Far (q:Str) (n:Int) (l:List Value):Prop:=cntV q l = 0∨(cntV q l:Int) < n
theorem cntV_hit {q:Str} {y:Value} {l:List Value} (h:sOf y = q):cntV q (y :: l) = 1 + cntV q l:=by rw [cntV_cons,if_pos h]
theorem cntV_miss {q:Str} {y:Value} {l:List Value} (h:sOf y≠q):cntV q (y :: l) = cntV q l:=by rw [cntV_cons,if_neg h,Nat.zero_add]
theorem far_hit {q:Str} {n:Int} {y:Value} {l:List Value} (h:Far q n (y :: l)) (e:sOf y = q):Far q (n - 1) l∧n - 1≠0:=by
 unfold Far at *
 rw [cntV_hit e] at h
 refine ⟨.inr ?_,?_⟩
 ·rcases h with h | h <;> omega
 ·rcases h with h | h <;> omega
theorem far_miss {q:Str} {n:Int} {y:Value} {l:List Value} (h:Far q n (y :: l)) (e:sOf y≠q):Far q n l:=by
 unfold Far at *
 rwa [cntV_miss e] at h
theorem far_zero {q:Str} {n:Int} {l:List Value} (h:cntV q l = 0):Far q n l:=.inl h
noncomputable def Hit (q:Str) (n:Int) (l:List Value):Prop:=(cntV q l:Int) = n∧0 < cntV q l
theorem rdyV_a {y:Value} {l:List Value} {na nb nc:Int} (h:sOf y = sa):rdyV (y :: l) na nb nc = (if na - 1 = 0 then [y] else [])++rdyV l (na - 1) nb nc:=by
 rw [rdyV,if_pos h]
theorem rdyV_b {y:Value} {l:List Value} {na nb nc:Int} (h:sOf y = sb):rdyV (y :: l) na nb nc = (if nb - 1 = 0 then [y] else [])++rdyV l na (nb - 1) nc:=by
 rw [rdyV,if_neg (by rw [h]; decide),if_pos h]
theorem rdyV_c {y:Value} {l:List Value} {na nb nc:Int} (h:sOf y = sc):rdyV (y :: l) na nb nc = (if nc - 1 = 0 then [y] else [])++rdyV l na nb (nc - 1):=by
 rw [rdyV,if_neg (by rw [h]; decide),if_neg (by rw [h]; decide)]
theorem rdy_none:∀ (l:List Value) (na nb nc:Int),(∀ v∈l,Abc v)→Far sa na l→Far sb nb l→Far sc nc l→rdyV l na nb nc = []
 | [],_,_,_,_,_,_,_ => rfl
 | y :: l,na,nb,nc,h,fa,fb,fc => by
  obtain ⟨k,t,rfl,hk⟩:=h y (.head _)
  have hl:=fun v hv=>h v (List.mem_cons_of_mem _ hv)
  rcases hk with rfl | rfl | rfl
  ·have a1:=far_hit fa rfl
   have b1:=far_miss fb (show sOf (.str sa t)≠sb by show sa≠sb; decide)
   have c1:=far_miss fc (show sOf (.str sa t)≠sc by show sa≠sc; decide)
   rw [rdyV_a rfl,if_neg a1.2,rdy_none l _ _ _ hl a1.1 b1 c1]; rfl
  ·have a1:=far_miss fa (show sOf (.str sb t)≠sa by show sb≠sa; decide)
   have b1:=far_hit fb rfl
   have c1:=far_miss fc (show sOf (.str sb t)≠sc by show sb≠sc; decide)
   rw [rdyV_b rfl,if_neg b1.2,rdy_none l _ _ _ hl a1 b1.1 c1]; rfl
  ·have a1:=far_miss fa (show sOf (.str sc t)≠sa by show sc≠sa; decide)
   have b1:=far_miss fb (show sOf (.str sc t)≠sb by show sc≠sb; decide)
   have c1:=far_hit fc rfl
   rw [rdyV_c rfl,if_neg c1.2,rdy_none l _ _ _ hl a1 b1 c1.1]; rfl
theorem rdy_c:∀ (l:List Value) (na nb nc:Int),(∀ v∈l,Abc v)→Far sa na l→Far sb nb l→Hit sc nc l→∃ z,rdyV l na nb nc = [.str sc z]
 | [],_,_,_,_,_,_,h => by have:=h.2; simp [cntV] at this
 | y :: l,na,nb,nc,h,fa,fb,fc => by
  obtain ⟨k,t,rfl,hk⟩:=h y (.head _)
  have hl:=fun v hv=>h v (List.mem_cons_of_mem _ hv)
  rcases hk with rfl | rfl | rfl
  ·have a1:=far_hit fa rfl
   have b1:=far_miss fb (show sOf (.str sa t)≠sb by show sa≠sb; decide)
   obtain ⟨c1,c2⟩:=fc
   rw [cntV_miss (show sOf (.str sa t)≠sc by show sa≠sc; decide)] at c1 c2
   rw [rdyV_a rfl,if_neg a1.2]
   exact rdy_c l _ _ _ hl a1.1 b1 ⟨c1,c2⟩
  ·have a1:=far_miss fa (show sOf (.str sb t)≠sa by show sb≠sa; decide)
   have b1:=far_hit fb rfl
   obtain ⟨c1,c2⟩:=fc
   rw [cntV_miss (show sOf (.str sb t)≠sc by show sb≠sc; decide)] at c1 c2
   rw [rdyV_b rfl,if_neg b1.2]
   exact rdy_c l _ _ _ hl a1 b1.1 ⟨c1,c2⟩
  ·have a1:=far_miss fa (show sOf (.str sc t)≠sa by show sc≠sa; decide)
   have b1:=far_miss fb (show sOf (.str sc t)≠sb by show sc≠sb; decide)
   obtain ⟨c1,c2⟩:=fc
   rw [cntV_hit (show sOf (.str sc t) = sc from rfl)] at c1 c2
   rw [rdyV_c rfl]
   by_cases hz:cntV sc l = 0
   ·rw [if_pos (by omega),rdy_none l _ _ _ hl a1 b1 (far_zero hz)]
    exact ⟨t,rfl⟩
   ·rw [if_neg (by omega)]
    exact rdy_c l _ _ _ hl a1 b1 ⟨by omega,by omega⟩
theorem rdy_b:∀ (l:List Value) (na nb nc:Int),(∀ v∈l,Abc v)→Far sa na l→Hit sb nb l→Far sc nc l→∃ z,rdyV l na nb nc = [.str sb z]
 | [],_,_,_,_,_,h,_ => by have:=h.2; simp [cntV] at this
 | y :: l,na,nb,nc,h,fa,fb,fc => by
  obtain ⟨k,t,rfl,hk⟩:=h y (.head _)
  have hl:=fun v hv=>h v (List.mem_cons_of_mem _ hv)
  rcases hk with rfl | rfl | rfl
  ·have a1:=far_hit fa rfl
   obtain ⟨b1,b2⟩:=fb
   rw [cntV_miss (show sOf (.str sa t)≠sb by show sa≠sb; decide)] at b1 b2
   have c1:=far_miss fc (show sOf (.str sa t)≠sc by show sa≠sc; decide)
   rw [rdyV_a rfl,if_neg a1.2]
   exact rdy_b l _ _ _ hl a1.1 ⟨b1,b2⟩ c1
  ·have a1:=far_miss fa (show sOf (.str sb t)≠sa by show sb≠sa; decide)
   obtain ⟨b1,b2⟩:=fb
   rw [cntV_hit (show sOf (.str sb t) = sb from rfl)] at b1 b2
   have c1:=far_miss fc (show sOf (.str sb t)≠sc by show sb≠sc; decide)
   rw [rdyV_b rfl]
   by_cases hz:cntV sb l = 0
   ·rw [if_pos (by omega),rdy_none l _ _ _ hl a1 (far_zero hz) c1]
    exact ⟨t,rfl⟩
   ·rw [if_neg (by omega)]
    exact rdy_b l _ _ _ hl a1 ⟨by omega,by omega⟩ c1
  ·have a1:=far_miss fa (show sOf (.str sc t)≠sa by show sc≠sa; decide)
   obtain ⟨b1,b2⟩:=fb
   rw [cntV_miss (show sOf (.str sc t)≠sb by show sc≠sb; decide)] at b1 b2
   have c1:=far_hit fc rfl
   rw [rdyV_c rfl,if_neg c1.2]
   exact rdy_b l _ _ _ hl a1 ⟨b1,b2⟩ c1.1
theorem rdy_a:∀ (l:List Value) (na nb nc:Int),(∀ v∈l,Abc v)→Hit sa na l→Far sb nb l→Far sc nc l→∃ z,rdyV l na nb nc = [.str sa z]
 | [],_,_,_,_,h,_,_ => by have:=h.2; simp [cntV] at this
 | y :: l,na,nb,nc,h,fa,fb,fc => by
  obtain ⟨k,t,rfl,hk⟩:=h y (.head _)
  have hl:=fun v hv=>h v (List.mem_cons_of_mem _ hv)
  rcases hk with rfl | rfl | rfl
  ·obtain ⟨a1,a2⟩:=fa
   rw [cntV_hit (show sOf (.str sa t) = sa from rfl)] at a1 a2
   have b1:=far_miss fb (show sOf (.str sa t)≠sb by show sa≠sb; decide)
   have c1:=far_miss fc (show sOf (.str sa t)≠sc by show sa≠sc; decide)
   rw [rdyV_a rfl]
   by_cases hz:cntV sa l = 0
   ·rw [if_pos (by omega),rdy_none l _ _ _ hl (far_zero hz) b1 c1]
    exact ⟨t,rfl⟩
   ·rw [if_neg (by omega)]
    exact rdy_a l _ _ _ hl ⟨by omega,by omega⟩ b1 c1
  ·obtain ⟨a1,a2⟩:=fa
   rw [cntV_miss (show sOf (.str sb t)≠sa by show sb≠sa; decide)] at a1 a2
   have b1:=far_hit fb rfl
   have c1:=far_miss fc (show sOf (.str sb t)≠sc by show sb≠sc; decide)
   rw [rdyV_b rfl,if_neg b1.2]
   exact rdy_a l _ _ _ hl ⟨a1,a2⟩ b1.1 c1
  ·obtain ⟨a1,a2⟩:=fa
   rw [cntV_miss (show sOf (.str sc t)≠sa by show sc≠sa; decide)] at a1 a2
   have b1:=far_miss fb (show sOf (.str sc t)≠sb by show sc≠sb; decide)
   have c1:=far_hit fc rfl
   rw [rdyV_c rfl,if_neg c1.2]
   exact rdy_a l _ _ _ hl ⟨a1,a2⟩ b1 c1.1
theorem nOf_rows {q:Str}:∀ {es:List Ent},(∀ x∈es,Dwn x)→nOf q es = ((cntV q (hits sb es) + cntV q (hits sc es) + cntV q (hits sd es):Nat):Int)
 | [],_ => rfl
 | x :: es,h => by
  have ih:=nOf_rows (q:=q) (fun y hy=>h y (List.mem_cons_of_mem _ hy))
  rw [nOf_cons,ih]
  obtain ⟨c,l,ty,hxx,hlow,hcc⟩:=dwn_cases (h x (.head _))
  rw [hits_cons,hits_cons,hits_cons,hlow]
  have hl:l = sb∨l = sc∨l = sd:=by
   rcases hcc with ⟨_,rfl⟩ | ⟨_,rfl⟩ | ⟨_,rfl⟩ | ⟨_,rfl⟩ | ⟨_,rfl⟩ | ⟨_,rfl⟩ <;> simp
  rcases hl with rfl | rfl | rfl
  ·rw [if_pos rfl,if_neg (show ¬ sb = sc by decide),if_neg (show ¬ sb = sd by decide),cntV_cons]
   split <;> omega
  ·rw [if_neg (show ¬ sc = sb by decide),if_pos rfl,if_neg (show ¬ sc = sd by decide),cntV_cons]
   split <;> omega
  ·rw [if_neg (show ¬ sd = sb by decide),if_neg (show ¬ sd = sc by decide),if_pos rfl,cntV_cons]
   split <;> omega
theorem hits_mem {es:List Ent} (hg:∀ x∈es,Dwn x) {p:Str}:∀ v∈hits p es,∃ y t,v = .str y t∧Let y∧rk y < rk p:=by
 intro v hv
 obtain ⟨x,hx,rfl⟩:=List.mem_map.mp hv
 obtain ⟨hx1,hx2⟩:=List.mem_filter.mp hx
 obtain ⟨_,y,ty,hy,hr,hxx⟩:=hg x hx1
 have hl:low x.k = p:=by simpa using hx2
 rw [hl] at hr
 exact ⟨y,ty,hxx,hy,hr⟩
theorem cntV_low {es:List Ent} (hg:∀ x∈es,Dwn x) {p q:Str} (h:rk p≤rk q):cntV q (hits p es) = 0:=by
 unfold cntV
 rw [List.length_eq_zero_iff,List.filter_eq_nil_iff]
 intro v hv
 simpa using hits_low hg h v hv
theorem hits_abc {es:List Ent} (hg:∀ x∈es,Dwn x) {p:Str} (hp:Let p):∀ v∈hits p es,Abc v:=by
 intro v hv
 obtain ⟨y,t,rfl,hy,hr⟩:=hits_mem hg v hv
 refine ⟨y,t,rfl,?_⟩
 rcases hy with rfl | rfl | rfl | rfl
 ·simp
 ·simp
 ·simp
 ·exfalso
  have h4:rk sd = 4:=by decide
  have:rk p≤4:=by rcases hp with rfl | rfl | rfl | rfl <;> decide
  omega
structure Tbl (es:List Ent):Prop where
 dwn:∀ x∈es,Dwn x
 dc:0 < cntV sc (hits sd es)
 cb:0 < cntV sb (hits sc es)
 ba:0 < cntV sa (hits sb es)
theorem cntV_len {q:Str} {l:List Value} (h:0 < cntV q l):0 < l.length:=by
 unfold cntV at h
 exact Nat.lt_of_lt_of_le h (List.length_filter_le _ _)
section
variable {es:List Ent} (T:Tbl es)
theorem Tbl.ia (T:Tbl es):hits sa es = []:=by
 rw [List.eq_nil_iff_forall_not_mem]
 intro v hv
 obtain ⟨y,t,_,hy,hr⟩:=hits_mem T.dwn v hv
 have h1:rk sa = 1:=by decide
 have:1≤rk y:=by rcases hy with rfl | rfl | rfl | rfl <;> decide
 omega
theorem Tbl.n (T:Tbl es) (q:Str):nOf q es = ((cntV q (hits sb es) + cntV q (hits sc es) + cntV q (hits sd es):Nat):Int):=nOf_rows T.dwn
theorem Tbl.z (T:Tbl es) {p q:Str} (h:rk p≤rk q):cntV q (hits p es) = 0:=cntV_low T.dwn h
theorem Tbl.r1 (T:Tbl es):∃ z,[]++rdyV (hits sd es) (nOf sa es) (nOf sb es) (nOf sc es) = [.str ⟨#[99]⟩ z]:=by
 refine rdy_c _ _ _ _ (hits_abc T.dwn (by unfold Let; simp)) (.inr ?_) (.inr ?_) ⟨?_,T.dc⟩
 ·rw [T.n]; have:=T.ba; omega
 ·rw [T.n]; have:=T.cb; omega
 ·rw [T.n,T.z (p:=sb) (q:=sc) (by decide),T.z (p:=sc) (q:=sc) (by decide)]; omega
theorem Tbl.r2 (T:Tbl es):∃ z,[]++rdyV (hits sc es) (nOf sa es - (cntV sa (hits sd es):Nat)) (nOf sb es - (cntV sb (hits sd es):Nat)) (-2) = [.str ⟨#[98]⟩ z]:=by
 refine rdy_b _ _ _ _ (hits_abc T.dwn (by unfold Let; simp)) (.inr ?_) ⟨?_,T.cb⟩ (.inl (T.z (by decide)))
 ·rw [T.n]; have:=T.ba; omega
 ·rw [T.n,T.z (p:=sb) (q:=sb) (by decide)]; omega
theorem Tbl.r3 (T:Tbl es):∃ z,[]++rdyV (hits sb es) (nOf sa es - (cntV sa (hits sd es):Nat) - (cntV sa (hits sc es):Nat)) (-2) ((-2:Int) - (cntV sc (hits sc es):Nat)) = [.str ⟨#[97]⟩ z]:=by
 refine rdy_a _ _ _ _ (hits_abc T.dwn (by unfold Let; simp)) ⟨?_,T.ba⟩ (.inl (T.z (by decide))) (.inl (T.z (by decide)))
 rw [T.n]; omega
theorem Tbl.gd (T:Tbl es):∀ v∈hits sd es,∃ k t,v = .str k t∧(k = sa∨k = sb∨k = sc):=hits_abc T.dwn (by unfold Let; simp)
theorem Tbl.gc (T:Tbl es):∀ v∈hits sc es,∃ k t,v = .str k t∧(k = sa∨k = sb):=by
 intro v hv
 obtain ⟨y,t,rfl,hy,hr⟩:=hits_mem T.dwn v hv
 refine ⟨y,t,rfl,?_⟩
 rcases hy with rfl | rfl | rfl | rfl
 ·simp
 ·simp
 ·exact absurd hr (by decide)
 ·exact absurd hr (by decide)
theorem Tbl.gb (T:Tbl es):∀ v∈hits sb es,∃ t,v = .str sa t:=by
 intro v hv
 obtain ⟨y,t,rfl,hy,hr⟩:=hits_mem T.dwn v hv
 refine ⟨t,?_⟩
 rcases hy with rfl | rfl | rfl | rfl
 ·rfl
 ·exact absurd hr (by decide)
 ·exact absurd hr (by decide)
 ·exact absurd hr (by decide)
end
noncomputable def flD (ss:List Value):Nat:=cntV sd ss
noncomputable def flC (es:List Ent) (ss:List Value):Nat:=cntV sc ss + cn (hits sd es) sc (flD ss)
noncomputable def flB (es:List Ent) (ss:List Value):Nat:=cntV sb ss + (cn (hits sd es) sb (flD ss) + cn (hits sc es) sb (flC es ss))
noncomputable def flA (es:List Ent) (ss:List Value):Nat:=cntV sa ss + (cn (hits sd es) sa (flD ss) + cn (hits sc es) sa (flC es ss) + cn (hits sb es) sa (flB es ss))
section
section
variable {es:List Ent} {ss:List Value}
theorem fl_c1:((cntV sc ss:Nat):Int) + pzS sc (hits sd es) ((cntV sd ss:Nat):Int) (hits sd es).length 0 = (flC es ss:Nat):=by
 rw [pzS_cn]
 unfold flC flD
 omega
theorem fl_b1:((cntV sb ss:Nat):Int) + pzS sb (hits sd es) ((cntV sd ss:Nat):Int) (hits sd es).length 0 + pzS sb (hits sc es) ((flC es ss:Nat):Int) (hits sc es).length 0 = (flB es ss:Nat):=by
 rw [pzS_cn,pzS_cn]
 unfold flB flD
 omega
theorem fl_a1:((cntV sa ss:Nat):Int) + pzS sa (hits sd es) ((cntV sd ss:Nat):Int) (hits sd es).length 0 + pzS sa (hits sc es) ((flC es ss:Nat):Int) (hits sc es).length 0 + pzS sa (hits sb es) ((flB es ss:Nat):Int) (hits sb es).length 0 = (flA es ss:Nat):=by
 rw [pzS_cn,pzS_cn,pzS_cn]
 unfold flA flD
 omega
theorem fl_kA:(((((0 + cntV sa (ss.drop 0):Nat):Int) + pzS sa (hits sd es) ((0 + cntV sd (ss.drop 0):Nat):Int) (hits sd es).length 0) + pzS sa (hits sc es) (((0 + cntV sc (ss.drop 0):Nat):Int) + pzS sc (hits sd es) ((0 + cntV sd (ss.drop 0):Nat):Int) (hits sd es).length 0) (hits sc es).length 0) + pzS sa (hits sb es) ((((0 + cntV sb (ss.drop 0):Nat):Int) + pzS sb (hits sd es) ((0 + cntV sd (ss.drop 0):Nat):Int) (hits sd es).length 0) + pzS sb (hits sc es) (((0 + cntV sc (ss.drop 0):Nat):Int) + pzS sc (hits sd es) ((0 + cntV sd (ss.drop 0):Nat):Int) (hits sd es).length 0) (hits sc es).length 0) (hits sb es).length 0) = ((flA es ss:Nat):Int):=by
 simp only [Nat.zero_add,List.drop_zero]
 rw [fl_c1,fl_b1,fl_a1]
theorem fl_kB (T:Tbl es):(((((0 + cntV sb (ss.drop 0):Nat):Int) + pzS sb (hits sd es) ((0 + cntV sd (ss.drop 0):Nat):Int) (hits sd es).length 0) + pzS sb (hits sc es) (((0 + cntV sc (ss.drop 0):Nat):Int) + pzS sc (hits sd es) ((0 + cntV sd (ss.drop 0):Nat):Int) (hits sd es).length 0) (hits sc es).length 0) + pzS sb (hits sb es) ((((0 + cntV sb (ss.drop 0):Nat):Int) + pzS sb (hits sd es) ((0 + cntV sd (ss.drop 0):Nat):Int) (hits sd es).length 0) + pzS sb (hits sc es) (((0 + cntV sc (ss.drop 0):Nat):Int) + pzS sc (hits sd es) ((0 + cntV sd (ss.drop 0):Nat):Int) (hits sd es).length 0) (hits sc es).length 0) (hits sb es).length 0) = ((flB es ss:Nat):Int):=by
 simp only [Nat.zero_add,List.drop_zero]
 rw [fl_c1,fl_b1,pzS_cn,cn_low (hits_low T.dwn (by decide))]
 omega
theorem fl_kC (T:Tbl es):(((((0 + cntV sc (ss.drop 0):Nat):Int) + pzS sc (hits sd es) ((0 + cntV sd (ss.drop 0):Nat):Int) (hits sd es).length 0) + pzS sc (hits sc es) (((0 + cntV sc (ss.drop 0):Nat):Int) + pzS sc (hits sd es) ((0 + cntV sd (ss.drop 0):Nat):Int) (hits sd es).length 0) (hits sc es).length 0) + pzS sc (hits sb es) ((((0 + cntV sb (ss.drop 0):Nat):Int) + pzS sb (hits sd es) ((0 + cntV sd (ss.drop 0):Nat):Int) (hits sd es).length 0) + pzS sb (hits sc es) (((0 + cntV sc (ss.drop 0):Nat):Int) + pzS sc (hits sd es) ((0 + cntV sd (ss.drop 0):Nat):Int) (hits sd es).length 0) (hits sc es).length 0) (hits sb es).length 0) = ((flC es ss:Nat):Int):=by
 simp only [Nat.zero_add,List.drop_zero]
 rw [fl_c1,fl_b1,pzS_cn,pzS_cn,cn_low (hits_low T.dwn (by decide)),cn_low (hits_low T.dwn (by decide))]
 omega
theorem fl_kD:((0 + cntV sd (ss.drop 0):Nat):Int) = ((flD ss:Nat):Int):=by
 simp only [Nat.zero_add,List.drop_zero]
 rfl
end
variable {T dT H A e ea N t L C3 C4 pl0:Nat} {k0 c2 c3 c4 c5:Int} {t0 d2 d3 d4 d5:Tok} {y1 y2 y3 y4:Value} {es:List Ent} {ss:List Value}
include MB hB in
theorem flow2_ok (hD:Lim D U 130) (TB:Tbl es) (hp:∀ h,B h→PairsIn es h) (hes:0 < es.length∧es.length≤400) (hss:∀ v∈ss,∃ x tx,v = .str x tx) (hsl:ss.length≤900) :
  CutOk (XX w r g d os) B D U (.call (.ref 327) ⟨[.ref (T+355),.ref (A+355)],[]⟩) (some ⟨none,some (fsL w r L C3 C4)⟩) [(L+355,frS (llL c2 c3 c4 c5 d2 d3 d4 d5 y1 y2 y3 y4) pl0 ⟨[]⟩),(324,plO [])] [(T+355,hdrO dT),(dT+355,hdrD k0 t0 H),(H+355,listO (es.map Ent.v) e),(A+355,listO ss ea)] (N+355) (t) ({v:FoV // N≤v.A∧N≤v.n}) (fun v=>.ok (.ret (.ref (v.1.A+355)))) (fun v=>[(v.1.A+355,dictO (en4 (kh w r ⟨#[97]⟩) (kh w r ⟨#[98]⟩) (kh w r ⟨#[99]⟩) (kh w r ⟨#[100]⟩) v.1.a v.1.b v.1.c v.1.d (.int (flA es ss:Nat) v.1.va) (.int (flB es ss:Nat) v.1.vb) (.int (flC es ss:Nat) v.1.vc) (.int (flD ss:Nat) v.1.vd)) v.1.e)]) (fun v=>[frS (llL c2 c3 c4 c5 d2 d3 d4 d5 y1 y2 y3 y4) pl0 (slL v.1.z C3 C4),plO v.1.pl]) (fun v=>v.1.n+355) (fun v=>v.1.t) (fun v=>[]):=by
 obtain ⟨z1,r1⟩:=TB.r1
 obtain ⟨z2,r2⟩:=TB.r2
 obtain ⟨z3,r3⟩:=TB.r3
 have q1:nOf sa es≠0:=by rw [TB.n]; have:=TB.ba; omega
 have q2:nOf sb es≠0:=by rw [TB.n]; have:=TB.cb; omega
 have q3:nOf sc es≠0:=by rw [TB.n]; have:=TB.dc; omega
 refine CutOk.map (flow_ok MB hB hD TB.dwn hp hes hss hsl (fun x hx=>(TB.dwn x hx).1) q1 q2 q3 TB.ia TB.gb TB.gc TB.gd (cntV_len TB.ba) (cntV_len TB.cb) (cntV_len TB.dc) r1 r2 r3) (by intro v p hp; simp only [List.mem_cons,List.not_mem_nil,or_false] at hp; rcases hp with rfl; have hv:=v.2; dsimp only at *; omega) (fun _=>rfl) fun v=>⟨v,rfl,?_,rfl,rfl,rfl,rfl⟩
 rw [fl_kA,fl_kB TB,fl_kC TB,fl_kD]
end
section
variable {N t:Nat} {t1 t2:Tok}
include MB hB in
theorem sg_bcd0 (hD:Lim D U 50)  :
  CutOk (XX w r g d os) B D U (.builtin "str.__getitem__" ⟨[.str (⟨#[98,99,100]⟩:Str) t1,.int 0 t2],[]⟩) none [] [] (N+355) (t) (Unit) (fun v=>.ok (.ret (.str ⟨#[98]⟩ t))) (fun v=>[]) (fun v=>[]) (fun v=>N+355) (fun v=>t+1) (fun v=>[]):=by
 refine .of_q MB hB hD.lo 0 0 ?_
 intro S₀
 let P₀:Rows→Pk (XX w r g d os) B D U S₀ []:=fun x₀=>(.f [] [] ())
 exact ⟨P₀,by intro x; kernel_rfl⟩
include MB hB in
theorem sg_bcd1 (hD:Lim D U 50)  :
  CutOk (XX w r g d os) B D U (.builtin "str.__getitem__" ⟨[.str (⟨#[98,99,100]⟩:Str) t1,.int 1 t2],[]⟩) none [] [] (N+355) (t) (Unit) (fun v=>.ok (.ret (.str ⟨#[99]⟩ t))) (fun v=>[]) (fun v=>[]) (fun v=>N+355) (fun v=>t+1) (fun v=>[]):=by
 refine .of_q MB hB hD.lo 0 0 ?_
 intro S₀
 let P₀:Rows→Pk (XX w r g d os) B D U S₀ []:=fun x₀=>(.f [] [] ())
 exact ⟨P₀,by intro x; kernel_rfl⟩
include MB hB in
theorem sg_bcd2 (hD:Lim D U 50)  :
  CutOk (XX w r g d os) B D U (.builtin "str.__getitem__" ⟨[.str (⟨#[98,99,100]⟩:Str) t1,.int 2 t2],[]⟩) none [] [] (N+355) (t) (Unit) (fun v=>.ok (.ret (.str ⟨#[100]⟩ t))) (fun v=>[]) (fun v=>[]) (fun v=>N+355) (fun v=>t+1) (fun v=>[]):=by
 refine .of_q MB hB hD.lo 0 0 ?_
 intro S₀
 let P₀:Rows→Pk (XX w r g d os) B D U S₀ []:=fun x₀=>(.f [] [] ())
 exact ⟨P₀,by intro x; kernel_rfl⟩
include MB hB in
theorem sg_abc0 (hD:Lim D U 50)  :
  CutOk (XX w r g d os) B D U (.builtin "str.__getitem__" ⟨[.str (⟨#[97,98,99]⟩:Str) t1,.int 0 t2],[]⟩) none [] [] (N+355) (t) (Unit) (fun v=>.ok (.ret (.str ⟨#[97]⟩ t))) (fun v=>[]) (fun v=>[]) (fun v=>N+355) (fun v=>t+1) (fun v=>[]):=by
 refine .of_q MB hB hD.lo 0 0 ?_
 intro S₀
 let P₀:Rows→Pk (XX w r g d os) B D U S₀ []:=fun x₀=>(.f [] [] ())
 exact ⟨P₀,by intro x; kernel_rfl⟩
include MB hB in
theorem sg_abc1 (hD:Lim D U 50)  :
  CutOk (XX w r g d os) B D U (.builtin "str.__getitem__" ⟨[.str (⟨#[97,98,99]⟩:Str) t1,.int 1 t2],[]⟩) none [] [] (N+355) (t) (Unit) (fun v=>.ok (.ret (.str ⟨#[98]⟩ t))) (fun v=>[]) (fun v=>[]) (fun v=>N+355) (fun v=>t+1) (fun v=>[]):=by
 refine .of_q MB hB hD.lo 0 0 ?_
 intro S₀
 let P₀:Rows→Pk (XX w r g d os) B D U S₀ []:=fun x₀=>(.f [] [] ())
 exact ⟨P₀,by intro x; kernel_rfl⟩
include MB hB in
theorem sg_abc2 (hD:Lim D U 50)  :
  CutOk (XX w r g d os) B D U (.builtin "str.__getitem__" ⟨[.str (⟨#[97,98,99]⟩:Str) t1,.int 2 t2],[]⟩) none [] [] (N+355) (t) (Unit) (fun v=>.ok (.ret (.str ⟨#[99]⟩ t))) (fun v=>[]) (fun v=>[]) (fun v=>N+355) (fun v=>t+1) (fun v=>[]):=by
 refine .of_q MB hB hD.lo 0 0 ?_
 intro S₀
 let P₀:Rows→Pk (XX w r g d os) B D U S₀ []:=fun x₀=>(.f [] [] ())
 exact ⟨P₀,by intro x; kernel_rfl⟩
noncomputable abbrev paCode (w:World) (r:Rows) (I F0:Nat):Code:=.forLoop (forT (nthS (fnBody (KF (pr w r)) 322) 1)) (.ref (I+355)) (forB (nthS (fnBody (KF (pr w r)) 322) 1)) (forO (nthS (fnBody (KF (pr w r)) 322) 1)) { scope:=fnScope (KF (pr w r)) 322,locals:=F0+355,globals:=3,cells:=[],qual:=(⟨#[95,108,97,119,95,112,97,105,114,115,46,60,108,111,99,97,108,115,62,46]⟩:Str),func:=some 322,code:=.ref 321,frame:=some (F0+355),builtins:=0 }
noncomputable abbrev pa2 (Q A:Nat) (h1 h2:Int) (u1 u2:Tok):List DictEntry:=[dE h1 (⟨#[100,114,97,119,115]⟩:Str) u1 (.ref (Q+355)),dE h2 (⟨#[112,97,105,114,115]⟩:Str) u2 (.ref (A+355))]
noncomputable abbrev pa4 (Q A:Nat) (h1 h2 h3 h4:Int) (u1 u2 u3 u4:Tok) (x le:Value):List DictEntry:=[dE h1 (⟨#[100,114,97,119,115]⟩:Str) u1 (.ref (Q+355)),dE h2 (⟨#[112,97,105,114,115]⟩:Str) u2 (.ref (A+355)),dE h3 (⟨#[120]⟩:Str) u3 x,dE h4 (⟨#[108,101,97,118,101,115]⟩:Str) u4 le]
noncomputable def lv3 (m:Nat):Str:=if m = 0 then sb else if m = 1 then sc else sd
noncomputable def cv3 (m:Nat):Str:=if m = 0 then sa else if m = 1 then sb else sc
noncomputable def lvOf (x:Nat):Str:=if 18≤x then up (lv3 (x % 3)) else lv3 (x % 3)
noncomputable def cmOf (x:Nat):Str:=cv3 (x / 3 % (x % 3 + 1))
theorem lv3_let (m:Nat):Let (lv3 m):=by
 unfold lv3 Let
 split
 ·simp
 ·split <;> simp
theorem cm_lt (x:Nat):x / 3 % (x % 3 + 1) < 3:=by
 have h1:x / 3 % (x % 3 + 1) < x % 3 + 1:=Nat.mod_lt _ (by omega)
 have h2:x % 3 < 3:=Nat.mod_lt _ (by decide)
 omega
variable {m:Nat}
include MB hB in
theorem sgb_ok (hD:Lim D U 50) (hm:m < 3) :
  CutOk (XX w r g d os) B D U (.builtin "str.__getitem__" ⟨[.str (⟨#[98,99,100]⟩:Str) t1,.int (m:Nat) t2],[]⟩) none [] [] (N+355) t Unit (fun _=>.ok (.ret (.str (lv3 m) t))) (fun _=>[]) (fun _=>[]) (fun _=>N+355) (fun _=>t+1) (fun _=>[]):=by
 rcases m with _ | _ | _ | m
 ·exact sg_bcd0 MB hB hD
 ·exact sg_bcd1 MB hB hD
 ·exact sg_bcd2 MB hB hD
 ·omega
include MB hB in
theorem sga_ok (hD:Lim D U 50) (hm:m < 3) :
  CutOk (XX w r g d os) B D U (.builtin "str.__getitem__" ⟨[.str (⟨#[97,98,99]⟩:Str) t1,.int (m:Nat) t2],[]⟩) none [] [] (N+355) t Unit (fun _=>.ok (.ret (.str (cv3 m) t))) (fun _=>[]) (fun _=>[]) (fun _=>N+355) (fun _=>t+1) (fun _=>[]):=by
 rcases m with _ | _ | _ | m
 ·exact sg_abc0 MB hB hD
 ·exact sg_abc1 MB hB hD
 ·exact sg_abc2 MB hB hD
 ·omega
theorem imodS_ok {X:Env0} {B:Heap→Prop} {D U n t:Nat} {hd:Hd} {ta tb:Tok} {x y:Nat}:CutOk X B D U (.builtin "int.__mod__" ⟨[.int (x:Nat) ta,.int ((y:Nat) + 1:Int) tb],[]⟩) hd [] [] n t Unit (fun _=>.ok (.ret (.int ((x % (y+1):Nat):Int) t))) (fun _=>[]) (fun _=>[]) (fun _=>n) (fun _=>t+1) (fun _=>[]):=by
 have:=imodN_ok (X:=X) (B:=B) (D:=D) (U:=U) (hd:=hd) (n:=n) (t:=t) (x:=x) (y:=y+1) (ta:=ta) (tb:=tb) (by omega)
 exact this
structure PaV where
 news:List Ent
 fh:Int
 fg:Int
 fu:Tok
 fv:Tok
 fx:Value
 fy:Value
 fe:Nat
 i:Nat
 e:Nat
 n:Nat
 t:Nat
noncomputable def iOf:Value→Nat
 | .int i _ => i.toNat
 | _ => 0
noncomputable def PaOut (ds:List Value) (N:Nat) (v:PaV):Prop:=N≤v.n∧v.news.map (fun e=>(e.k,sOf e.x)) = ds.map (fun d=>(lvOf (iOf d),cmOf (iOf d)))∧∀ x∈v.news,∃ ty,x.x = .str (sOf x.x) ty
noncomputable abbrev A_14 (N:Nat) (vs:List Value) (w:World) (r:Rows) (g:Array GenState) (d:Drawn) (os:OsState) (B:Heap→Prop) (D U I F0 Q i A:Nat) (h1 h2:Int) (u1 u2:Tok) (ds:List Value) (qe:Nat):Prop:=∀ (vs1:List Value) (e1:Nat) (h31 h41:Int) (u31 u41:Tok) (x1 le1:Value) (pe1 N1 t1:Nat),N≤N1→vs1.length≤vs.length+1→CutOk (XX w r g d os) B D U (paCode w r I F0) none [(I+355,iterO (Q+355) (i+1)),(A+355,listO vs1 e1),(F0+355,frO (pa4 Q A h1 h2 h31 h41 u1 u2 u31 u41 x1 le1) pe1)] [(Q+355,listO ds qe)] (N1+355) t1 ({v:PaV // PaOut (ds.drop (i+1)) N1 v}) (fun _=>.ok .next) (fun _=>[]) (fun v=>[iterE v.1.i,listO (vs1++v.1.news.map Ent.v) v.1.e,frO (pa4 Q A h1 h2 v.1.fh v.1.fg u1 u2 v.1.fu v.1.fv v.1.fx v.1.fy) v.1.fe]) (fun v=>v.1.n+355) (fun v=>v.1.t) (fun v=>v.1.news.map Ent.pair)
variable {I F0 Q A qe e pe i x:Nat} {h1 h2:Int} {u1 u2 tx:Tok} {vs ds:List Value}
include MB hB in
theorem pa_00 (hD:Lim D U 60) (hb:¬ 18≤x) (hl:vs.length≤900) (hi:ds[i]? = some (.int (x:Nat) tx)) (hd:ds.drop i = .int (x:Nat) tx :: ds.drop (i+1)) (IH:A_14 N vs w r g d os B D U I F0 Q i A h1 h2 u1 u2 ds qe) :
  CutOk (XX w r g d os) B D U (paCode w r I F0) none [(I+355,iterO (Q+355) i),(A+355,listO vs e),(F0+355,frO (pa2 Q A h1 h2 u1 u2) pe)] [(Q+355,listO ds qe)] (N+355) (t) ({v:PaV // PaOut (ds.drop i) N v}) (fun v=>.ok .next) (fun v=>[]) (fun v=>[iterE v.1.i,listO (vs++v.1.news.map Ent.v) v.1.e,frO (pa4 Q A h1 h2 v.1.fh v.1.fg u1 u2 v.1.fu v.1.fv v.1.fx v.1.fy) v.1.fe]) (fun v=>v.1.n+355) (fun v=>v.1.t) (fun v=>v.1.news.map Ent.pair):=by
 refine .of_q MB hB hD.lo 14 1 ?_
 k_data
 let P₀:Rows→Pk (XX w r g d os) B D U S₀ []:=fun x₀=>(.a [1,1,1] [I+355,I+355] 1 0 0 0 [] [0] (next_some (hd:=none) (I:=I+355) (H:=Q+355) (i:=i) (e:=qe) (n:=N+355) (t:=t) (vs:=ds) (v:=.int (↑x) tx) hi) fun _=>(.a [5,5,5,1] (ixL [F0+355] [0,0,0]) 0 0 0 0 [] [] (imodN_ok (hd:=none) (n:=N+355) (t:=t+3) (ta:=tx) (tb:=t+2) (x:=x) (y:=3) (by decide)) fun _=>(.a [1] [] 0 0 0 0 [] [] (sgb_ok (m:=x % (3)) (N:=N) (t:=t+4) (t1:=t+1) (t2:=t+3) MB1 hB1 hD.up (Nat.mod_lt _ (by decide))) fun _=>(.a [5,5,5,1] (ixL [F0+355] [0,0,0]) 0 0 0 0 [] [] (ige_f (hd:=none) (n:=N+355) (t:=t+7) (a:=↑x) (b:=18) (ta:=tx) (tb:=t+6) (by omega)) fun _=>(.a (d6 8 0x15533335) (ix [F0+355,A+355] 7 0x111100) 0 0 0 0 [] [] (ifdivN_ok (hd:=none) (n:=N+355) (t:=t+9) (ta:=tx) (tb:=t+8) (x:=x) (y:=3) (by decide) (by decide)) fun _=>(.a [5,1] [F0+355] 0 0 0 0 [] [] (imodN_ok (hd:=none) (n:=N+355) (t:=t+11) (ta:=tx) (tb:=t+10) (x:=x) (y:=3) (by decide)) fun _=>(.a [1,1,1] [] 0 0 0 0 [] [] (imodS_ok (n:=N+355) (t:=t+14) (hd:=none) (ta:=t+9) (tb:=t+13) (x:=x / 3) (y:=x % 3)) fun _=>(.a [1] [] 0 0 0 0 [] [] (sga_ok (m:=(x / 3) % (x % 3 + 1)) (N:=N) (t:=t+15) (t1:=t+7) (t2:=t+14) MB1 hB1 hD.up (cm_lt x)) fun _=>(.a [1,5] [A+355] 4 0 0 0 [] [] (append_ok (hd:=none) (H:=A+355) (e:=e) (n:=N+356) (t:=t+16) (vs:=vs) (x:=.ref (N+355)) (by omega)) fun _=>(.o [] [] 14 0 0 0 [] [0] (IH (vs1:=vs++[(.ref (N+355))]) (e1:=e+1) (h31:=kh w r ⟨#[120]⟩) (h41:=kh w r ⟨#[108,101,97,118,101,115]⟩) (u31:=t) (u41:=t+5) (x1:=.int (↑x) tx) (le1:=.str (lv3 (x % 3)) (t+4)) (pe1:=pe+2) (N1:=N+1) (t1:=t+16) (by omega) (by simp)) fun v9=>(.h (r':=(.ok .next)) (l':=[((I+355),iterE v9.1.i),((A+355),listO (vs++[(.ref (N+355))]++List.map Ent.v v9.1.news) v9.1.e),((F0+355),frO [dE h1 ⟨#[100,114,97,119,115]⟩ u1 (.ref (Q+355)),dE h2 ⟨#[112,97,105,114,115]⟩ u2 (.ref (A+355)),dE v9.1.fh ⟨#[120]⟩ v9.1.fu v9.1.fx,dE v9.1.fg ⟨#[108,101,97,118,101,115]⟩ v9.1.fv v9.1.fy] v9.1.fe)]) (m':=(v9.1.n+355)) (k':=v9.1.t) (z':=([((N+355),⟨(.type "tuple"),none,.seq ⟨[(.str (lv3 (x % 3)) (t+4)),(.str (cv3 (x / 3 % (x % 3 + 1))) (t+15))]⟩ 0,⟨[]⟩⟩)]++(List.map Ent.pair v9.1.news++[]))) ⟨⟨⟨⟨N,lv3 (x % 3),t+4,(.str (cv3 (x / 3 % (x % 3 + 1))) (t+15))⟩ :: v9.1.news,v9.1.fh,v9.1.fg,v9.1.fu,v9.1.fv,v9.1.fx,v9.1.fy,v9.1.fe,v9.1.i,v9.1.e,v9.1.n,v9.1.t⟩,by have:=v9.2.1; show N≤v9.1.n; omega,by rw [hd,List.map_cons,List.map_cons,v9.2.2.1,List.cons_eq_cons]; exact ⟨by show (_,_) = (lvOf x,cmOf x); unfold lvOf cmOf; rw [if_neg hb]; rfl,rfl⟩,fun y hy=>by rcases List.mem_cons.mp hy with rfl | hy; exact ⟨_,rfl⟩; exact v9.2.2.2 y hy⟩,rfl,(by try dsimp only [S₀]; simp [S₀,setO,Ent.v]),rfl,rfl,(by try dsimp only [S₀]; simp [S₀,Ent.pair])⟩)))))))))))
 exact ⟨P₀,by intro ⟨x1,x2,x3,x4⟩; cases x2 <;> kernel_rfl⟩
include MB hB in
theorem pa_01 (hD:Lim D U 60) (hb:18≤x) (hl:vs.length≤900) (hi:ds[i]? = some (.int (x:Nat) tx)) (hd:ds.drop i = .int (x:Nat) tx :: ds.drop (i+1)) (IH:A_14 N vs w r g d os B D U I F0 Q i A h1 h2 u1 u2 ds qe) :
  CutOk (XX w r g d os) B D U (paCode w r I F0) none [(I+355,iterO (Q+355) i),(A+355,listO vs e),(F0+355,frO (pa2 Q A h1 h2 u1 u2) pe)] [(Q+355,listO ds qe)] (N+355) (t) ({v:PaV // PaOut (ds.drop i) N v}) (fun v=>.ok .next) (fun v=>[]) (fun v=>[iterE v.1.i,listO (vs++v.1.news.map Ent.v) v.1.e,frO (pa4 Q A h1 h2 v.1.fh v.1.fg u1 u2 v.1.fu v.1.fv v.1.fx v.1.fy) v.1.fe]) (fun v=>v.1.n+355) (fun v=>v.1.t) (fun v=>v.1.news.map Ent.pair):=by
 refine .of_q MB hB hD.lo 14 1 ?_
 k_data
 let P₀:Rows→Pk (XX w r g d os) B D U S₀ []:=fun x₀=>(.a [1,1,1] [I+355,I+355] 1 0 0 0 [] [0] (next_some (hd:=none) (I:=I+355) (H:=Q+355) (i:=i) (e:=qe) (n:=N+355) (t:=t) (vs:=ds) (v:=.int (↑x) tx) hi) fun _=>(.a [5,5,5,1] (ixL [F0+355] [0,0,0]) 0 0 0 0 [] [] (imodN_ok (hd:=none) (n:=N+355) (t:=t+3) (ta:=tx) (tb:=t+2) (x:=x) (y:=3) (by decide)) fun _=>(.a [1] [] 0 0 0 0 [] [] (sgb_ok (m:=x % (3)) (N:=N) (t:=t+4) (t1:=t+1) (t2:=t+3) MB1 hB1 hD.up (Nat.mod_lt _ (by decide))) fun _=>(.a [5,5,5,1] (ixL [F0+355] [0,0,0]) 0 0 0 0 [] [] (ige_t (hd:=none) (n:=N+355) (t:=t+7) (a:=↑x) (b:=18) (ta:=tx) (tb:=t+6) (by omega)) fun _=>(.a [5,1] [F0+355] 0 0 0 0 [] [] (upper_ok (p:=lv3 (x % 3)) (tk:=t+4) (n:=N+355) (t:=t+7) MB1 hB1 hD.up (lv3_let _)) fun _=>(.a (d6 10 0x1553333555) (ix [F0+355,A+355] 9 0x111100) 0 0 0 0 [] [] (ifdivN_ok (hd:=none) (n:=N+355) (t:=t+11) (ta:=tx) (tb:=t+10) (x:=x) (y:=3) (by decide) (by decide)) fun _=>(.a [5,1] [F0+355] 0 0 0 0 [] [] (imodN_ok (hd:=none) (n:=N+355) (t:=t+13) (ta:=tx) (tb:=t+12) (x:=x) (y:=3) (by decide)) fun _=>(.a [1,1,1] [] 0 0 0 0 [] [] (imodS_ok (n:=N+355) (t:=t+16) (hd:=none) (ta:=t+11) (tb:=t+15) (x:=x / 3) (y:=x % 3)) fun _=>(.a [1] [] 0 0 0 0 [] [] (sga_ok (m:=(x / 3) % (x % 3 + 1)) (N:=N) (t:=t+17) (t1:=t+9) (t2:=t+16) MB1 hB1 hD.up (cm_lt x)) fun _=>(.a [1,5] [A+355] 4 0 0 0 [] [] (append_ok (hd:=none) (H:=A+355) (e:=e) (n:=N+356) (t:=t+18) (vs:=vs) (x:=.ref (N+355)) (by omega)) fun _=>(.o [] [] 14 0 0 0 [] [0] (IH (vs1:=vs++[(.ref (N+355))]) (e1:=e+1) (h31:=kh w r ⟨#[120]⟩) (h41:=kh w r ⟨#[108,101,97,118,101,115]⟩) (u31:=t) (u41:=t+5) (x1:=.int (↑x) tx) (le1:=.str (up (lv3 (x % 3))) (t+7)) (pe1:=pe+2) (N1:=N+1) (t1:=t+18) (by omega) (by simp)) fun v10=>(.h (r':=(.ok .next)) (l':=[((I+355),iterE v10.1.i),((A+355),listO (vs++[(.ref (N+355))]++List.map Ent.v v10.1.news) v10.1.e),((F0+355),frO [dE h1 ⟨#[100,114,97,119,115]⟩ u1 (.ref (Q+355)),dE h2 ⟨#[112,97,105,114,115]⟩ u2 (.ref (A+355)),dE v10.1.fh ⟨#[120]⟩ v10.1.fu v10.1.fx,dE v10.1.fg ⟨#[108,101,97,118,101,115]⟩ v10.1.fv v10.1.fy] v10.1.fe)]) (m':=(v10.1.n+355)) (k':=v10.1.t) (z':=([((N+355),⟨(.type "tuple"),none,.seq ⟨[(.str (up (lv3 (x % 3))) (t+7)),(.str (cv3 (x / 3 % (x % 3 + 1))) (t+17))]⟩ 0,⟨[]⟩⟩)]++(List.map Ent.pair v10.1.news++[]))) ⟨⟨⟨⟨N,up (lv3 (x % 3)),t+7,(.str (cv3 (x / 3 % (x % 3 + 1))) (t+17))⟩ :: v10.1.news,v10.1.fh,v10.1.fg,v10.1.fu,v10.1.fv,v10.1.fx,v10.1.fy,v10.1.fe,v10.1.i,v10.1.e,v10.1.n,v10.1.t⟩,by have:=v10.2.1; show N≤v10.1.n; omega,by rw [hd,List.map_cons,List.map_cons,v10.2.2.1,List.cons_eq_cons]; exact ⟨by show (_,_) = (lvOf x,cmOf x); unfold lvOf cmOf; rw [if_pos hb]; rfl,rfl⟩,fun y hy=>by rcases List.mem_cons.mp hy with rfl | hy; exact ⟨_,rfl⟩; exact v10.2.2.2 y hy⟩,rfl,(by try dsimp only [S₀]; simp [S₀,setO,Ent.v]),rfl,rfl,(by try dsimp only [S₀]; simp [S₀,Ent.pair])⟩))))))))))))
 exact ⟨P₀,by intro ⟨x1,x2,x3,x4⟩; cases x2 <;> kernel_rfl⟩
variable {h3 h4:Int} {u3 u4:Tok} {xv le:Value}
include MB hB in
theorem pa_10 (hD:Lim D U 60) (hb:¬ 18≤x) (hl:vs.length≤900) (hi:ds[i]? = some (.int (x:Nat) tx)) (hd:ds.drop i = .int (x:Nat) tx :: ds.drop (i+1)) (IH:A_14 N vs w r g d os B D U I F0 Q i A h1 h2 u1 u2 ds qe) :
  CutOk (XX w r g d os) B D U (paCode w r I F0) none [(I+355,iterO (Q+355) i),(A+355,listO vs e),(F0+355,frO (pa4 Q A h1 h2 h3 h4 u1 u2 u3 u4 xv le) pe)] [(Q+355,listO ds qe)] (N+355) (t) ({v:PaV // PaOut (ds.drop i) N v}) (fun v=>.ok .next) (fun v=>[]) (fun v=>[iterE v.1.i,listO (vs++v.1.news.map Ent.v) v.1.e,frO (pa4 Q A h1 h2 v.1.fh v.1.fg u1 u2 v.1.fu v.1.fv v.1.fx v.1.fy) v.1.fe]) (fun v=>v.1.n+355) (fun v=>v.1.t) (fun v=>v.1.news.map Ent.pair):=by
 refine .of_q MB hB hD.lo 14 1 ?_
 k_data
 let P₀:Rows→Pk (XX w r g d os) B D U S₀ []:=fun x₀=>(.a [1,1,1] [I+355,I+355] 1 0 0 0 [] [0] (next_some (hd:=none) (I:=I+355) (H:=Q+355) (i:=i) (e:=qe) (n:=N+355) (t:=t) (vs:=ds) (v:=.int (↑x) tx) hi) fun _=>(.a [5,5,5,1] (ixL [F0+355] [0,0,0]) 0 0 0 0 [] [] (imodN_ok (hd:=none) (n:=N+355) (t:=t+3) (ta:=tx) (tb:=t+2) (x:=x) (y:=3) (by decide)) fun _=>(.a [1] [] 0 0 0 0 [] [] (sgb_ok (m:=x % (3)) (N:=N) (t:=t+4) (t1:=t+1) (t2:=t+3) MB1 hB1 hD.up (Nat.mod_lt _ (by decide))) fun _=>(.a [5,5,5,1] (ixL [F0+355] [0,0,0]) 0 0 0 0 [] [] (ige_f (hd:=none) (n:=N+355) (t:=t+7) (a:=↑x) (b:=18) (ta:=tx) (tb:=t+6) (by omega)) fun _=>(.a (d6 8 0x15533335) (ix [F0+355,A+355] 7 0x111100) 0 0 0 0 [] [] (ifdivN_ok (hd:=none) (n:=N+355) (t:=t+9) (ta:=tx) (tb:=t+8) (x:=x) (y:=3) (by decide) (by decide)) fun _=>(.a [5,1] [F0+355] 0 0 0 0 [] [] (imodN_ok (hd:=none) (n:=N+355) (t:=t+11) (ta:=tx) (tb:=t+10) (x:=x) (y:=3) (by decide)) fun _=>(.a [1,1,1] [] 0 0 0 0 [] [] (imodS_ok (n:=N+355) (t:=t+14) (hd:=none) (ta:=t+9) (tb:=t+13) (x:=x / 3) (y:=x % 3)) fun _=>(.a [1] [] 0 0 0 0 [] [] (sga_ok (m:=(x / 3) % (x % 3 + 1)) (N:=N) (t:=t+15) (t1:=t+7) (t2:=t+14) MB1 hB1 hD.up (cm_lt x)) fun _=>(.a [1,5] [A+355] 4 0 0 0 [] [] (append_ok (hd:=none) (H:=A+355) (e:=e) (n:=N+356) (t:=t+16) (vs:=vs) (x:=.ref (N+355)) (by omega)) fun _=>(.o [] [] 14 0 0 0 [] [0] (IH (vs1:=vs++[(.ref (N+355))]) (e1:=e+1) (h31:=h3) (h41:=h4) (u31:=u3) (u41:=u4) (x1:=.int (↑x) tx) (le1:=.str (lv3 (x % 3)) (t+4)) (pe1:=pe) (N1:=N+1) (t1:=t+16) (by omega) (by simp)) fun v9=>(.h (r':=(.ok .next)) (l':=[((I+355),iterE v9.1.i),((A+355),listO (vs++[(.ref (N+355))]++List.map Ent.v v9.1.news) v9.1.e),((F0+355),frO [dE h1 ⟨#[100,114,97,119,115]⟩ u1 (.ref (Q+355)),dE h2 ⟨#[112,97,105,114,115]⟩ u2 (.ref (A+355)),dE v9.1.fh ⟨#[120]⟩ v9.1.fu v9.1.fx,dE v9.1.fg ⟨#[108,101,97,118,101,115]⟩ v9.1.fv v9.1.fy] v9.1.fe)]) (m':=(v9.1.n+355)) (k':=v9.1.t) (z':=([((N+355),⟨(.type "tuple"),none,.seq ⟨[(.str (lv3 (x % 3)) (t+4)),(.str (cv3 (x / 3 % (x % 3 + 1))) (t+15))]⟩ 0,⟨[]⟩⟩)]++(List.map Ent.pair v9.1.news++[]))) ⟨⟨⟨⟨N,lv3 (x % 3),t+4,(.str (cv3 (x / 3 % (x % 3 + 1))) (t+15))⟩ :: v9.1.news,v9.1.fh,v9.1.fg,v9.1.fu,v9.1.fv,v9.1.fx,v9.1.fy,v9.1.fe,v9.1.i,v9.1.e,v9.1.n,v9.1.t⟩,by have:=v9.2.1; show N≤v9.1.n; omega,by rw [hd,List.map_cons,List.map_cons,v9.2.2.1,List.cons_eq_cons]; exact ⟨by show (_,_) = (lvOf x,cmOf x); unfold lvOf cmOf; rw [if_neg hb]; rfl,rfl⟩,fun y hy=>by rcases List.mem_cons.mp hy with rfl | hy; exact ⟨_,rfl⟩; exact v9.2.2.2 y hy⟩,rfl,(by try dsimp only [S₀]; simp [S₀,setO,Ent.v]),rfl,rfl,(by try dsimp only [S₀]; simp [S₀,Ent.pair])⟩)))))))))))
 exact ⟨P₀,by intro ⟨x1,x2,x3,x4⟩; cases x2 <;> kernel_rfl⟩
include MB hB in
theorem pa_11 (hD:Lim D U 60) (hb:18≤x) (hl:vs.length≤900) (hi:ds[i]? = some (.int (x:Nat) tx)) (hd:ds.drop i = .int (x:Nat) tx :: ds.drop (i+1)) (IH:A_14 N vs w r g d os B D U I F0 Q i A h1 h2 u1 u2 ds qe) :
  CutOk (XX w r g d os) B D U (paCode w r I F0) none [(I+355,iterO (Q+355) i),(A+355,listO vs e),(F0+355,frO (pa4 Q A h1 h2 h3 h4 u1 u2 u3 u4 xv le) pe)] [(Q+355,listO ds qe)] (N+355) (t) ({v:PaV // PaOut (ds.drop i) N v}) (fun v=>.ok .next) (fun v=>[]) (fun v=>[iterE v.1.i,listO (vs++v.1.news.map Ent.v) v.1.e,frO (pa4 Q A h1 h2 v.1.fh v.1.fg u1 u2 v.1.fu v.1.fv v.1.fx v.1.fy) v.1.fe]) (fun v=>v.1.n+355) (fun v=>v.1.t) (fun v=>v.1.news.map Ent.pair):=by
 refine .of_q MB hB hD.lo 14 1 ?_
 k_data
 let P₀:Rows→Pk (XX w r g d os) B D U S₀ []:=fun x₀=>(.a [1,1,1] [I+355,I+355] 1 0 0 0 [] [0] (next_some (hd:=none) (I:=I+355) (H:=Q+355) (i:=i) (e:=qe) (n:=N+355) (t:=t) (vs:=ds) (v:=.int (↑x) tx) hi) fun _=>(.a [5,5,5,1] (ixL [F0+355] [0,0,0]) 0 0 0 0 [] [] (imodN_ok (hd:=none) (n:=N+355) (t:=t+3) (ta:=tx) (tb:=t+2) (x:=x) (y:=3) (by decide)) fun _=>(.a [1] [] 0 0 0 0 [] [] (sgb_ok (m:=x % (3)) (N:=N) (t:=t+4) (t1:=t+1) (t2:=t+3) MB1 hB1 hD.up (Nat.mod_lt _ (by decide))) fun _=>(.a [5,5,5,1] (ixL [F0+355] [0,0,0]) 0 0 0 0 [] [] (ige_t (hd:=none) (n:=N+355) (t:=t+7) (a:=↑x) (b:=18) (ta:=tx) (tb:=t+6) (by omega)) fun _=>(.a [5,1] [F0+355] 0 0 0 0 [] [] (upper_ok (p:=lv3 (x % 3)) (tk:=t+4) (n:=N+355) (t:=t+7) MB1 hB1 hD.up (lv3_let _)) fun _=>(.a (d6 10 0x1553333555) (ix [F0+355,A+355] 9 0x111100) 0 0 0 0 [] [] (ifdivN_ok (hd:=none) (n:=N+355) (t:=t+11) (ta:=tx) (tb:=t+10) (x:=x) (y:=3) (by decide) (by decide)) fun _=>(.a [5,1] [F0+355] 0 0 0 0 [] [] (imodN_ok (hd:=none) (n:=N+355) (t:=t+13) (ta:=tx) (tb:=t+12) (x:=x) (y:=3) (by decide)) fun _=>(.a [1,1,1] [] 0 0 0 0 [] [] (imodS_ok (n:=N+355) (t:=t+16) (hd:=none) (ta:=t+11) (tb:=t+15) (x:=x / 3) (y:=x % 3)) fun _=>(.a [1] [] 0 0 0 0 [] [] (sga_ok (m:=(x / 3) % (x % 3 + 1)) (N:=N) (t:=t+17) (t1:=t+9) (t2:=t+16) MB1 hB1 hD.up (cm_lt x)) fun _=>(.a [1,5] [A+355] 4 0 0 0 [] [] (append_ok (hd:=none) (H:=A+355) (e:=e) (n:=N+356) (t:=t+18) (vs:=vs) (x:=.ref (N+355)) (by omega)) fun _=>(.o [] [] 14 0 0 0 [] [0] (IH (vs1:=vs++[(.ref (N+355))]) (e1:=e+1) (h31:=h3) (h41:=h4) (u31:=u3) (u41:=u4) (x1:=.int (↑x) tx) (le1:=.str (up (lv3 (x % 3))) (t+7)) (pe1:=pe) (N1:=N+1) (t1:=t+18) (by omega) (by simp)) fun v10=>(.h (r':=(.ok .next)) (l':=[((I+355),iterE v10.1.i),((A+355),listO (vs++[(.ref (N+355))]++List.map Ent.v v10.1.news) v10.1.e),((F0+355),frO [dE h1 ⟨#[100,114,97,119,115]⟩ u1 (.ref (Q+355)),dE h2 ⟨#[112,97,105,114,115]⟩ u2 (.ref (A+355)),dE v10.1.fh ⟨#[120]⟩ v10.1.fu v10.1.fx,dE v10.1.fg ⟨#[108,101,97,118,101,115]⟩ v10.1.fv v10.1.fy] v10.1.fe)]) (m':=(v10.1.n+355)) (k':=v10.1.t) (z':=([((N+355),⟨(.type "tuple"),none,.seq ⟨[(.str (up (lv3 (x % 3))) (t+7)),(.str (cv3 (x / 3 % (x % 3 + 1))) (t+17))]⟩ 0,⟨[]⟩⟩)]++(List.map Ent.pair v10.1.news++[]))) ⟨⟨⟨⟨N,up (lv3 (x % 3)),t+7,(.str (cv3 (x / 3 % (x % 3 + 1))) (t+17))⟩ :: v10.1.news,v10.1.fh,v10.1.fg,v10.1.fu,v10.1.fv,v10.1.fx,v10.1.fy,v10.1.fe,v10.1.i,v10.1.e,v10.1.n,v10.1.t⟩,by have:=v10.2.1; show N≤v10.1.n; omega,by rw [hd,List.map_cons,List.map_cons,v10.2.2.1,List.cons_eq_cons]; exact ⟨by show (_,_) = (lvOf x,cmOf x); unfold lvOf cmOf; rw [if_pos hb]; rfl,rfl⟩,fun y hy=>by rcases List.mem_cons.mp hy with rfl | hy; exact ⟨_,rfl⟩; exact v10.2.2.2 y hy⟩,rfl,(by try dsimp only [S₀]; simp [S₀,setO,Ent.v]),rfl,rfl,(by try dsimp only [S₀]; simp [S₀,Ent.pair])⟩))))))))))))
 exact ⟨P₀,by intro ⟨x1,x2,x3,x4⟩; cases x2 <;> kernel_rfl⟩
include MB hB in
theorem pa_end (hD:Lim D U 60) (hi:ds[i]? = none) :
  CutOk (XX w r g d os) B D U (paCode w r I F0) none [(I+355,iterO (Q+355) i),(A+355,listO vs e),(F0+355,frO (pa4 Q A h1 h2 h3 h4 u1 u2 u3 u4 xv le) pe)] [(Q+355,listO ds qe)] (N+355) (t) ({v:PaV // PaOut (ds.drop i) N v}) (fun v=>.ok .next) (fun v=>[]) (fun v=>[iterE v.1.i,listO (vs++v.1.news.map Ent.v) v.1.e,frO (pa4 Q A h1 h2 v.1.fh v.1.fg u1 u2 v.1.fu v.1.fv v.1.fx v.1.fy) v.1.fe]) (fun v=>v.1.n+355) (fun v=>v.1.t) (fun v=>v.1.news.map Ent.pair):=by
 refine .of_q MB hB hD.lo 28 0 ?_
 intro S₀
 let P₀:Rows→Pk (XX w r g d os) B D U S₀ []:=fun x₀=>(.a [1,1,1] [I+355,I+355] 1 0 0 0 [] [0] (next_none (I:=I+355) (H:=Q+355) (i:=i) (e:=qe) (n:=N+355) (t:=t) (vs:=ds) hi) fun _=>(.k [1,1] [N+356] (r':=(.ok .next)) (l':=[((I+355),iterE i),((A+355),listO vs e),((F0+355),frO [dE h1 ⟨#[100,114,97,119,115]⟩ u1 (.ref (Q+355)),dE h2 ⟨#[112,97,105,114,115]⟩ u2 (.ref (A+355)),dE h3 ⟨#[120]⟩ u3 xv,dE h4 ⟨#[108,101,97,118,101,115]⟩ u4 le] pe)]) (m':=(N+357)) (k':=t) (z':=[]) ⟨⟨⟨[],h3,h4,u3,u4,xv,le,pe,i,e,N+2,t⟩,by show N≤N+2; omega,by rw [List.drop_of_length_le (by simpa using hi)]; rfl,fun x h=>nomatch h⟩,rfl,(by try dsimp only [S₀]; simp [S₀,setO]),rfl,rfl,rfl⟩))
 exact ⟨P₀,by intro x; kernel_rfl⟩
include MB hB in
theorem pa_end0 (hD:Lim D U 60) (hi:ds[i]? = none) :
  CutOk (XX w r g d os) B D U (paCode w r I F0) none [(I+355,iterO (Q+355) i),(A+355,listO vs e),(F0+355,frO (pa2 Q A h1 h2 u1 u2) pe)] [(Q+355,listO ds qe)] (N+355) (t) ({v:Mx // N≤v.n}) (fun v=>.ok .next) (fun v=>[]) (fun v=>[iterE i,listO vs e,frO (pa2 Q A h1 h2 u1 u2) pe]) (fun v=>v.1.n+355) (fun v=>v.1.t) (fun v=>[]):=by
 refine .of_q MB hB hD.lo 28 0 ?_
 intro S₀
 let P₀:Rows→Pk (XX w r g d os) B D U S₀ []:=fun x₀=>(.a [1,1,1] [I+355,I+355] 1 0 0 0 [] [0] (next_none (I:=I+355) (H:=Q+355) (i:=i) (e:=qe) (n:=N+355) (t:=t) (vs:=ds) hi) fun _=>(.f [1,1] [N+356] ⟨⟨0,N+2,t⟩,by show N≤N+2; omega⟩))
 exact ⟨P₀,by intro x; kernel_rfl⟩
end
section
section
variable {w:World} {r:Rows} {g:Array GenState} {d:Drawn} {os:OsState} {B:Heap→Prop} {D U:Nat}
theorem pa_loop1 (MB:Mono B) (hB:∀ h,B h→(KF (pr w r)).In h) (hD:Lim D U 60) {I F0 Q A qe:Nat} {h1 h2:Int} {u1 u2:Tok} {ds:List Value} (hall:∀ v∈ds,∃ (x:Nat) (tx:Tok),v = .int x tx) :
  ∀ (m i:Nat),ds.length = i + m→∀ (vs:List Value) (e:Nat) (h3 h4:Int) (u3 u4:Tok) (xv le:Value) (pe N t:Nat),vs.length + m≤900 →
  CutOk (XX w r g d os) B D U (paCode w r I F0) none [(I+355,iterO (Q+355) (i)),(A+355,listO vs e),(F0+355,frO (pa4 Q A h1 h2 h3 h4 u1 u2 u3 u4 xv le) pe)] [(Q+355,listO ds qe)] (N+355) t ({v:PaV // PaOut (ds.drop (i)) N v}) (fun _=>.ok .next) (fun _=>[]) (fun v=>[iterE v.1.i,listO (vs++v.1.news.map Ent.v) v.1.e,frO (pa4 Q A h1 h2 v.1.fh v.1.fg u1 u2 v.1.fu v.1.fv v.1.fx v.1.fy) v.1.fe]) (fun v=>v.1.n+355) (fun v=>v.1.t) (fun v=>v.1.news.map Ent.pair):=by
 intro m
 induction m with
 | zero =>
  intro i hi vs e h3 h4 u3 u4 xv le pe N t hl
  exact pa_end MB hB hD (by simp; omega)
 | succ m ih =>
  intro i hi vs e h3 h4 u3 u4 xv le pe N t hl
  have hlt:i < ds.length:=by omega
  have hv:ds[i]? = some ds[i]:=List.getElem?_eq_getElem hlt
  have hd:ds.drop i = ds[i] :: ds.drop (i+1):=List.drop_eq_getElem_cons hlt
  obtain ⟨x,tx,hx⟩:=hall ds[i] (List.getElem_mem hlt)
  rw [hx] at hv hd
  have IH:=fun (vs1:List Value) (e1:Nat) (h31 h41:Int) (u31 u41:Tok) (x1 le1:Value) (pe1 N1 t1:Nat) (_:N≤N1) (q:vs1.length≤vs.length+1) => ih (i+1) (by omega) vs1 e1 h31 h41 u31 u41 x1 le1 pe1 N1 t1 (by omega)
  by_cases hb:18≤x
  ·exact pa_11 MB hB hD hb (by omega) hv hd IH
  ·exact pa_10 MB hB hD hb (by omega) hv hd IH
theorem pa_loop0 (MB:Mono B) (hB:∀ h,B h→(KF (pr w r)).In h) (hD:Lim D U 60) {I F0 Q A qe:Nat} {h1 h2:Int} {u1 u2:Tok} {ds:List Value} (hall:∀ v∈ds,∃ (x:Nat) (tx:Tok),v = .int x tx) (h0:0 < ds.length∧ds.length≤400) {vs:List Value} {e pe N t:Nat} (hl:vs.length≤400) :
  CutOk (XX w r g d os) B D U (paCode w r I F0) none [(I+355,iterO (Q+355) (0)),(A+355,listO vs e),(F0+355,frO (pa2 Q A h1 h2 u1 u2) pe)] [(Q+355,listO ds qe)] (N+355) t ({v:PaV // PaOut (ds.drop (0)) N v}) (fun _=>.ok .next) (fun _=>[]) (fun v=>[iterE v.1.i,listO (vs++v.1.news.map Ent.v) v.1.e,frO (pa4 Q A h1 h2 v.1.fh v.1.fg u1 u2 v.1.fu v.1.fv v.1.fx v.1.fy) v.1.fe]) (fun v=>v.1.n+355) (fun v=>v.1.t) (fun v=>v.1.news.map Ent.pair):=by
  have hlt:0 < ds.length:=h0.1
  have hv:ds[0]? = some ds[0]:=List.getElem?_eq_getElem hlt
  have hd:ds.drop 0 = ds[0] :: ds.drop (0+1):=List.drop_eq_getElem_cons hlt
  obtain ⟨x,tx,hx⟩:=hall ds[0] (List.getElem_mem hlt)
  rw [hx] at hv hd
  have IH:=fun (vs1:List Value) (e1:Nat) (h31 h41:Int) (u31 u41:Tok) (x1 le1:Value) (pe1 N1 t1:Nat) (_:N≤N1) (q:vs1.length≤vs.length+1) => pa_loop1 (g:=g) (d:=d) (os:=os) MB hB hD (I:=I) (F0:=F0) (Q:=Q) (A:=A) (qe:=qe) (h1:=h1) (h2:=h2) (u1:=u1) (u2:=u2) (ds:=ds) hall (ds.length - 1) (0+1) (by omega) vs1 e1 h31 h41 u31 u41 x1 le1 pe1 N1 t1 (by omega)
  by_cases hb:18≤x
  ·exact pa_01 MB hB hD hb (by omega) hv hd IH
  ·exact pa_00 MB hB hD hb (by omega) hv hd IH
end
noncomputable def ini (N t:Nat):List Ent:=[⟨N+1,uD,t+1,.str sc (t+2)⟩,⟨N+2,sd,t+3,.str sb (t+4)⟩,⟨N+3,sc,t+5,.str sb (t+6)⟩,⟨N+4,uC,t+7,.str sa (t+8)⟩,⟨N+5,sb,t+9,.str sa (t+10)⟩]
variable {Q qe N t:Nat} {ds:List Value}
include MB hB in
theorem pairs_n (hD:Lim D U 70) (hall:∀ v∈ds,∃ (x:Nat) (tx:Tok),v = .int x tx) (h0:0 < ds.length∧ds.length≤400) :
  CutOk (XX w r g d os) B D U (.call (.ref 322) ⟨[.ref (Q+355)],[]⟩) none [] [(Q+355,listO ds qe)] (N+355) (t) ({v:PaV // PaOut ds N v}) (fun v=>.ok (.ret (.ref (N+361)))) (fun v=>[(N+361,listO ((ini N t++v.1.news).map Ent.v) v.1.e)]) (fun v=>[]) (fun v=>v.1.n+355) (fun v=>v.1.t) (fun v=>(ini N t).reverse.map Ent.pair++v.1.news.map Ent.pair):=by
 refine CutOk.of_pk MB hB hD.lo (by intro v p hp; simp only [List.mem_cons,List.not_mem_nil,or_false] at hp; rcases hp with rfl <;> (have hv:=v.2; dsimp only at *; omega)) (fun _=>rfl) 2 124 ?_
 k_data
 let P₀:Rows→Pk (XX w r g d os) B D U S₀ []:=fun x₀=>(.a (d6 15 0x112122ddd101100) (ix [N+362,Q+355,N+355] 9 0x222221110) 131 0 1 3 [] [0] (pa_loop0 (I:=N+7) (F0:=N) (Q:=Q) (A:=N+6) (qe:=qe) (h1:=kh w r ⟨#[100,114,97,119,115]⟩) (h2:=kh w r ⟨#[112,97,105,114,115]⟩) (u1:=t) (u2:=t+11) (ds:=ds) (vs:=[(.ref (N+356)),(.ref (N+357)),(.ref (N+358)),(.ref (N+359)),(.ref (N+360))]) (e:=0) (pe:=2) (N:=N+8) (t:=t+12) MB1 hB1 hD.up hall h0 (by simp)) fun v0=>(.k [15] [N+355] (r':=(.ok (.ret (.ref (N+361))))) (l':=[((N+361),listO ([(.ref (N+356)),(.ref (N+357)),(.ref (N+358)),(.ref (N+359)),(.ref (N+360))]++List.map Ent.v v0.1.news) v0.1.e)]) (m':=(v0.1.n+355)) (k':=v0.1.t) (z':=([((N+360),⟨(.type "tuple"),none,.seq ⟨[(.str ⟨#[98]⟩ (t+9)),(.str ⟨#[97]⟩ (t+10))]⟩ 0,⟨[]⟩⟩),((N+359),⟨(.type "tuple"),none,.seq ⟨[(.str ⟨#[67]⟩ (t+7)),(.str ⟨#[97]⟩ (t+8))]⟩ 0,⟨[]⟩⟩),((N+358),⟨(.type "tuple"),none,.seq ⟨[(.str ⟨#[99]⟩ (t+5)),(.str ⟨#[98]⟩ (t+6))]⟩ 0,⟨[]⟩⟩),((N+357),⟨(.type "tuple"),none,.seq ⟨[(.str ⟨#[100]⟩ (t+3)),(.str ⟨#[98]⟩ (t+4))]⟩ 0,⟨[]⟩⟩),((N+356),⟨(.type "tuple"),none,.seq ⟨[(.str ⟨#[68]⟩ (t+1)),(.str ⟨#[99]⟩ (t+2))]⟩ 0,⟨[]⟩⟩)]++(List.map Ent.pair v0.1.news++[]))) ⟨⟨v0.1,by have:=v0.2; exact ⟨by have:=this.1; omega,by simpa using this.2.1,this.2.2⟩⟩,rfl,rfl,rfl,rfl,(by try dsimp only [S₀]; simp [S₀,ini,Ent.pair]; decide)⟩))
 exact ⟨P₀,by intro ⟨x1,x2,x3,x4⟩; cases x2 <;> kernel_rfl⟩
include MB hB in
theorem pairs_0 (hD:Lim D U 70) (hall:∀ v∈ds,∃ (x:Nat) (tx:Tok),v = .int x tx) (h0:ds = []) :
  CutOk (XX w r g d os) B D U (.call (.ref 322) ⟨[.ref (Q+355)],[]⟩) none [] [(Q+355,listO ds qe)] (N+355) (t) ({v:PaV // PaOut ds N v}) (fun v=>.ok (.ret (.ref (N+361)))) (fun v=>[(N+361,listO ((ini N t++v.1.news).map Ent.v) v.1.e)]) (fun v=>[]) (fun v=>v.1.n+355) (fun v=>v.1.t) (fun v=>(ini N t).reverse.map Ent.pair++v.1.news.map Ent.pair):=by
 refine CutOk.of_pk MB hB hD.lo (by intro v p hp; simp only [List.mem_cons,List.not_mem_nil,or_false] at hp; rcases hp with rfl <;> (have hv:=v.2; dsimp only at *; omega)) (fun _=>rfl) 2 124 ?_
 k_data
 let P₀:Rows→Pk (XX w r g d os) B D U S₀ []:=fun x₀=>(.a (d6 15 0x112122ddd101100) (ix [N+362,Q+355,N+355] 9 0x222221110) 131 0 1 3 [] [0] (pa_end0 (I:=N+7) (F0:=N) (Q:=Q) (A:=N+6) (qe:=qe) (e:=0) (pe:=2) (i:=0) (N:=N+8) (t:=t+12) (h1:=kh w r ⟨#[100,114,97,119,115]⟩) (h2:=kh w r ⟨#[112,97,105,114,115]⟩) (u1:=t) (u2:=t+11) (vs:=[(.ref (N+356)),(.ref (N+357)),(.ref (N+358)),(.ref (N+359)),(.ref (N+360))]) (ds:=ds) MB1 hB1 hD.up (by rw [h0]; rfl)) fun v0=>(.f [15] [N+355] ⟨⟨[],0,0,0,0,.none,.none,0,0,0,v0.1.n,v0.1.t⟩,by subst h0; exact ⟨by have:=v0.2; show N≤v0.1.n; omega,rfl,fun _ h=>nomatch h⟩⟩))
 exact ⟨P₀,by intro ⟨x1,x2,x3,x4⟩; cases x2 <;> kernel_rfl⟩
include MB hB in
theorem pairs_ok (hD:Lim D U 70) (hall:∀ v∈ds,∃ (x:Nat) (tx:Tok),v = .int x tx) (hl:ds.length≤400) :
  CutOk (XX w r g d os) B D U (.call (.ref 322) ⟨[.ref (Q+355)],[]⟩) none [] [(Q+355,listO ds qe)] (N+355) t {v:PaV // PaOut ds N v} (fun _=>.ok (.ret (.ref (N+361)))) (fun v=>[(N+361,listO ((ini N t++v.1.news).map Ent.v) v.1.e)]) (fun _=>[]) (fun v=>v.1.n+355) (fun v=>v.1.t) (fun v=>(ini N t).reverse.map Ent.pair++v.1.news.map Ent.pair):=by
 rcases Nat.eq_zero_or_pos ds.length with h | h
 ·exact pairs_0 MB hB hD hall (List.length_eq_zero_iff.mp h)
 ·exact pairs_n MB hB hD hall ⟨h,hl⟩
end
section
variable {N t:Nat} {t1 t2:Tok}
include MB hB in
theorem sg_abcd0 (hD:Lim D U 50)  :
  CutOk (XX w r g d os) B D U (.builtin "str.__getitem__" ⟨[.str (⟨#[97,98,99,100]⟩:Str) t1,.int 0 t2],[]⟩) none [] [] (N+355) (t) (Unit) (fun v=>.ok (.ret (.str ⟨#[97]⟩ t))) (fun v=>[]) (fun v=>[]) (fun v=>N+355) (fun v=>t+1) (fun v=>[]):=by
 refine .of_q MB hB hD.lo 0 0 ?_
 intro S₀
 let P₀:Rows→Pk (XX w r g d os) B D U S₀ []:=fun x₀=>(.f [] [] ())
 exact ⟨P₀,by intro x; kernel_rfl⟩
include MB hB in
theorem sg_abcd1 (hD:Lim D U 50)  :
  CutOk (XX w r g d os) B D U (.builtin "str.__getitem__" ⟨[.str (⟨#[97,98,99,100]⟩:Str) t1,.int 1 t2],[]⟩) none [] [] (N+355) (t) (Unit) (fun v=>.ok (.ret (.str ⟨#[98]⟩ t))) (fun v=>[]) (fun v=>[]) (fun v=>N+355) (fun v=>t+1) (fun v=>[]):=by
 refine .of_q MB hB hD.lo 0 0 ?_
 intro S₀
 let P₀:Rows→Pk (XX w r g d os) B D U S₀ []:=fun x₀=>(.f [] [] ())
 exact ⟨P₀,by intro x; kernel_rfl⟩
include MB hB in
theorem sg_abcd2 (hD:Lim D U 50)  :
  CutOk (XX w r g d os) B D U (.builtin "str.__getitem__" ⟨[.str (⟨#[97,98,99,100]⟩:Str) t1,.int 2 t2],[]⟩) none [] [] (N+355) (t) (Unit) (fun v=>.ok (.ret (.str ⟨#[99]⟩ t))) (fun v=>[]) (fun v=>[]) (fun v=>N+355) (fun v=>t+1) (fun v=>[]):=by
 refine .of_q MB hB hD.lo 0 0 ?_
 intro S₀
 let P₀:Rows→Pk (XX w r g d os) B D U S₀ []:=fun x₀=>(.f [] [] ())
 exact ⟨P₀,by intro x; kernel_rfl⟩
include MB hB in
theorem sg_abcd3 (hD:Lim D U 50)  :
  CutOk (XX w r g d os) B D U (.builtin "str.__getitem__" ⟨[.str (⟨#[97,98,99,100]⟩:Str) t1,.int 3 t2],[]⟩) none [] [] (N+355) (t) (Unit) (fun v=>.ok (.ret (.str ⟨#[100]⟩ t))) (fun v=>[]) (fun v=>[]) (fun v=>N+355) (fun v=>t+1) (fun v=>[]):=by
 refine .of_q MB hB hD.lo 0 0 ?_
 intro S₀
 let P₀:Rows→Pk (XX w r g d os) B D U S₀ []:=fun x₀=>(.f [] [] ())
 exact ⟨P₀,by intro x; kernel_rfl⟩
noncomputable def lt4 (m:Nat):Str:=if m = 0 then sa else if m = 1 then sb else if m = 2 then sc else sd
theorem lt4_let (m:Nat):Let (lt4 m):=by
 unfold lt4 Let
 split
 ·simp
 ·split
  ·simp
  ·split <;> simp
variable {m:Nat}
include MB hB in
theorem sgd_ok (hD:Lim D U 50) (hm:m < 4) :
  CutOk (XX w r g d os) B D U (.builtin "str.__getitem__" ⟨[.str (⟨#[97,98,99,100]⟩:Str) t1,.int (m:Nat) t2],[]⟩) none [] [] (N+355) t Unit (fun _=>.ok (.ret (.str (lt4 m) t))) (fun _=>[]) (fun _=>[]) (fun _=>N+355) (fun _=>t+1) (fun _=>[]):=by
 rcases m with _ | _ | _ | _ | m
 ·exact sg_abcd0 MB hB hD
 ·exact sg_abcd1 MB hB hD
 ·exact sg_abcd2 MB hB hD
 ·exact sg_abcd3 MB hB hD
 ·omega
structure ClV where
 nw:List Value
 fh:Int
 fu:Tok
 fx:Value
 ae:Nat
 i:Nat
 n:Nat
 t:Nat
noncomputable def DrOk (v:Value):Prop:=∃ (x:Nat) (tx:Tok),v = .int x tx∧x < 36
noncomputable def SpOk (v:Value):Prop:=∃ (q:Str) (tq:Tok),v = .str q tq∧Let q
noncomputable def ClOut (P:Value→Prop) (m N:Nat) (v:ClV):Prop:=N≤v.n∧v.nw.length = m∧∀ x∈v.nw,P x
theorem fmod36 (i:Int) (t:Tok):DrOk (.int (i.fmod 36) t):=by
 refine ⟨(i.fmod 36).toNat,t,?_,?_⟩
 ·have h1:0≤i.fmod 36:=Int.fmod_nonneg_of_pos _ (by decide)
  rw [Int.toNat_of_nonneg h1]
 ·have h1:0≤i.fmod 36:=Int.fmod_nonneg_of_pos _ (by decide)
  have h2:i.fmod 36 < 36:=Int.fmod_lt_of_pos _ (by decide)
  omega
noncomputable def binR:Expr→Expr
 | .BinOp _ _ e _ => e
 | _ => noE
noncomputable abbrev drCode (w:World) (r:Rows) (L5 A I F0:Nat):Code:=.compLoop (asgE (nthS (fnBody (KF (pr w r)) 354) 0)) 0 (.ref (I+355)) (.ref (A+355)) { scope:=compSc (asgE (nthS (fnBody (KF (pr w r)) 354) 0)),locals:=L5+355,globals:=3,cells:=[],qual:=(⟨#[108,97,119,46,60,108,111,99,97,108,115,62,46]⟩:Str),func:=none,code:=.ref 353,frame:=some (F0+355),builtins:=0 }
noncomputable abbrev A_24 (acc:List Value) (χ:ClV):List Obj:=[dictO [dE χ.fh (⟨#[120]⟩:Str) χ.fu χ.fx] 1,listO (acc++χ.nw) χ.ae,iterE χ.i]
variable {L5 A I F0 G ge ae i:Nat} {x0:Int} {tx:Tok} {vs acc:List Value}
include MB hB in
theorem dr_0 (hD:Lim D U 60) (ha:acc.length≤900) (hi:vs[i]? = some (.int x0 tx))  (IH:∀ (acc1:List Value) (ae1:Nat) (h11:Int) (u11:Tok) (v11:Value) (N1 t1:Nat),N≤N1→acc1.length≤acc.length+1→CutOk (XX w r g d os) B D U (drCode w r L5 A I F0) none [(L5+355,dictO [dE h11 (⟨#[120]⟩:Str) u11 v11] 1),(A+355,listO acc1 ae1),(I+355,iterO (G+355) (i+1))] [(G+355,listO vs ge)] (N1+355) t1 ({v:ClV // ClOut DrOk (vs.length - (i+1)) N1 v}) (fun _=>.ok .next) (fun _=>[]) (fun v=>[dictO [dE v.1.fh (⟨#[120]⟩:Str) v.1.fu v.1.fx] 1,listO (acc1++v.1.nw) v.1.ae,iterE v.1.i]) (fun v=>v.1.n+355) (fun v=>v.1.t) (fun _=>[])) :
  CutOk (XX w r g d os) B D U (drCode w r L5 A I F0) none [(L5+355,dictO [] 0),(A+355,listO acc ae),(I+355,iterO (G+355) (i))] [(G+355,listO vs ge)] (N+355) (t) ({v:ClV // ClOut DrOk (vs.length - i) N v}) (fun v=>.ok .next) (fun v=>[]) (fun v=>A_24 acc v.1) (fun v=>v.1.n+355) (fun v=>v.1.t) (fun v=>[]):=by
 refine .of_q MB hB hD.lo 7 0 ?_
 intro S₀
 let P₀:Rows→Pk (XX w r g d os) B D U S₀ []:=fun x₀=>(.a [5,1,5] [I+355,I+355] 4 0 0 0 [] [0] (next_some (hd:=none) (I:=I+355) (H:=G+355) (i:=i) (e:=ge) (n:=N+355) (t:=t) (vs:=vs) (v:=.int x0 tx) hi) fun _=>(.a [1,1,1,1] (ixL [L5+355] [0,0,0]) 0 0 0 0 [] [] (imod_ok (hd:=none) (n:=N+355) (t:=t+2) (a:=x0) (b:=36) (ta:=tx) (tb:=t+1) (by decide)) fun _=>(.a [1,3] [A+355] 2 0 0 0 [] [] (append_ok (hd:=none) (H:=A+355) (e:=ae) (n:=N+355) (t:=t+3) (vs:=acc) (x:=.int (x0.fmod 36) (t+2)) (by omega)) fun _=>(.o [] [] 7 0 0 0 [] [0] (IH (acc1:=acc++[Value.int (x0.fmod 36) (t+2)]) (ae1:=ae+1) (h11:=kh w r ⟨#[120]⟩) (u11:=t) (v11:=.int x0 tx) (N1:=N) (t1:=t+3) (by omega) (by simp)) fun v3=>(.h (r':=(.ok .next)) (l':=[((L5+355),dictO [dE v3.1.fh ⟨#[120]⟩ v3.1.fu v3.1.fx] 1),((A+355),listO (acc++[Value.int (x0.fmod 36) (t+2)]++v3.1.nw) v3.1.ae),((I+355),iterE v3.1.i)]) (m':=(v3.1.n+355)) (k':=v3.1.t) (z':=[]) ⟨⟨⟨.int (x0.fmod 36) (t+2) :: v3.1.nw,v3.1.fh,v3.1.fu,v3.1.fx,v3.1.ae,v3.1.i,v3.1.n,v3.1.t⟩,by have q:=v3.2; have hlt:=(List.getElem?_eq_some_iff.mp hi).1; exact ⟨by have:=q.1; show N≤v3.1.n; omega,by show (_ :: v3.1.nw).length = _; rw [List.length_cons,q.2.1]; omega,fun y hy=>by rcases List.mem_cons.mp hy with rfl | hy; exact fmod36 _ _; exact q.2.2 y hy⟩⟩,rfl,(by try dsimp only [S₀]; simp [S₀,setO]),rfl,rfl,rfl⟩)))))
 exact ⟨P₀,by intro x; kernel_rfl⟩
noncomputable abbrev A_32 (L5:Nat) (h1:Int) (u1:Tok) (v1:Value) (A:Nat) (acc:List Value) (ae I G i:Nat):List (Addr × Obj):=[(L5+355,dictO [dE h1 (⟨#[120]⟩:Str) u1 v1] 1),(A+355,listO acc ae),(I+355,iterO (G+355) (i))]
variable {h1:Int} {u1:Tok} {v1:Value}
include MB hB in
theorem dr_1 (hD:Lim D U 60) (ha:acc.length≤900) (hi:vs[i]? = some (.int x0 tx))  (IH:∀ (acc1:List Value) (ae1:Nat) (h11:Int) (u11:Tok) (v11:Value) (N1 t1:Nat),N≤N1→acc1.length≤acc.length+1→CutOk (XX w r g d os) B D U (drCode w r L5 A I F0) none [(L5+355,dictO [dE h11 (⟨#[120]⟩:Str) u11 v11] 1),(A+355,listO acc1 ae1),(I+355,iterO (G+355) (i+1))] [(G+355,listO vs ge)] (N1+355) t1 ({v:ClV // ClOut DrOk (vs.length - (i+1)) N1 v}) (fun _=>.ok .next) (fun _=>[]) (fun v=>[dictO [dE v.1.fh (⟨#[120]⟩:Str) v.1.fu v.1.fx] 1,listO (acc1++v.1.nw) v.1.ae,iterE v.1.i]) (fun v=>v.1.n+355) (fun v=>v.1.t) (fun _=>[])) :
  CutOk (XX w r g d os) B D U (drCode w r L5 A I F0) none (A_32 L5 h1 u1 v1 A acc ae I G i) [(G+355,listO vs ge)] (N+355) (t) ({v:ClV // ClOut DrOk (vs.length - i) N v}) (fun v=>.ok .next) (fun v=>[]) (fun v=>A_24 acc v.1) (fun v=>v.1.n+355) (fun v=>v.1.t) (fun v=>[]):=by
 refine .of_q MB hB hD.lo 7 0 ?_
 intro S₀
 let P₀:Rows→Pk (XX w r g d os) B D U S₀ []:=fun x₀=>(.a [5,1,5] [I+355,I+355] 4 0 0 0 [] [0] (next_some (hd:=none) (I:=I+355) (H:=G+355) (i:=i) (e:=ge) (n:=N+355) (t:=t) (vs:=vs) (v:=.int x0 tx) hi) fun _=>(.a [1,1,1,1] (ixL [L5+355] [0,0,0]) 0 0 0 0 [] [] (imod_ok (hd:=none) (n:=N+355) (t:=t+2) (a:=x0) (b:=36) (ta:=tx) (tb:=t+1) (by decide)) fun _=>(.a [1,3] [A+355] 2 0 0 0 [] [] (append_ok (hd:=none) (H:=A+355) (e:=ae) (n:=N+355) (t:=t+3) (vs:=acc) (x:=.int (x0.fmod 36) (t+2)) (by omega)) fun _=>(.o [] [] 7 0 0 0 [] [0] (IH (acc1:=acc++[Value.int (x0.fmod 36) (t+2)]) (ae1:=ae+1) (h11:=h1) (u11:=u1) (v11:=.int x0 tx) (N1:=N) (t1:=t+3) (by omega) (by simp)) fun v3=>(.h (r':=(.ok .next)) (l':=[((L5+355),dictO [dE v3.1.fh ⟨#[120]⟩ v3.1.fu v3.1.fx] 1),((A+355),listO (acc++[Value.int (x0.fmod 36) (t+2)]++v3.1.nw) v3.1.ae),((I+355),iterE v3.1.i)]) (m':=(v3.1.n+355)) (k':=v3.1.t) (z':=[]) ⟨⟨⟨.int (x0.fmod 36) (t+2) :: v3.1.nw,v3.1.fh,v3.1.fu,v3.1.fx,v3.1.ae,v3.1.i,v3.1.n,v3.1.t⟩,by have q:=v3.2; have hlt:=(List.getElem?_eq_some_iff.mp hi).1; exact ⟨by have:=q.1; show N≤v3.1.n; omega,by show (_ :: v3.1.nw).length = _; rw [List.length_cons,q.2.1]; omega,fun y hy=>by rcases List.mem_cons.mp hy with rfl | hy; exact fmod36 _ _; exact q.2.2 y hy⟩⟩,rfl,(by try dsimp only [S₀]; simp [S₀,setO]),rfl,rfl,rfl⟩)))))
 exact ⟨P₀,by intro x; kernel_rfl⟩
include MB hB in
theorem dr_end (hD:Lim D U 60) (hi:vs[i]? = none) :
  CutOk (XX w r g d os) B D U (drCode w r L5 A I F0) none (A_32 L5 h1 u1 v1 A acc ae I G i) [(G+355,listO vs ge)] (N+355) (t) ({v:ClV // ClOut DrOk (vs.length - i) N v}) (fun v=>.ok .next) (fun v=>[]) (fun v=>A_24 acc v.1) (fun v=>v.1.n+355) (fun v=>v.1.t) (fun v=>[]):=by
 refine .of_q MB hB hD.lo 28 0 ?_
 intro S₀
 let P₀:Rows→Pk (XX w r g d os) B D U S₀ []:=fun x₀=>(.a [5,1,5] [I+355,I+355] 4 0 0 0 [] [0] (next_none (I:=I+355) (H:=G+355) (i:=i) (e:=ge) (n:=N+355) (t:=t) (vs:=vs) hi) fun _=>(.k [1] [N+356] (r':=(.ok .next)) (l':=[((L5+355),dictO [dE h1 ⟨#[120]⟩ u1 v1] 1),((A+355),listO acc ae),((I+355),iterE i)]) (m':=(N+357)) (k':=t) (z':=[]) ⟨⟨⟨[],h1,u1,v1,ae,i,N+2,t⟩,by have hlt:vs.length≤i:=(by simpa using hi); exact ⟨by show N≤N+2; omega,by show 0 = _; omega,fun _ h=>nomatch h⟩⟩,rfl,(by try dsimp only [S₀]; simp [S₀,setO]),rfl,rfl,rfl⟩))
 exact ⟨P₀,by intro x; kernel_rfl⟩
include MB hB in
theorem dr_end0 (hD:Lim D U 60) (hi:vs[0]? = none) :
  CutOk (XX w r g d os) B D U (drCode w r L5 A I F0) none [(L5+355,dictO [] 0),(A+355,listO acc ae),(I+355,iterO (G+355) (0))] [(G+355,listO vs ge)] (N+355) (t) ({v:Mx // N≤v.n}) (fun v=>.ok .next) (fun v=>[]) (fun v=>[dictO [] 0,listO acc ae,iterE 0]) (fun v=>v.1.n+355) (fun v=>v.1.t) (fun v=>[]):=by
 refine .of_q MB hB hD.lo 28 0 ?_
 intro S₀
 let P₀:Rows→Pk (XX w r g d os) B D U S₀ []:=fun x₀=>(.a [5,1,5] [I+355,I+355] 4 0 0 0 [] [0] (next_none (I:=I+355) (H:=G+355) (i:=0) (e:=ge) (n:=N+355) (t:=t) (vs:=vs) hi) fun _=>(.f [1] [N+356] ⟨⟨0,N+2,t⟩,by show N≤N+2; omega⟩))
 exact ⟨P₀,by intro x; kernel_rfl⟩
section
variable {w:World} {r:Rows} {g:Array GenState} {d:Drawn} {os:OsState} {B:Heap→Prop} {D U:Nat}
theorem dr_loop1 (MB:Mono B) (hB:∀ h,B h→(KF (pr w r)).In h) (hD:Lim D U 60) {L5 A I F0 G ge:Nat} {vs:List Value} (hall:∀ v∈vs,∃ (x0:Int) (tx:Tok),v = .int x0 tx):∀ (m i:Nat),vs.length = i + m→∀ (acc:List Value) (ae:Nat) (h1:Int) (u1:Tok) (v1:Value) (N t:Nat),acc.length + m≤900 →
  CutOk (XX w r g d os) B D U (drCode w r L5 A I F0) none (A_32 L5 h1 u1 v1 A acc ae I G i) [(G+355,listO vs ge)] (N+355) t ({v:ClV // ClOut DrOk (vs.length - i) N v}) (fun _=>.ok .next) (fun _=>[]) (fun v=>A_24 acc v.1) (fun v=>v.1.n+355) (fun v=>v.1.t) (fun _=>[]):=by
 intro m
 induction m with
 | zero => intro i hi acc ae h1 u1 v1 N t ha; exact dr_end MB hB hD (by simp; omega)
 | succ m ih =>
  intro i hi acc ae h1 u1 v1 N t ha
  have hlt:i < vs.length:=by omega
  have hv:vs[i]? = some vs[i]:=List.getElem?_eq_getElem hlt
  obtain ⟨x0,tx,hx⟩:=hall vs[i] (List.getElem_mem hlt)
  rw [hx] at hv
  exact dr_1 MB hB hD (by omega) hv  (fun acc1 ae1 h11 u11 v11 N1 t1 _ q=>ih (i+1) (by omega) acc1 ae1 h11 u11 v11 N1 t1 (by omega))
theorem dr_loop0 (MB:Mono B) (hB:∀ h,B h→(KF (pr w r)).In h) (hD:Lim D U 60) {L5 A I F0 G ge:Nat} {vs:List Value} (hall:∀ v∈vs,∃ (x0:Int) (tx:Tok),v = .int x0 tx) (h0:0 < vs.length∧vs.length≤400) {acc:List Value} {ae N t:Nat} (ha:acc.length≤400) :
  CutOk (XX w r g d os) B D U (drCode w r L5 A I F0) none [(L5+355,dictO [] 0),(A+355,listO acc ae),(I+355,iterO (G+355) (0))] [(G+355,listO vs ge)] (N+355) t ({v:ClV // ClOut DrOk (vs.length - 0) N v}) (fun _=>.ok .next) (fun _=>[]) (fun v=>A_24 acc v.1) (fun v=>v.1.n+355) (fun v=>v.1.t) (fun _=>[]):=by
  have hlt:0 < vs.length:=h0.1
  have hv:vs[0]? = some vs[0]:=List.getElem?_eq_getElem hlt
  obtain ⟨x0,tx,hx⟩:=hall vs[0] (List.getElem_mem hlt)
  rw [hx] at hv
  exact dr_0 MB hB hD (by omega) hv  (fun acc1 ae1 h11 u11 v11 N1 t1 _ q=>dr_loop1 (g:=g) (d:=d) (os:=os) MB hB hD (L5:=L5) (A:=A) (I:=I) (F0:=F0) (G:=G) (ge:=ge) (vs:=vs) hall (vs.length - 1) (0+1) (by omega) acc1 ae1 h11 u11 v11 N1 t1 (by omega))
end
noncomputable abbrev spCode (w:World) (r:Rows) (L5 A I F0:Nat):Code:=.compLoop (binR (asgE (nthS (fnBody (KF (pr w r)) 354) 2))) 0 (.ref (I+355)) (.ref (A+355)) { scope:=compSc (binR (asgE (nthS (fnBody (KF (pr w r)) 354) 2))),locals:=L5+355,globals:=3,cells:=[],qual:=(⟨#[108,97,119,46,60,108,111,99,97,108,115,62,46]⟩:Str),func:=none,code:=.ref 353,frame:=some (F0+355),builtins:=0 }
variable {xn:Nat}
include MB hB in
theorem sp_0 (hD:Lim D U 60) (ha:acc.length≤900) (hi:vs[i]? = some (.int (xn:Nat) tx)) (h36:xn < 36) (IH:∀ (acc1:List Value) (ae1:Nat) (h11:Int) (u11:Tok) (v11:Value) (N1 t1:Nat),N≤N1→acc1.length≤acc.length+1→CutOk (XX w r g d os) B D U (spCode w r L5 A I F0) none [(L5+355,dictO [dE h11 (⟨#[120]⟩:Str) u11 v11] 1),(A+355,listO acc1 ae1),(I+355,iterO (G+355) (i+1))] [(G+355,listO vs ge)] (N1+355) t1 ({v:ClV // ClOut SpOk (vs.length - (i+1)) N1 v}) (fun _=>.ok .next) (fun _=>[]) (fun v=>[dictO [dE v.1.fh (⟨#[120]⟩:Str) v.1.fu v.1.fx] 1,listO (acc1++v.1.nw) v.1.ae,iterE v.1.i]) (fun v=>v.1.n+355) (fun v=>v.1.t) (fun _=>[])) :
  CutOk (XX w r g d os) B D U (spCode w r L5 A I F0) none [(L5+355,dictO [] 0),(A+355,listO acc ae),(I+355,iterO (G+355) (i))] [(G+355,listO vs ge)] (N+355) (t) ({v:ClV // ClOut SpOk (vs.length - i) N v}) (fun v=>.ok .next) (fun v=>[]) (fun v=>A_24 acc v.1) (fun v=>v.1.n+355) (fun v=>v.1.t) (fun v=>[]):=by
 refine .of_q MB hB hD.lo 7 0 ?_
 k_data
 let P₀:Rows→Pk (XX w r g d os) B D U S₀ []:=fun x₀=>(.a [5,1,5] [I+355,I+355] 4 0 0 0 [] [0] (next_some (hd:=none) (I:=I+355) (H:=G+355) (i:=i) (e:=ge) (n:=N+355) (t:=t) (vs:=vs) (v:=.int (↑xn) tx) hi) fun _=>(.a [1,1,1,1] (ixL [L5+355] [0,0,0]) 0 0 0 0 [] [] (ifdivN_ok (hd:=none) (n:=N+355) (t:=t+3) (ta:=tx) (tb:=t+2) (x:=xn) (y:=9) (by decide) (by decide)) fun _=>(.a [1] [] 0 0 0 0 [] [] (sgd_ok (m:=xn / 9) (N:=N) (t:=t+4) (t1:=t+1) (t2:=t+3) MB1 hB1 hD.up (by omega)) fun _=>(.a [1,3] [A+355] 2 0 0 0 [] [] (append_ok (hd:=none) (H:=A+355) (e:=ae) (n:=N+355) (t:=t+5) (vs:=acc) (x:=.str (lt4 (xn / 9)) (t+4)) (by omega)) fun _=>(.o [] [] 7 0 0 0 [] [0] (IH (acc1:=acc++[Value.str (lt4 (xn / 9)) (t+4)]) (ae1:=ae+1) (h11:=kh w r ⟨#[120]⟩) (u11:=t) (v11:=.int (↑xn) tx) (N1:=N) (t1:=t+5) (by omega) (by simp)) fun v4=>(.h (r':=(.ok .next)) (l':=[((L5+355),dictO [dE v4.1.fh ⟨#[120]⟩ v4.1.fu v4.1.fx] 1),((A+355),listO (acc++[Value.str (lt4 (xn / 9)) (t+4)]++v4.1.nw) v4.1.ae),((I+355),iterE v4.1.i)]) (m':=(v4.1.n+355)) (k':=v4.1.t) (z':=[]) ⟨⟨⟨.str (lt4 (xn / 9)) (t+4) :: v4.1.nw,v4.1.fh,v4.1.fu,v4.1.fx,v4.1.ae,v4.1.i,v4.1.n,v4.1.t⟩,by have q:=v4.2; have hlt:=(List.getElem?_eq_some_iff.mp hi).1; exact ⟨by have:=q.1; show N≤v4.1.n; omega,by show (_ :: v4.1.nw).length = _; rw [List.length_cons,q.2.1]; omega,fun y hy=>by rcases List.mem_cons.mp hy with rfl | hy; exact ⟨_,_,rfl,lt4_let _⟩; exact q.2.2 y hy⟩⟩,rfl,(by try dsimp only [S₀]; simp [S₀,setO]),rfl,rfl,rfl⟩))))))
 exact ⟨P₀,by intro x; kernel_rfl⟩
include MB hB in
theorem sp_1 (hD:Lim D U 60) (ha:acc.length≤900) (hi:vs[i]? = some (.int (xn:Nat) tx)) (h36:xn < 36) (IH:∀ (acc1:List Value) (ae1:Nat) (h11:Int) (u11:Tok) (v11:Value) (N1 t1:Nat),N≤N1→acc1.length≤acc.length+1→CutOk (XX w r g d os) B D U (spCode w r L5 A I F0) none [(L5+355,dictO [dE h11 (⟨#[120]⟩:Str) u11 v11] 1),(A+355,listO acc1 ae1),(I+355,iterO (G+355) (i+1))] [(G+355,listO vs ge)] (N1+355) t1 ({v:ClV // ClOut SpOk (vs.length - (i+1)) N1 v}) (fun _=>.ok .next) (fun _=>[]) (fun v=>[dictO [dE v.1.fh (⟨#[120]⟩:Str) v.1.fu v.1.fx] 1,listO (acc1++v.1.nw) v.1.ae,iterE v.1.i]) (fun v=>v.1.n+355) (fun v=>v.1.t) (fun _=>[])) :
  CutOk (XX w r g d os) B D U (spCode w r L5 A I F0) none (A_32 L5 h1 u1 v1 A acc ae I G i) [(G+355,listO vs ge)] (N+355) (t) ({v:ClV // ClOut SpOk (vs.length - i) N v}) (fun v=>.ok .next) (fun v=>[]) (fun v=>A_24 acc v.1) (fun v=>v.1.n+355) (fun v=>v.1.t) (fun v=>[]):=by
 refine .of_q MB hB hD.lo 7 0 ?_
 k_data
 let P₀:Rows→Pk (XX w r g d os) B D U S₀ []:=fun x₀=>(.a [5,1,5] [I+355,I+355] 4 0 0 0 [] [0] (next_some (hd:=none) (I:=I+355) (H:=G+355) (i:=i) (e:=ge) (n:=N+355) (t:=t) (vs:=vs) (v:=.int (↑xn) tx) hi) fun _=>(.a [1,1,1,1] (ixL [L5+355] [0,0,0]) 0 0 0 0 [] [] (ifdivN_ok (hd:=none) (n:=N+355) (t:=t+3) (ta:=tx) (tb:=t+2) (x:=xn) (y:=9) (by decide) (by decide)) fun _=>(.a [1] [] 0 0 0 0 [] [] (sgd_ok (m:=xn / 9) (N:=N) (t:=t+4) (t1:=t+1) (t2:=t+3) MB1 hB1 hD.up (by omega)) fun _=>(.a [1,3] [A+355] 2 0 0 0 [] [] (append_ok (hd:=none) (H:=A+355) (e:=ae) (n:=N+355) (t:=t+5) (vs:=acc) (x:=.str (lt4 (xn / 9)) (t+4)) (by omega)) fun _=>(.o [] [] 7 0 0 0 [] [0] (IH (acc1:=acc++[Value.str (lt4 (xn / 9)) (t+4)]) (ae1:=ae+1) (h11:=h1) (u11:=u1) (v11:=.int (↑xn) tx) (N1:=N) (t1:=t+5) (by omega) (by simp)) fun v4=>(.h (r':=(.ok .next)) (l':=[((L5+355),dictO [dE v4.1.fh ⟨#[120]⟩ v4.1.fu v4.1.fx] 1),((A+355),listO (acc++[Value.str (lt4 (xn / 9)) (t+4)]++v4.1.nw) v4.1.ae),((I+355),iterE v4.1.i)]) (m':=(v4.1.n+355)) (k':=v4.1.t) (z':=[]) ⟨⟨⟨.str (lt4 (xn / 9)) (t+4) :: v4.1.nw,v4.1.fh,v4.1.fu,v4.1.fx,v4.1.ae,v4.1.i,v4.1.n,v4.1.t⟩,by have q:=v4.2; have hlt:=(List.getElem?_eq_some_iff.mp hi).1; exact ⟨by have:=q.1; show N≤v4.1.n; omega,by show (_ :: v4.1.nw).length = _; rw [List.length_cons,q.2.1]; omega,fun y hy=>by rcases List.mem_cons.mp hy with rfl | hy; exact ⟨_,_,rfl,lt4_let _⟩; exact q.2.2 y hy⟩⟩,rfl,(by try dsimp only [S₀]; simp [S₀,setO]),rfl,rfl,rfl⟩))))))
 exact ⟨P₀,by intro x; kernel_rfl⟩
include MB hB in
theorem sp_end (hD:Lim D U 60) (hi:vs[i]? = none) :
  CutOk (XX w r g d os) B D U (spCode w r L5 A I F0) none (A_32 L5 h1 u1 v1 A acc ae I G i) [(G+355,listO vs ge)] (N+355) (t) ({v:ClV // ClOut SpOk (vs.length - i) N v}) (fun v=>.ok .next) (fun v=>[]) (fun v=>A_24 acc v.1) (fun v=>v.1.n+355) (fun v=>v.1.t) (fun v=>[]):=by
 refine .of_q MB hB hD.lo 28 0 ?_
 intro S₀
 let P₀:Rows→Pk (XX w r g d os) B D U S₀ []:=fun x₀=>(.a [5,1,5] [I+355,I+355] 4 0 0 0 [] [0] (next_none (I:=I+355) (H:=G+355) (i:=i) (e:=ge) (n:=N+355) (t:=t) (vs:=vs) hi) fun _=>(.k [1] [N+356] (r':=(.ok .next)) (l':=[((L5+355),dictO [dE h1 ⟨#[120]⟩ u1 v1] 1),((A+355),listO acc ae),((I+355),iterE i)]) (m':=(N+357)) (k':=t) (z':=[]) ⟨⟨⟨[],h1,u1,v1,ae,i,N+2,t⟩,by have hlt:vs.length≤i:=(by simpa using hi); exact ⟨by show N≤N+2; omega,by show 0 = _; omega,fun _ h=>nomatch h⟩⟩,rfl,(by try dsimp only [S₀]; simp [S₀,setO]),rfl,rfl,rfl⟩))
 exact ⟨P₀,by intro x; kernel_rfl⟩
include MB hB in
theorem sp_end0 (hD:Lim D U 60) (hi:vs[0]? = none) :
  CutOk (XX w r g d os) B D U (spCode w r L5 A I F0) none [(L5+355,dictO [] 0),(A+355,listO acc ae),(I+355,iterO (G+355) (0))] [(G+355,listO vs ge)] (N+355) (t) ({v:Mx // N≤v.n}) (fun v=>.ok .next) (fun v=>[]) (fun v=>[dictO [] 0,listO acc ae,iterE 0]) (fun v=>v.1.n+355) (fun v=>v.1.t) (fun v=>[]):=by
 refine .of_q MB hB hD.lo 28 0 ?_
 intro S₀
 let P₀:Rows→Pk (XX w r g d os) B D U S₀ []:=fun x₀=>(.a [5,1,5] [I+355,I+355] 4 0 0 0 [] [0] (next_none (I:=I+355) (H:=G+355) (i:=0) (e:=ge) (n:=N+355) (t:=t) (vs:=vs) hi) fun _=>(.f [1] [N+356] ⟨⟨0,N+2,t⟩,by show N≤N+2; omega⟩))
 exact ⟨P₀,by intro x; kernel_rfl⟩
section
variable {w:World} {r:Rows} {g:Array GenState} {d:Drawn} {os:OsState} {B:Heap→Prop} {D U:Nat}
theorem sp_loop1 (MB:Mono B) (hB:∀ h,B h→(KF (pr w r)).In h) (hD:Lim D U 60) {L5 A I F0 G ge:Nat} {vs:List Value} (hall:∀ v∈vs,DrOk v):∀ (m i:Nat),vs.length = i + m→∀ (acc:List Value) (ae:Nat) (h1:Int) (u1:Tok) (v1:Value) (N t:Nat),acc.length + m≤900 →
  CutOk (XX w r g d os) B D U (spCode w r L5 A I F0) none (A_32 L5 h1 u1 v1 A acc ae I G i) [(G+355,listO vs ge)] (N+355) t ({v:ClV // ClOut SpOk (vs.length - i) N v}) (fun _=>.ok .next) (fun _=>[]) (fun v=>A_24 acc v.1) (fun v=>v.1.n+355) (fun v=>v.1.t) (fun _=>[]):=by
 intro m
 induction m with
 | zero => intro i hi acc ae h1 u1 v1 N t ha; exact sp_end MB hB hD (by simp; omega)
 | succ m ih =>
  intro i hi acc ae h1 u1 v1 N t ha
  have hlt:i < vs.length:=by omega
  have hv:vs[i]? = some vs[i]:=List.getElem?_eq_getElem hlt
  obtain ⟨xn,tx,hx,h36⟩:=hall vs[i] (List.getElem_mem hlt)
  rw [hx] at hv
  exact sp_1 MB hB hD (by omega) hv h36 (fun acc1 ae1 h11 u11 v11 N1 t1 _ q=>ih (i+1) (by omega) acc1 ae1 h11 u11 v11 N1 t1 (by omega))
theorem sp_loop0 (MB:Mono B) (hB:∀ h,B h→(KF (pr w r)).In h) (hD:Lim D U 60) {L5 A I F0 G ge:Nat} {vs:List Value} (hall:∀ v∈vs,DrOk v) (h0:0 < vs.length∧vs.length≤400) {acc:List Value} {ae N t:Nat} (ha:acc.length≤400) :
  CutOk (XX w r g d os) B D U (spCode w r L5 A I F0) none [(L5+355,dictO [] 0),(A+355,listO acc ae),(I+355,iterO (G+355) (0))] [(G+355,listO vs ge)] (N+355) t ({v:ClV // ClOut SpOk (vs.length - 0) N v}) (fun _=>.ok .next) (fun _=>[]) (fun v=>A_24 acc v.1) (fun v=>v.1.n+355) (fun v=>v.1.t) (fun _=>[]):=by
  have hlt:0 < vs.length:=h0.1
  have hv:vs[0]? = some vs[0]:=List.getElem?_eq_getElem hlt
  obtain ⟨xn,tx,hx,h36⟩:=hall vs[0] (List.getElem_mem hlt)
  rw [hx] at hv
  exact sp_0 MB hB hD (by omega) hv h36 (fun acc1 ae1 h11 u11 v11 N1 t1 _ q=>sp_loop1 (g:=g) (d:=d) (os:=os) MB hB hD (L5:=L5) (A:=A) (I:=I) (F0:=F0) (G:=G) (ge:=ge) (vs:=vs) hall (vs.length - 1) (0+1) (by omega) acc1 ae1 h11 u11 v11 N1 t1 (by omega))
end
end
section
variable {T dT H e N t:Nat} {es:List Ent}
include MB hB in
theorem init2_ok (hD:Lim D U 70) (hg:∀ x∈es,Good x) (hp:∀ h,B h→PairsIn es h) :
  CutOk (XX w r g d os) B D U (.call (.ref 76) ⟨[.ref (T+355),.ref (H+355)],[]⟩) none [(T+355,hdrO dT),(dT+355,dictO [] 0)] [(H+355,listO (es.map Ent.v) e)] (N+355) (t) ({v:GaV // N≤v.n}) (fun v=>.ok (.ret .none)) (fun v=>[]) (fun v=>[hdrO dT,hdrD (kz w r (⟨#[95,104,101,97,100,101,114,115]⟩:Str)) (t+4) H]) (fun v=>v.1.n+355) (fun v=>v.1.t) (fun v=>[]):=by
 refine .of_q MB hB hD.lo 12 0 ?_
 k_data
 let P₀:Rows→Pk (XX w r g d os) B D U S₀ []:=fun x₀=>(.a (d6 49 0x1121221555030003031031000311002111001111101111000) (ix [N+356,H+355,N+355,dT+355,T+355] 25 0x2222222221224444433321110) 3 12 1 3 [1,2] [0,1,3] (ini_loop0 (es:=es) (I:=N+1) (F0:=N) (T:=T) (dT:=dT) (H:=H) (e:=e) (h1:=kz w r ⟨#[95,104,101,97,100,101,114,115]⟩) (hs:=kh w r ⟨#[115,101,108,102]⟩) (hh:=kh w r ⟨#[104,101,97,100,101,114,115]⟩) (t1:=t+4) (ts:=t) (th:=t+1) (ep:=2) (N:=N+2) (t:=t+5) MB1 hB1 hD.up hg (fun h b=>hp h b.1)) fun v0=>(.f [] [] ⟨v0.1,by have:=v0.2; omega⟩))
 exact ⟨P₀,by intro ⟨x1,x2,x3,x4⟩; cases x2 <;> kernel_rfl⟩
end
section
variable {G Vd e ev N t:Nat} {h1 h2 h3 h4:Int} {u1 u2 u3 u4:Tok} {ka kb kc kd:Nat} {ua ub uc ud:Tok} {es:List Ent}
include MB hB in
theorem rows2_ok (hD:Lim D U 80) (hes:0 < es.length∧es.length≤400) (hg:∀ x∈es,Dwn x) (hpr:∀ h,B h→PairsIn es h) :
  CutOk (XX w r g d os) B D U (.call (.ref 349) ⟨[.ref (G+355),.ref (Vd+355)],[]⟩) none [] [(G+355,listO (es.map Ent.v) e),(Vd+355,dictO (en4 h1 h2 h3 h4 u1 u2 u3 u4 (.int (ka:Nat) ua) (.int (kb:Nat) ub) (.int (kc:Nat) uc) (.int (kd:Nat) ud)) ev)] (N+355) (t) ({v:RwV // N≤v.a∧N≤v.b∧N≤v.c∧N≤v.d∧N≤v.n}) (fun v=>.ok (.ret (.ref (N+357)))) (fun v=>[(v.1.d+355,listO (turned kd (hits sd es)) 0),(v.1.c+355,listO (turned kc (hits sc es)) 0),(v.1.b+355,listO (turned kb (hits sb es)) 0),(v.1.a+355,listO (turned ka (hits sa es)) 0),(N+357,listO [.ref (v.1.a+355),.ref (v.1.b+355),.ref (v.1.c+355),.ref (v.1.d+355)] 4)]) (fun v=>[]) (fun v=>v.1.n+355) (fun v=>v.1.t) (fun v=>[]):=by
 refine CutOk.of_pk MB hB hD.lo (by intro v p hp; simp only [List.mem_cons,List.not_mem_nil,or_false] at hp; rcases hp with rfl | rfl | rfl | rfl | rfl <;> (have hv:=v.2; dsimp only at *; omega)) (fun _=>rfl) 34427110404 0 ?_
 k_data
 let P₀:Rows→Pk (XX w r g d os) B D U S₀ []:=fun x₀=>(.a (cond x₀.a (d6 32 0x11121227551111111111115510333300) (d6 38 0x51515511121227551111111111115510333300)) (cond x₀.a (ix [N+359,G+355,N+355,N+356,N+358] 20 0x22222244444443321110) (ix [N+359,G+355,N+355,N+356,N+358] 24 0x222222444444433211100000)) 7 32 1 3 [0] [1,0] (rc_loop0 (L5:=N+6) (A:=N+5) (I:=N+4) (C:=N+1) (F0:=N) (G:=G) (ge:=e) (nm:=⟨#[97]⟩) (tn:=t+4) (es:=es) (N:=N+7) (t:=t+5) MB1 hB1 hD.up (by first | exact .inl rfl | exact .inr (.inl rfl) | exact .inr (.inr (.inl rfl)) | exact .inr (.inr (.inr rfl))) hg (fun h b=>hpr h b.1) hes) fun v0=>(.a (d6 15 0x41444bd111111dd) (ix [Vd+355,N+356,N+355,N+361] 14 0x22333333210000) 0 0 1 3 [] [2] (dget_ok (hd:=none) (n:=v0.1.n+355) (t:=v0.1.t+1) (H:=Vd+355) (es:=[dE h1 ⟨#[97]⟩ u1 (.int (↑ka) ua),dE h2 ⟨#[98]⟩ u2 (.int (↑kb) ub),dE h3 ⟨#[99]⟩ u3 (.int (↑kc) uc),dE h4 ⟨#[100]⟩ u4 (.int (↑kd) ud)]) (ep:=ev) (k:=⟨#[97]⟩) (tk:=t+4) rfl rfl) fun _=>(.a (d6 6 0x1d0000) [N+355] 0 2 1 3 [0] [1] (len_ok (hd:=none) (n:=v0.1.n+355) (t:=v0.1.t+3) (H:=N+360) (vs:=hits ⟨#[97]⟩ es) (e:=v0.1.ae) (Nat.le_trans hits_len (by omega))) fun _=>(.a [1] [] 0 0 1 3 [] [] (max1_ok (x:=(hits ⟨#[97]⟩ es).length) (N:=v0.1.n) (t:=v0.1.t+5) (t1:=v0.1.t+2) (t2:=v0.1.t+4) MB1 hB1 hD.up) fun v3=>(.a [1] [] 0 0 1 3 [] [] (imodN_ok (hd:=none) (n:=v3.1.n+355) (t:=v3.1.t) (ta:=ua) (tb:=v3.1.k) (x:=ka) (y:=Decidable.rec (fun h=>(fun x=>1) h) (fun h=>(fun x=>(hits ⟨#[97]⟩ es).length) h) (Nat.decLe 1 (hits ⟨#[97]⟩ es).length)) (by have:=Nat.le_max_left 1 (hits sa es).length; have:=Nat.le_max_left 1 (hits sb es).length; have:=Nat.le_max_left 1 (hits sc es).length; have:=Nat.le_max_left 1 (hits sd es).length; first | exact Nat.pos_iff_ne_zero.mp (Nat.lt_of_lt_of_le Nat.one_pos (Nat.le_max_left 1 _)))) fun _=>(.a (d6 14 0x51555dd9999ddd) (ix [N+360,N+355,N+357] 13 0x1112222110000) 0 5 1 3 [1,0] [3,1] (from_ok (hd:=none) (H:=N+360) (S:=v3.1.n+355) (e:=v0.1.ae) (n:=v3.1.n+356) (t:=v3.1.t+2) (a:=ka % (max 1 (hits ⟨#[97]⟩ es).length)) (ta:=v3.1.t) (vs:=hits ⟨#[97]⟩ es) (Nat.le_trans hits_len (by omega))) fun _=>(.a (d8 7 0x9010909091111) (ix [N+360,N+355] 6 0x110000) 0 17 1 3 [1,0] [3,1] (upto_ok (hd:=none) (H:=N+360) (S:=v3.1.n+357) (e:=v0.1.ae) (n:=v3.1.n+358) (t:=v3.1.t+2) (a:=ka % (max 1 (hits ⟨#[97]⟩ es).length)) (ta:=v3.1.t) (vs:=hits ⟨#[97]⟩ es) (Nat.le_trans hits_len (by omega))) fun _=>(.a [5,1,5,1,5] (ixL [v3.1.n+356,v3.1.n+358] [0,0,1,0]) 0 5 1 3 [1,0] [3,1] (ladd_ok (hd:=none) (n:=v3.1.n+359) (t:=v3.1.t+2) (H:=v3.1.n+356) (G:=v3.1.n+358) (vs:=List.drop (ka % max 1 (hits ⟨#[97]⟩ es).length) (hits ⟨#[97]⟩ es)) (ws:=List.take (ka % max 1 (hits ⟨#[97]⟩ es).length) (hits ⟨#[97]⟩ es)) (e:=0) (e':=0) (by simp only [List.length_drop,List.length_take]; have h1:=hits_len (p:=sa) (es:=es); have h2:=hits_len (p:=sb) (es:=es); have h3:=hits_len (p:=sc) (es:=es); have h4:=hits_len (p:=sd) (es:=es); unfold sa at h1; unfold sb at h2; unfold sc at h3; unfold sd at h4; omega)) fun _=>(.a (cond x₀.a (d8 25 0x1010102010202171515111111110111011101131313011301) (d8 31 0x5010501050501010102010202171515111111110111011101131313011301)) (cond x₀.a (ix [v3.1.n+360,G+355,N+355,N+356,N+358,N+357] 17 0x55554444443321110) (ix [v3.1.n+360,G+355,N+355,N+356,N+358,N+357] 21 0x555544444433211100000)) 7 8192 1 3 [0] [1,0] (rc_loop0 (L5:=v3.1.n+7) (A:=v3.1.n+6) (I:=v3.1.n+5) (C:=N+1) (F0:=N) (G:=G) (ge:=e) (nm:=⟨#[98]⟩) (tn:=v3.1.t+2) (es:=es) (N:=v3.1.n+8) (t:=v3.1.t+3) MB1 hB1 hD.up (by first | exact .inl rfl | exact .inr (.inl rfl) | exact .inr (.inr (.inl rfl)) | exact .inr (.inr (.inr rfl))) hg (fun h b=>hpr h b.1) hes) fun v8=>(.a (d8 15 0x4010404041b1d0101010101011d1d) (ix [Vd+355,N+356,N+355,v3.1.n+362] 14 0x22333333210000) 0 0 1 3 [] [2] (dget_ok (hd:=none) (n:=v8.1.n+355) (t:=v8.1.t+1) (H:=Vd+355) (es:=[dE h1 ⟨#[97]⟩ u1 (.int (↑ka) ua),dE h2 ⟨#[98]⟩ u2 (.int (↑kb) ub),dE h3 ⟨#[99]⟩ u3 (.int (↑kc) uc),dE h4 ⟨#[100]⟩ u4 (.int (↑kd) ud)]) (ep:=ev) (k:=⟨#[98]⟩) (tk:=v3.1.t+2) rfl rfl) fun _=>(.a (d8 6 0x11d00000000) [N+355] 0 2 1 3 [0] [1] (len_ok (hd:=none) (n:=v8.1.n+355) (t:=v8.1.t+3) (H:=v3.1.n+361) (vs:=hits ⟨#[98]⟩ es) (e:=v8.1.ae) (Nat.le_trans hits_len (by omega))) fun _=>(.a [1] [] 0 0 1 3 [] [] (max1_ok (x:=(hits ⟨#[98]⟩ es).length) (N:=v8.1.n) (t:=v8.1.t+5) (t1:=v8.1.t+2) (t2:=v8.1.t+4) MB1 hB1 hD.up) fun v11=>(.a [1] [] 0 0 1 3 [] [] (imodN_ok (hd:=none) (n:=v11.1.n+355) (t:=v11.1.t) (ta:=ub) (tb:=v11.1.k) (x:=kb) (y:=Decidable.rec (fun h=>(fun x=>1) h) (fun h=>(fun x=>(hits ⟨#[98]⟩ es).length) h) (Nat.decLe 1 (hits ⟨#[98]⟩ es).length)) (by have:=Nat.le_max_left 1 (hits sa es).length; have:=Nat.le_max_left 1 (hits sb es).length; have:=Nat.le_max_left 1 (hits sc es).length; have:=Nat.le_max_left 1 (hits sd es).length; first | exact Nat.pos_iff_ne_zero.mp (Nat.lt_of_lt_of_le Nat.one_pos (Nat.le_max_left 1 _)))) fun _=>(.a (d8 14 0x5010505051d1d191919191d1d1d) (ix [v3.1.n+361,N+355,N+357] 13 0x1112222110000) 0 5 1 3 [1,0] [3,1] (from_ok (hd:=none) (H:=v3.1.n+361) (S:=v11.1.n+355) (e:=v8.1.ae) (n:=v11.1.n+356) (t:=v11.1.t+2) (a:=kb % (max 1 (hits ⟨#[98]⟩ es).length)) (ta:=v11.1.t) (vs:=hits ⟨#[98]⟩ es) (Nat.le_trans hits_len (by omega))) fun _=>(.a (d8 7 0x9010909092121) (ix [v3.1.n+361,N+355] 6 0x110000) 0 17 1 3 [1,0] [3,1] (upto_ok (hd:=none) (H:=v3.1.n+361) (S:=v11.1.n+357) (e:=v8.1.ae) (n:=v11.1.n+358) (t:=v11.1.t+2) (a:=kb % (max 1 (hits ⟨#[98]⟩ es).length)) (ta:=v11.1.t) (vs:=hits ⟨#[98]⟩ es) (Nat.le_trans hits_len (by omega))) fun _=>(.a [5,1,5,1,5] (ixL [v11.1.n+356,v11.1.n+358] [0,0,1,0]) 0 5 1 3 [1,0] [3,1] (ladd_ok (hd:=none) (n:=v11.1.n+359) (t:=v11.1.t+2) (H:=v11.1.n+356) (G:=v11.1.n+358) (vs:=List.drop (kb % max 1 (hits ⟨#[98]⟩ es).length) (hits ⟨#[98]⟩ es)) (ws:=List.take (kb % max 1 (hits ⟨#[98]⟩ es).length) (hits ⟨#[98]⟩ es)) (e:=0) (e':=0) (by simp only [List.length_drop,List.length_take]; have h1:=hits_len (p:=sa) (es:=es); have h2:=hits_len (p:=sb) (es:=es); have h3:=hits_len (p:=sc) (es:=es); have h4:=hits_len (p:=sd) (es:=es); unfold sa at h1; unfold sb at h2; unfold sc at h3; unfold sd at h4; omega)) fun _=>(.a (cond x₀.a (d8 25 0x1010102010202272525212121210121012101232323012301) (d8 31 0x5010501050501010102010202272525212121210121012101232323012301)) (cond x₀.a (ix [v11.1.n+360,G+355,N+355,N+356,N+358,N+357] 17 0x55554444443321110) (ix [v11.1.n+360,G+355,N+355,N+356,N+358,N+357] 21 0x555544444433211100000)) 7 2097152 1 3 [0] [1,0] (rc_loop0 (L5:=v11.1.n+7) (A:=v11.1.n+6) (I:=v11.1.n+5) (C:=N+1) (F0:=N) (G:=G) (ge:=e) (nm:=⟨#[99]⟩) (tn:=v11.1.t+2) (es:=es) (N:=v11.1.n+8) (t:=v11.1.t+3) MB1 hB1 hD.up (by first | exact .inl rfl | exact .inr (.inl rfl) | exact .inr (.inr (.inl rfl)) | exact .inr (.inr (.inr rfl))) hg (fun h b=>hpr h b.1) hes) fun v16=>(.a (d8 15 0x4010404042b2d0101010101012d2d) (ix [Vd+355,N+356,N+355,v11.1.n+362] 14 0x22333333210000) 0 0 1 3 [] [2] (dget_ok (hd:=none) (n:=v16.1.n+355) (t:=v16.1.t+1) (H:=Vd+355) (es:=[dE h1 ⟨#[97]⟩ u1 (.int (↑ka) ua),dE h2 ⟨#[98]⟩ u2 (.int (↑kb) ub),dE h3 ⟨#[99]⟩ u3 (.int (↑kc) uc),dE h4 ⟨#[100]⟩ u4 (.int (↑kd) ud)]) (ep:=ev) (k:=⟨#[99]⟩) (tk:=v11.1.t+2) rfl rfl) fun _=>(.a (d8 6 0x12d00000000) [N+355] 0 2 1 3 [0] [1] (len_ok (hd:=none) (n:=v16.1.n+355) (t:=v16.1.t+3) (H:=v11.1.n+361) (vs:=hits ⟨#[99]⟩ es) (e:=v16.1.ae) (Nat.le_trans hits_len (by omega))) fun _=>(.a [1] [] 0 0 1 3 [] [] (max1_ok (x:=(hits ⟨#[99]⟩ es).length) (N:=v16.1.n) (t:=v16.1.t+5) (t1:=v16.1.t+2) (t2:=v16.1.t+4) MB1 hB1 hD.up) fun v19=>(.a [1] [] 0 0 1 3 [] [] (imodN_ok (hd:=none) (n:=v19.1.n+355) (t:=v19.1.t) (ta:=uc) (tb:=v19.1.k) (x:=kc) (y:=Decidable.rec (fun h=>(fun x=>1) h) (fun h=>(fun x=>(hits ⟨#[99]⟩ es).length) h) (Nat.decLe 1 (hits ⟨#[99]⟩ es).length)) (by have:=Nat.le_max_left 1 (hits sa es).length; have:=Nat.le_max_left 1 (hits sb es).length; have:=Nat.le_max_left 1 (hits sc es).length; have:=Nat.le_max_left 1 (hits sd es).length; first | exact Nat.pos_iff_ne_zero.mp (Nat.lt_of_lt_of_le Nat.one_pos (Nat.le_max_left 1 _)))) fun _=>(.a (d8 14 0x5010505052d2d292929292d2d2d) (ix [v11.1.n+361,N+355,N+357] 13 0x1112222110000) 0 5 1 3 [1,0] [3,1] (from_ok (hd:=none) (H:=v11.1.n+361) (S:=v19.1.n+355) (e:=v16.1.ae) (n:=v19.1.n+356) (t:=v19.1.t+2) (a:=kc % (max 1 (hits ⟨#[99]⟩ es).length)) (ta:=v19.1.t) (vs:=hits ⟨#[99]⟩ es) (Nat.le_trans hits_len (by omega))) fun _=>(.a (d8 7 0x9010909093131) (ix [v11.1.n+361,N+355] 6 0x110000) 0 17 1 3 [1,0] [3,1] (upto_ok (hd:=none) (H:=v11.1.n+361) (S:=v19.1.n+357) (e:=v16.1.ae) (n:=v19.1.n+358) (t:=v19.1.t+2) (a:=kc % (max 1 (hits ⟨#[99]⟩ es).length)) (ta:=v19.1.t) (vs:=hits ⟨#[99]⟩ es) (Nat.le_trans hits_len (by omega))) fun _=>(.a [5,1,5,1,5] (ixL [v19.1.n+356,v19.1.n+358] [0,0,1,0]) 0 5 1 3 [1,0] [3,1] (ladd_ok (hd:=none) (n:=v19.1.n+359) (t:=v19.1.t+2) (H:=v19.1.n+356) (G:=v19.1.n+358) (vs:=List.drop (kc % max 1 (hits ⟨#[99]⟩ es).length) (hits ⟨#[99]⟩ es)) (ws:=List.take (kc % max 1 (hits ⟨#[99]⟩ es).length) (hits ⟨#[99]⟩ es)) (e:=0) (e':=0) (by simp only [List.length_drop,List.length_take]; have h1:=hits_len (p:=sa) (es:=es); have h2:=hits_len (p:=sb) (es:=es); have h3:=hits_len (p:=sc) (es:=es); have h4:=hits_len (p:=sd) (es:=es); unfold sa at h1; unfold sb at h2; unfold sc at h3; unfold sd at h4; omega)) fun _=>(.a (cond x₀.a (d8 25 0x1010102010202373535313131310131013101333333013301) (d8 31 0x5010501050501010102010202373535313131310131013101333333013301)) (cond x₀.a (ix [v19.1.n+360,G+355,N+355,N+356,N+358,N+357] 17 0x55554444443321110) (ix [v19.1.n+360,G+355,N+355,N+356,N+358,N+357] 21 0x555544444433211100000)) 7 536870912 1 3 [0] [1,0] (rc_loop0 (L5:=v19.1.n+7) (A:=v19.1.n+6) (I:=v19.1.n+5) (C:=N+1) (F0:=N) (G:=G) (ge:=e) (nm:=⟨#[100]⟩) (tn:=v19.1.t+2) (es:=es) (N:=v19.1.n+8) (t:=v19.1.t+3) MB1 hB1 hD.up (by first | exact .inl rfl | exact .inr (.inl rfl) | exact .inr (.inr (.inl rfl)) | exact .inr (.inr (.inr rfl))) hg (fun h b=>hpr h b.1) hes) fun v24=>(.a (d8 15 0x4010404043b3d0101010101013d3d) (ix [Vd+355,N+356,N+355,v19.1.n+362] 14 0x22333333210000) 0 0 1 3 [] [2] (dget_ok (hd:=none) (n:=v24.1.n+355) (t:=v24.1.t+1) (H:=Vd+355) (es:=[dE h1 ⟨#[97]⟩ u1 (.int (↑ka) ua),dE h2 ⟨#[98]⟩ u2 (.int (↑kb) ub),dE h3 ⟨#[99]⟩ u3 (.int (↑kc) uc),dE h4 ⟨#[100]⟩ u4 (.int (↑kd) ud)]) (ep:=ev) (k:=⟨#[100]⟩) (tk:=v19.1.t+2) rfl rfl) fun _=>(.a (d8 6 0x13d00000000) [N+355] 0 2 1 3 [0] [1] (len_ok (hd:=none) (n:=v24.1.n+355) (t:=v24.1.t+3) (H:=v19.1.n+361) (vs:=hits ⟨#[100]⟩ es) (e:=v24.1.ae) (Nat.le_trans hits_len (by omega))) fun _=>(.a [1] [] 0 0 1 3 [] [] (max1_ok (x:=(hits ⟨#[100]⟩ es).length) (N:=v24.1.n) (t:=v24.1.t+5) (t1:=v24.1.t+2) (t2:=v24.1.t+4) MB1 hB1 hD.up) fun v27=>(.a [1] [] 0 0 1 3 [] [] (imodN_ok (hd:=none) (n:=v27.1.n+355) (t:=v27.1.t) (ta:=ud) (tb:=v27.1.k) (x:=kd) (y:=Decidable.rec (fun h=>(fun x=>1) h) (fun h=>(fun x=>(hits ⟨#[100]⟩ es).length) h) (Nat.decLe 1 (hits ⟨#[100]⟩ es).length)) (by have:=Nat.le_max_left 1 (hits sa es).length; have:=Nat.le_max_left 1 (hits sb es).length; have:=Nat.le_max_left 1 (hits sc es).length; have:=Nat.le_max_left 1 (hits sd es).length; first | exact Nat.pos_iff_ne_zero.mp (Nat.lt_of_lt_of_le Nat.one_pos (Nat.le_max_left 1 _)))) fun _=>(.a (d8 14 0x5010505053d3d393939393d3d3d) (ix [v19.1.n+361,N+355,N+357] 13 0x1112222110000) 0 5 1 3 [1,0] [3,1] (from_ok (hd:=none) (H:=v19.1.n+361) (S:=v27.1.n+355) (e:=v24.1.ae) (n:=v27.1.n+356) (t:=v27.1.t+2) (a:=kd % (max 1 (hits ⟨#[100]⟩ es).length)) (ta:=v27.1.t) (vs:=hits ⟨#[100]⟩ es) (Nat.le_trans hits_len (by omega))) fun _=>(.a (d8 7 0x9010909094141) (ix [v19.1.n+361,N+355] 6 0x110000) 0 17 1 3 [1,0] [3,1] (upto_ok (hd:=none) (H:=v19.1.n+361) (S:=v27.1.n+357) (e:=v24.1.ae) (n:=v27.1.n+358) (t:=v27.1.t+2) (a:=kd % (max 1 (hits ⟨#[100]⟩ es).length)) (ta:=v27.1.t) (vs:=hits ⟨#[100]⟩ es) (Nat.le_trans hits_len (by omega))) fun _=>(.a [5,1,5,1,5] (ixL [v27.1.n+356,v27.1.n+358] [0,0,1,0]) 0 5 1 3 [1,0] [3,1] (ladd_ok (hd:=none) (n:=v27.1.n+359) (t:=v27.1.t+2) (H:=v27.1.n+356) (G:=v27.1.n+358) (vs:=List.drop (kd % max 1 (hits ⟨#[100]⟩ es).length) (hits ⟨#[100]⟩ es)) (ws:=List.take (kd % max 1 (hits ⟨#[100]⟩ es).length) (hits ⟨#[100]⟩ es)) (e:=0) (e':=0) (by simp only [List.length_drop,List.length_take]; have h1:=hits_len (p:=sa) (es:=es); have h2:=hits_len (p:=sb) (es:=es); have h3:=hits_len (p:=sc) (es:=es); have h4:=hits_len (p:=sd) (es:=es); unfold sa at h1; unfold sb at h2; unfold sc at h3; unfold sd at h4; omega)) fun _=>(.f (d8 18 0x4b0101414141410141014101434343014301) (ix [N+355,v27.1.n+361,N+358,N+357] 12 0x333322222210) ⟨⟨v3.1.n+4,v11.1.n+4,v19.1.n+4,v27.1.n+4,v27.1.n+7,v27.1.t+2⟩,by have a0:=v0.2; have a1:=v3.2; have a2:=v8.2; have a3:=v11.2; have a4:=v16.2; have a5:=v19.2; have a6:=v24.2; have a7:=v27.2; dsimp only; omega⟩)))))))))))))))))))))))))))))))))
 exact ⟨P₀,by intro ⟨x1,x2,x3,x4⟩; cases x1 <;> cases x2 <;> kernel_rfl⟩
end
theorem way_dwn (m:Nat):Key (lvOf m)∧Let (cmOf m)∧rk (cmOf m) < rk (low (lvOf m)):=by
 have h1:m % 3 = 0∨m % 3 = 1∨m % 3 = 2:=by omega
 have h2:=Nat.mod_lt (m / 3) (Nat.succ_pos (m % 3))
 unfold lvOf cmOf
 have hs:(m % 3).succ = m % 3 + 1:=rfl
 rw [hs] at h2
 generalize m / 3 % (m % 3 + 1) = c at h2 ⊢
 rcases h1 with h | h | h <;> rw [h] at h2 ⊢
 ·have:c = 0:=by omega
  subst this
  split <;> refine ⟨?_,?_,?_⟩ <;> first | decide | (unfold Key; decide) | (unfold Let; decide)
 ·have:c = 0∨c = 1:=by omega
  rcases this with rfl | rfl <;> split <;> refine ⟨?_,?_,?_⟩ <;> first | decide | (unfold Key; decide) | (unfold Let; decide)
 ·have:c = 0∨c = 1∨c = 2:=by omega
  rcases this with rfl | rfl | rfl <;> split <;> refine ⟨?_,?_,?_⟩ <;> first | decide | (unfold Key; decide) | (unfold Let; decide)
theorem way_news {ds:List Value} {N:Nat} {v:PaV} (h:PaOut ds N v):∀ x∈v.news,Dwn x:=by
 intro x hx
 obtain ⟨ty,ht⟩:=h.2.2 x hx
 have hm:(x.k,sOf x.x)∈ds.map (fun d=>(lvOf (iOf d),cmOf (iOf d))):=by rw [← h.2.1]; exact List.mem_map.mpr ⟨x,hx,rfl⟩
 obtain ⟨d,_,e⟩:=List.mem_map.mp hm
 injection e with e1 e2
 obtain ⟨w1,w2,w3⟩:=way_dwn (iOf d)
 rw [e1] at w1 w3
 rw [e2] at w2 w3
 exact ⟨w1,_,ty,w2,w3,ht⟩
theorem ini_dwn (N t:Nat):∀ x∈ini N t,Dwn x:=by
 intro x hx
 simp only [ini,List.mem_cons,List.not_mem_nil,or_false] at hx
 rcases hx with rfl | rfl | rfl | rfl | rfl
 ·exact ⟨show Key uD from (by unfold Key; decide),sc,_,(by unfold Let; decide),show rk sc < rk (low uD) from (by decide),rfl⟩
 ·exact ⟨show Key sd from (by unfold Key; decide),sb,_,(by unfold Let; decide),show rk sb < rk (low sd) from (by decide),rfl⟩
 ·exact ⟨show Key sc from (by unfold Key; decide),sb,_,(by unfold Let; decide),show rk sb < rk (low sc) from (by decide),rfl⟩
 ·exact ⟨show Key uC from (by unfold Key; decide),sa,_,(by unfold Let; decide),show rk sa < rk (low uC) from (by decide),rfl⟩
 ·exact ⟨show Key sb from (by unfold Key; decide),sa,_,(by unfold Let; decide),show rk sa < rk (low sb) from (by decide),rfl⟩
theorem cntV_pos {q:Str} {l:List Value} {v:Value} (hv:v∈l) (h:sOf v = q):0 < cntV q l:=by
 unfold cntV
 exact List.length_pos_of_mem (List.mem_filter.mpr ⟨hv,by simpa using h⟩)
theorem hits_of {es:List Ent} {x:Ent} (hx:x∈es) {p:Str} (h:low x.k = p):x.x∈hits p es :=
 List.mem_map.mpr ⟨x,List.mem_filter.mpr ⟨hx,by simpa using h⟩,rfl⟩
theorem tbl_of {ds:List Value} {N M t:Nat} {v:PaV} (h:PaOut ds N v):Tbl (ini M t++v.news):=by
 refine ⟨fun x hx=>?_,?_,?_,?_⟩
 ·rcases List.mem_append.mp hx with hx | hx
  ·exact ini_dwn M t x hx
  ·exact way_news h x hx
 ·exact cntV_pos (hits_of (x:=⟨M+1,uD,t+1,.str sc (t+2)⟩) (List.mem_append_left _ (by simp [ini])) (show low uD = sd from by decide)) rfl
 ·exact cntV_pos (hits_of (x:=⟨M+3,sc,t+5,.str sb (t+6)⟩) (List.mem_append_left _ (by simp [ini])) (show low sc = sc from by decide)) rfl
 ·exact cntV_pos (hits_of (x:=⟨M+5,sb,t+9,.str sa (t+10)⟩) (List.mem_append_left _ (by simp [ini])) (show low sb = sb from by decide)) rfl
structure FinIs (es es':List Ent) (ss:List Value) (k:Cnt):Prop where
 a:k.a = (flA es ss:Nat)
 b:k.b = (flB es ss:Nat)
 c:k.c = (flC es ss:Nat)
 d:k.d = (flD ss:Nat)
 ra:hits sa es' = turned (flA es ss) (hits sa es)
 rb:hits sb es' = turned (flB es ss) (hits sb es)
 rc:hits sc es' = turned (flC es ss) (hits sc es)
 rd:hits sd es' = turned (flD ss) (hits sd es)
theorem fin_of {es es':List Ent} {ss:List Value} {k:Cnt} {f:Str→Nat} (hg:∀ x∈es,Dwn x) (hk:Eqv k f) (I:Inv es (fun q=>cntV q ss) es' f (fun _=>0)):FinIs es es' ss k:=by
 have F:=flow_of_inv hg I
 have fd:f sd = flD ss:=F.d
 have fc:f sc = flC es ss:=by rw [F.c,fd]; rfl
 have fb:f sb = flB es ss:=by rw [F.b,fd,fc]; rfl
 have fa:f sa = flA es ss:=by rw [F.a,fd,fc,fb]; rfl
 refine ⟨by rw [hk.a,fa],by rw [hk.b,fb],by rw [hk.c,fc],by rw [hk.d,fd],?_,?_,?_,?_⟩
 ·rw [← fa]; exact I.row sa (by unfold Let; simp)
 ·rw [← fb]; exact I.row sb (by unfold Let; simp)
 ·rw [← fc]; exact I.row sc (by unfold Let; simp)
 ·rw [← fd]; exact I.row sd (by unfold Let; simp)
theorem runs_fin {es es':List Ent} {ss:List Value} {k:Cnt} (hg:∀ x∈es,Dwn x) (R:Runs es ⟨0,0,0,0⟩ (ss.map sOf) es' k):FinIs es es' ss k:=by
 obtain ⟨f,h1,h2⟩:=runs_inv R (fun _=>0) ⟨rfl,rfl,rfl,rfl⟩ (inv_start es (fun q=>cntV q ss) _ fun q _=>(cntV_cnt q ss).symm)
 exact fin_of hg h1 h2
theorem turns_fin {es es':List Ent} {ss:List Value} {k:Cnt} (hg:∀ x∈es,Dwn x) (R:Turns es ⟨0,0,0,0⟩ (ss.reverse.map sOf) es' k):FinIs es es' ss k:=by
 obtain ⟨f,h1,h2⟩:=turns_inv R (fun _=>0) ⟨rfl,rfl,rfl,rfl⟩ (inv_start es (fun q=>cntV q ss) _ fun q _=>by rw [List.map_reverse,cnt_rev]; exact (cntV_cnt q ss).symm)
 exact fin_of hg h1 h2
theorem hash_cH {w:World} {r:Rows} {g:Array GenState} {d:Drawn} {os:OsState}:HashOk (XX w r g d os) (cH w r).a (cH w r).b (cH w r).c (cH w r).d:=by
 refine ⟨?_,?_,?_,?_⟩ <;> kernel_rfl
theorem turned_str {k:Nat} {l:List Value} (h:∀ v∈l,∃ k t,v = .str k t):∀ v∈turned k l,∃ k t,v = .str k t:=by
 intro v hv
 unfold turned at hv
 rcases List.mem_append.mp hv with hv | hv
 ·exact h v (List.mem_of_mem_drop hv)
 ·exact h v (List.mem_of_mem_take hv)
theorem FinIs.same {es es':List Ent} {ss:List Value} {k:Cnt} (F:FinIs es es' ss k) (hg:∀ x∈es,Dwn x) :
  SameStr (hits sa es') (turned (flA es ss) (hits sa es))∧SameStr (hits sb es') (turned (flB es ss) (hits sb es))∧SameStr (hits sc es') (turned (flC es ss) (hits sc es))∧SameStr (hits sd es') (turned (flD ss) (hits sd es)):=by
 have hs:∀ p,∀ v∈hits p es,∃ k t,v = .str k t:=fun p v hv=>by
  obtain ⟨y,t,e,_⟩:=hits_mem hg v hv
  exact ⟨y,t,e⟩
 rw [F.ra,F.rb,F.rc,F.rd]
 exact ⟨.refl (turned_str (hs _)),.refl (turned_str (hs _)),.refl (turned_str (hs _)),.refl (turned_str (hs _))⟩
theorem pairs_in {es:List Ent} {im:List (Addr × Obj)} {h:Heap} (i:ImIn im h) (hm:∀ x∈es,x.pair∈im):PairsIn es h:=fun x hx=>i _ (hm x hx)
theorem ini_mem {N t:Nat} {news:List Ent}:∀ x∈ini N t++news,x.pair∈(ini N t).reverse.map Ent.pair++news.map Ent.pair:=fun x hx=>by
 rcases List.mem_append.mp hx with h | h
 ·exact List.mem_append_left _ (List.mem_map.mpr ⟨x,List.mem_reverse.mpr h,rfl⟩)
 ·exact List.mem_append_right _ (List.mem_map.mpr ⟨x,h,rfl⟩)
theorem news_mem {news:List Ent}:∀ x∈news,x.pair∈(news.map Ent.pair).reverse:=fun x hx=>List.mem_reverse.mpr (List.mem_map.mpr ⟨x,hx,rfl⟩)
theorem im_1 {N t:Nat} {news:List Ent} {a:List (Addr × Obj)}:∀ x∈ini N t++news,x.pair∈a++((ini N t).reverse.map Ent.pair++news.map Ent.pair):=fun x hx=>List.mem_append_right _ (ini_mem x hx)
theorem im_2 {N t:Nat} {news:List Ent} {a b:List (Addr × Obj)}:∀ x∈ini N t++news,x.pair∈a++(b++((ini N t).reverse.map Ent.pair++news.map Ent.pair)):=fun x hx=>List.mem_append_right _ (im_1 x hx)
theorem im_3 {N t:Nat} {news:List Ent} {a b c:List (Addr × Obj)}:∀ x∈ini N t++news,x.pair∈a++(b++(c++((ini N t).reverse.map Ent.pair++news.map Ent.pair))):=fun x hx=>List.mem_append_right _ (im_2 x hx)
theorem im_n1 {news:List Ent} {a c:List (Addr × Obj)}:∀ x∈news,x.pair∈a++((news.map Ent.pair).reverse++c):=fun x hx=>List.mem_append_right _ (List.mem_append_left _ (news_mem x hx))
theorem im_n2 {news:List Ent} {a b c:List (Addr × Obj)}:∀ x∈news,x.pair∈a++(b++((news.map Ent.pair).reverse++c)):=fun x hx=>List.mem_append_right _ (im_n1 x hx)
theorem pairs_s {es es1 news:List Ent} {im:List (Addr × Obj)} {h:Heap} (i:ImIn im h) (hm:∀ x∈es,x.pair∈im) (hn:∀ x∈news,x.pair∈im) (ho:∀ x∈es1,x∈es∨x∈news):PairsIn es1 h:=pairs_step (B:=fun _=>True) (pairs_in i hm) i hn ho
theorem es_ok {ds:List Value} {N M t:Nat} {v:PaV} (h:PaOut ds N v) (hd:ds.length≤6) {k:Nat} (hk:11≤k):0 < (ini M t++v.news).length∧(ini M t++v.news).length≤k:=by
 have:=congrArg List.length h.2.1
 rw [List.length_map,List.length_map] at this
 rw [List.length_append,this]
 show 0 < 5 + _∧5 + _≤k
 omega
theorem arg_abcd:Arg sa∧Arg sb∧Arg sc∧Arg sd:=⟨.inl rfl,.inr (.inr (.inl rfl)),.inr (.inr (.inr (.inl rfl))),.inr (.inr (.inr (.inr (.inl rfl))))⟩
theorem runs_keep {es es':List Ent} {k k':Cnt} {qs:List Str} (h:Runs es k qs es' k'):(∀ x∈es,Dwn x)→es'.length = es.length∧∀ x∈es',Dwn x:=by
 induction h with
 | nil => exact fun h=>⟨rfl,h⟩
 | cons es es1 es2 k k1 k2 q qs W _ ih =>
  intro hg
  obtain ⟨a,b⟩:=walk_keep W hg
  obtain ⟨c,e⟩:=ih b
  exact ⟨c.trans a,e⟩
theorem turns_keep {es es':List Ent} {k k':Cnt} {qs:List Str} (h:Turns es k qs es' k'):(∀ x∈es,Dwn x)→es'.length = es.length∧∀ x∈es',Dwn x:=by
 induction h with
 | stop => exact fun h=>⟨rfl,h⟩
 | more es es1 es2 k k2 ps ms _ M _ ih =>
  intro hg
  obtain ⟨a,b,_⟩:=moves_keep M hg
  obtain ⟨c,e⟩:=ih b
  exact ⟨c.trans a,e⟩
theorem nosys {n:Nat}:((n + 355:Nat) == sysModules) = false:=by
 rw [beq_eq_false_iff_ne]
 unfold sysModules
 omega
theorem es_len {ds:List Value} {N M t:Nat} {v:PaV} (h:PaOut ds N v):(ini M t++v.news).length = 5 + ds.length:=by
 have:=congrArg List.length h.2.1
 rw [List.length_map,List.length_map] at this
 rw [List.length_append,this]; rfl
theorem st_let {l:List Value} {a b c:Tok} (h:∀ x∈l,SpOk x):∀ v∈[Value.str ⟨#[100]⟩ a,.str ⟨#[99]⟩ b,.str ⟨#[100]⟩ c]++l,∃ q tq,v = .str q tq∧Let q:=fun v hv=>by
 rcases List.mem_append.mp hv with hv | hv
 ·simp only [List.mem_cons,List.not_mem_nil,or_false] at hv
  rcases hv with rfl | rfl | rfl
  ·exact ⟨_,_,rfl,.inr (.inr (.inr rfl))⟩
  ·exact ⟨_,_,rfl,.inr (.inr (.inl rfl))⟩
  ·exact ⟨_,_,rfl,.inr (.inr (.inr rfl))⟩
 ·exact h v hv
theorem dr_len {sc:List Value} {N:Nat} {v:ClV} (h:ClOut DrOk ((List.take 6 sc).length - 0) N v) (hne:0 < (sc.take 6).length):0 < ([]++v.nw).length∧([]++v.nw).length≤6:=by
 have:=h.2.1
 rw [List.nil_append,this]
 exact ⟨hne,by rw [Nat.sub_zero,List.length_take]; omega⟩
theorem es_bd {ds:List Value} {N M t:Nat} {v:PaV} (h:PaOut ds N v) (hd:ds.length≤6):0 < (ini M t++v.news).length∧(ini M t++v.news).length≤11:=by
 rw [es_len h]; omega
theorem st_len {ds:List Value} {N:Nat} {v:ClV} {a b c:Value} (h:ClOut SpOk (ds.length - 0) N v) (hd:ds.length≤6):[a,b,c].length + ([]++v.nw).length≤9∧([a,b,c]++([]++v.nw)).length≤9:=by
 have:=h.2.1
 simp only [List.nil_append,List.length_append,List.length_cons,List.length_nil,this]
 omega
structure LwV where
 pl:List Value
 z:List (Addr × Obj)
 n:Nat
 t:Nat
include MB hB in
theorem law_n {Sc se N t:Nat} {sc:List Value} {dd:Option Addr} {sl:Array (Option Value)} (hD:Lim D U 200) (hsc:∀ v∈sc,∃ (x0:Int) (tx:Tok),v = .int x0 tx) (hl:sc.length≤400) (hne:0 < (sc.take 6).length) :
  CutOk (XX w r g d os) B D U (.call (.ref 354) ⟨[.ref Sc],[]⟩) (some ⟨none,some []⟩) [(324,plO [])] [(Sc,lstO dd sc se sl)] (N+355) (t) (LwV) (fun v=>.ok (.ret (.bool true))) (fun v=>[]) (fun v=>[plO v.pl]) (fun v=>v.n+355) (fun v=>v.t) (fun v=>v.z):=by
 refine .of_q MB hB hD.lo 562949953421312 0 ?_
 k_data
 let P₀:Rows→Pk (XX w r g d os) B D U S₀ []:=fun x₀=>(.a (d6 12 0x212225105500) (ix [Sc,N+355] 7 0x1110000) 0 1 1 3 [1] [0,1] (upto2_ok (hd:=some { v:=none,f:=some (fsL w r N (N+1) (N+2)) }) (H:=Sc) (S:=N+358) (e:=se) (n:=N+359) (t:=t+2) (a:=6) (ta:=t+1) (vs:=sc) (dd:=dd) (sl:=sl) (by omega)) fun _=>(.a (cond x₀.a (d6 7 0x1111111) (d6 13 0x5151551111111)) (cond x₀.a (ixL [N+360,N+359] [0,1,1,1]) (ix [N+360,N+359] 8 0x11100000)) 7 8 1 3 [0] [1] (CutOk.wkS ((some ⟨none,some (fsL w r N (N+1) (N+2))⟩):Hd) (dr_loop0 (L5:=N+7) (A:=N+6) (I:=N+5) (F0:=N) (G:=N+4) (ge:=0) (vs:=List.take 6 sc) (acc:=[]) (ae:=0) (N:=N+8) (t:=t+2) MB1 hB1 hD.up (fun v hv=>hsc v (List.mem_of_mem_take hv)) ⟨hne,by simp; omega⟩ (by simp))) fun v1=>(.a (d6 8 0xf0111ff) (ix [N+355,N+362] 6 0x1110) 0 2 1 3 [0] [1] (CutOk.wkS ((some ⟨none,some (fsL w r N (N+1) (N+2))⟩):Hd) (pairs_ok (Q:=N+6) (qe:=v1.1.ae) (N:=v1.1.n) (t:=v1.1.t+1) (ds:=[]++v1.1.nw) MB1 hB1 hD.up (fun v hv=>by obtain ⟨x,tx,e,_⟩:=v1.2.2.2 v (by simpa using hv); exact ⟨x,tx,e⟩) (Nat.le_trans (dr_len v1.2 hne).2 (by decide)))) fun v2=>(.a (cond x₀.a (d8 10 0x1010107010707131111) (d8 16 0x5010501050501010107010707131111)) (cond x₀.a (ix [v2.1.n+356,N+361,N+355] 7 0x2221110) (ix [v2.1.n+356,N+361,N+355] 11 0x22211100000)) 7 64 1 3 [0] [1] (CutOk.wkS ((some ⟨none,some (fsL w r N (N+1) (N+2))⟩):Hd) (sp_loop0 (L5:=v2.1.n+3) (A:=v2.1.n+2) (I:=v2.1.n+1) (F0:=N) (G:=N+6) (ge:=v1.1.ae) (vs:=[]++v1.1.nw) (acc:=[]) (ae:=0) (N:=v2.1.n+4) (t:=v2.1.t+4) MB1 hB1 hD.up (by simpa using v1.2.2.2) ⟨(dr_len v1.2 hne).1,Nat.le_trans (dr_len v1.2 hne).2 (by decide)⟩ (by simp))) fun v3=>(.a (d6 8 0x71737111) (ix [v2.1.n+355,v2.1.n+357,v2.1.n+358] 7 0x2220100) 0 10 1 3 [1,0] [3,1] (ladd_ok (hd:=some { v:=none,f:=some (fsL w r N (N+1) (N+2)) }) (n:=v3.1.n+355) (t:=v3.1.t) (H:=v2.1.n+355) (G:=v2.1.n+357) (vs:=[Value.str ⟨#[100]⟩ (v2.1.t+1),Value.str ⟨#[99]⟩ (v2.1.t+2),Value.str ⟨#[100]⟩ (v2.1.t+3)]) (ws:=[]++v3.1.nw) (e:=0) (e':=v3.1.ae) (Nat.le_trans (st_len v3.2 (dr_len v1.2 hne).2).1 (by decide))) fun _=>(.a (d8 9 0x1011b000000001b1b) (ixL [N+355] [0,0,0]) 0 0 1 4 [] [] (lnew_ok (hd:=some { v:=none,f:=some (fsL w r N (N+1) (N+2)) }) (n:=v3.1.n+356) (t:=v3.1.t+1) (a:=.ref (v1.1.n+361))) fun _=>(.a [1,1,1,1] (ixL [v3.1.n+356] [0,0,0]) 1 64 1 4 [0] [1] (linit_ok (hd:=some { v:=none,f:=some (fsL w r N (N+1) (N+2)) }) (n:=v3.1.n+357) (t:=v3.1.t+1) (H:=v3.1.n+356) (G:=v1.1.n+361) (vs:=List.map Ent.v (ini v1.1.n (v1.1.t+1)++v2.1.news)) (e:=0) (e1:=v2.1.e) (by rw [List.length_map]; exact Nat.le_trans (es_bd (M:=v1.1.n) (t:=v1.1.t+1) v2.2 (dr_len v1.2 hne).2).2 (by decide))) fun v6=>(.i (d6 41 0x1010000000000000100000001000101000100) [v3.1.n+358,v3.1.n+358] 3 4 2 4 [0] [1] (CutOk.wkS ((some ⟨none,some (fsL w r N (N+1) (N+2))⟩):Hd) (init2_ok (T:=v3.1.n+3) (dT:=v3.1.n+2) (H:=v3.1.n+1) (e:=v6) (N:=v3.1.n+4) (t:=v3.1.t+1) (es:=ini v1.1.n (v1.1.t+1)++v2.1.news) (MB1.bi _) (fun h b=>hB1 h b.1) hD.up (fun x hx=>dwn_good ((tbl_of v2.2).dwn x hx)) (by first | exact (fun h b=>pairs_in b.2 (by simp only [List.nil_append,List.append_nil]; exact im_1)) | exact (fun h b=>pairs_in b.2 (by simp only [List.nil_append,List.append_nil]; exact im_2)) | exact (fun h b=>pairs_in b.2 (by simp only [List.nil_append,List.append_nil]; exact im_3))))) fun v7=>(.i [33,0] [N+355] 196608 15 1 3 [0,1,2,3] [1,3,5,7] (flow2_ok (T:=v3.1.n+3) (dT:=v3.1.n+2) (H:=v3.1.n+1) (A:=v3.1.n) (e:=v6) (ea:=0) (N:=v7.1.n) (t:=v7.1.t) (L:=N) (C3:=N+1) (C4:=N+2) (pl0:=4) (k0:=kz w r ⟨#[95,104,101,97,100,101,114,115]⟩) (c2:=kh w r ⟨#[115,99,114,105,112,116]⟩) (c3:=kh w r ⟨#[100,114,97,119,115]⟩) (c4:=kh w r ⟨#[112,97,105,114,115]⟩) (c5:=kh w r ⟨#[115,116,97,114,116,115]⟩) (t0:=v3.1.t+5) (d2:=t) (d3:=v1.1.t) (d4:=v2.1.t) (d5:=v3.1.t) (y1:=.ref Sc) (y2:=.ref (N+361)) (y3:=.ref (v1.1.n+361)) (y4:=.ref (v3.1.n+355)) (es:=ini v1.1.n (v1.1.t+1)++v2.1.news) (ss:=[Value.str ⟨#[100]⟩ (v2.1.t+1),Value.str ⟨#[99]⟩ (v2.1.t+2),Value.str ⟨#[100]⟩ (v2.1.t+3)]++([]++v3.1.nw)) (MB1.bi _) (fun h b=>hB1 h b.1) hD.up (tbl_of v2.2) (fun h b=>pairs_in b.2 (by simp only [List.nil_append,List.append_nil]; exact im_1)) (es_ok v2.2 (dr_len v1.2 hne).2 (by decide)) (fun v hv=>by obtain ⟨q,tq,e,_⟩:=(st_let (by simpa using v3.2.2.2)) v hv; exact ⟨q,tq,e⟩) (Nat.le_trans (st_len v3.2 (dr_len v1.2 hne).2).2 (by decide))) fun v8=>(.a (d8 8 0x101230000002323) (ixL [N+355] [0,0,0]) 0 0 1 4 [] [] (lnew_ok (hd:=some { v:=none,f:=some (fsL w r N (N+1) (N+2)) }) (n:=v8.1.n+355) (t:=v8.1.t+1) (a:=.ref (v1.1.n+361))) fun _=>(.a [1,1,1,1] (ixL [v8.1.n+355] [0,0,0]) 1 1024 1 4 [0] [1] (linit_ok (hd:=some { v:=none,f:=some (fsL w r N (N+1) (N+2)) }) (n:=v8.1.n+356) (t:=v8.1.t+1) (H:=v8.1.n+355) (G:=v1.1.n+361) (vs:=List.map Ent.v (ini v1.1.n (v1.1.t+1)++v2.1.news)) (e:=0) (e1:=v2.1.e) (by rw [List.length_map]; exact Nat.le_trans (es_bd (M:=v1.1.n) (t:=v1.1.t+1) v2.2 (dr_len v1.2 hne).2).2 (by decide))) fun v10=>(.i (d6 41 0x1010000000000000100000001000101000100) [v8.1.n+357,v8.1.n+357] 3 4 2 4 [0] [1] (CutOk.wkS ((some ⟨none,some (fsL w r N (N+1) (N+2))⟩):Hd) (init2_ok (T:=v8.1.n+2) (dT:=v8.1.n+1) (H:=v8.1.n) (e:=v10) (N:=v8.1.n+3) (t:=v8.1.t+1) (es:=ini v1.1.n (v1.1.t+1)++v2.1.news) (MB1.bi _) (fun h b=>hB1 h b.1) hD.up (fun x hx=>dwn_good ((tbl_of v2.2).dwn x hx)) (by first | exact (fun h b=>pairs_in b.2 (by simp only [List.nil_append,List.append_nil]; exact im_1)) | exact (fun h b=>pairs_in b.2 (by simp only [List.nil_append,List.append_nil]; exact im_2)) | exact (fun h b=>pairs_in b.2 (by simp only [List.nil_append,List.append_nil]; exact im_3))))) fun v11=>(.a (d8 8 0x101290000002727) (ixL [N+355,N+356] [0,1,1]) 0 0 1 4 [] [] (lnew_ok (hd:=some { v:=none,f:=some (fsL w r N (N+1) (N+2)) }) (n:=v11.1.n+355) (t:=v11.1.t) (a:=.ref (v1.1.n+361))) fun _=>(.a [1,1,1,1] (ixL [v11.1.n+355] [0,0,0]) 1 8192 1 4 [0] [1] (linit_ok (hd:=some { v:=none,f:=some (fsL w r N (N+1) (N+2)) }) (n:=v11.1.n+356) (t:=v11.1.t) (H:=v11.1.n+355) (G:=v1.1.n+361) (vs:=List.map Ent.v (ini v1.1.n (v1.1.t+1)++v2.1.news)) (e:=0) (e1:=v2.1.e) (by rw [List.length_map]; exact Nat.le_trans (es_bd (M:=v1.1.n) (t:=v1.1.t+1) v2.2 (dr_len v1.2 hne).2).2 (by decide))) fun v13=>(.i (d6 41 0x1010000000000000100000001000101000100) [v11.1.n+357,v11.1.n+357] 3 4 2 4 [0] [1] (CutOk.wkS ((some ⟨none,some (fsL w r N (N+1) (N+2))⟩):Hd) (init2_ok (T:=v11.1.n+2) (dT:=v11.1.n+1) (H:=v11.1.n) (e:=v13) (N:=v11.1.n+3) (t:=v11.1.t) (es:=ini v1.1.n (v1.1.t+1)++v2.1.news) (MB1.bi _) (fun h b=>hB1 h b.1) hD.up (fun x hx=>dwn_good ((tbl_of v2.2).dwn x hx)) (by first | exact (fun h b=>pairs_in b.2 (by simp only [List.nil_append,List.append_nil]; exact im_1)) | exact (fun h b=>pairs_in b.2 (by simp only [List.nil_append,List.append_nil]; exact im_2)) | exact (fun h b=>pairs_in b.2 (by simp only [List.nil_append,List.append_nil]; exact im_3))))) fun v14=>(.i (d8 6 0x2f2d002b2b) (ixL [N+355,N+356,N+357] [0,1,2,2]) 32 1048 1 3 [0,1,2] [1,3,5] (CutOk.wkS ((some ⟨none,some (fsL w r N (N+1) (N+2))⟩):Hd) (one_ok (T:=v8.1.n+2) (dT:=v8.1.n+1) (H:=v8.1.n) (S:=v3.1.n) (e:=v10) (es0:=0) (N:=v14.1.n) (t:=v14.1.t) (k1:=kz w r ⟨#[95,104,101,97,100,101,114,115]⟩) (s1:=v8.1.t+5) (es:=ini v1.1.n (v1.1.t+1)++v2.1.news) (ss:=[Value.str ⟨#[100]⟩ (v2.1.t+1),Value.str ⟨#[99]⟩ (v2.1.t+2),Value.str ⟨#[100]⟩ (v2.1.t+3)]++([]++v3.1.nw)) (MB1.bi _) (fun h b=>hB1 h b.1) hD.up (es_ok v2.2 (dr_len v1.2 hne).2 (by decide)) (tbl_of v2.2).dwn (fun h b=>pairs_in b.2 (by simp only [List.nil_append,List.append_nil]; exact im_1)) (by omega) (st_let (by simpa using v3.2.2.2)) (by simp))) fun v15=>(.a (d8 6 0x101010f0131) (ixL [v14.1.n+357,v8.1.A+355,N+355] [0,0,1,0,2]) 0 129 1 3 [0,1] [1,3] (dne_ok (hd:=some { v:=none,f:=some (fsL w r N (N+1) (N+2)) }) (n:=v15.1.n+355) (t:=v15.1.t) (G:=v14.1.n+357) (S:=v8.1.A+355) (h1:=kh w r ⟨#[97]⟩) (h2:=kh w r ⟨#[98]⟩) (h3:=kh w r ⟨#[99]⟩) (h4:=kh w r ⟨#[100]⟩) (g1:=kh w r ⟨#[97]⟩) (g2:=kh w r ⟨#[98]⟩) (g3:=kh w r ⟨#[99]⟩) (g4:=kh w r ⟨#[100]⟩) (u1:=v14.1.t+3) (u2:=v14.1.t+7) (u3:=v14.1.t+11) (u4:=v14.1.t+15) (s1:=v8.1.a) (s2:=v8.1.b) (s3:=v8.1.c) (s4:=v8.1.d) (a1:=v15.1.u.a) (a2:=v15.1.u.b) (a3:=v15.1.u.c) (a4:=v15.1.u.d) (b1:=v8.1.va) (b2:=v8.1.vb) (b3:=v8.1.vc) (b4:=v8.1.vd) (ka:=v15.1.k.a) (kb:=v15.1.k.b) (kc:=v15.1.k.c) (kd:=v15.1.k.d) (ma:=↑(flA (ini v1.1.n (v1.1.t+1)++v2.1.news) ([Value.str ⟨#[100]⟩ (v2.1.t+1),Value.str ⟨#[99]⟩ (v2.1.t+2),Value.str ⟨#[100]⟩ (v2.1.t+3)]++([]++v3.1.nw)))) (mb:=↑(flB (ini v1.1.n (v1.1.t+1)++v2.1.news) ([Value.str ⟨#[100]⟩ (v2.1.t+1),Value.str ⟨#[99]⟩ (v2.1.t+2),Value.str ⟨#[100]⟩ (v2.1.t+3)]++([]++v3.1.nw)))) (mc:=↑(flC (ini v1.1.n (v1.1.t+1)++v2.1.news) ([Value.str ⟨#[100]⟩ (v2.1.t+1),Value.str ⟨#[99]⟩ (v2.1.t+2),Value.str ⟨#[100]⟩ (v2.1.t+3)]++([]++v3.1.nw)))) (md:=↑(flD ([Value.str ⟨#[100]⟩ (v2.1.t+1),Value.str ⟨#[99]⟩ (v2.1.t+2),Value.str ⟨#[100]⟩ (v2.1.t+3)]++([]++v3.1.nw)))) (e0:=4) (e1:=v8.1.e) (by first | exact hash_cH | exact hash_kh) (by first | exact hash_cH | exact hash_kh) (by first | exact (runs_fin (tbl_of v2.2).dwn v15.2.2.1).a | exact (turns_fin (tbl_of v2.2).dwn v17.2.2.1).a) (by first | exact (runs_fin (tbl_of v2.2).dwn v15.2.2.1).b | exact (turns_fin (tbl_of v2.2).dwn v17.2.2.1).b) (by first | exact (runs_fin (tbl_of v2.2).dwn v15.2.2.1).c | exact (turns_fin (tbl_of v2.2).dwn v17.2.2.1).c) (by first | exact (runs_fin (tbl_of v2.2).dwn v15.2.2.1).d | exact (turns_fin (tbl_of v2.2).dwn v17.2.2.1).d) nosys nosys) fun _=>(.i [0,45,49,0] [N+355,N+357] 8 2054 1 3 [0,1,2] [1,3,5] (CutOk.wkS ((some ⟨none,some (fsL w r N (N+1) (N+2))⟩):Hd) (turns_ok (T:=v11.1.n+2) (dT:=v11.1.n+1) (H:=v11.1.n) (S:=v3.1.n) (e:=v13) (es0:=0) (N:=v15.1.n) (t:=v15.1.t) (k1:=kz w r ⟨#[95,104,101,97,100,101,114,115]⟩) (s1:=v11.1.t+4) (es:=ini v1.1.n (v1.1.t+1)++v2.1.news) (ss:=[Value.str ⟨#[100]⟩ (v2.1.t+1),Value.str ⟨#[99]⟩ (v2.1.t+2),Value.str ⟨#[100]⟩ (v2.1.t+3)]++([]++v3.1.nw)) (MB1.bi _) (fun h b=>hB1 h b.1) hD.up (es_ok v2.2 (dr_len v1.2 hne).2 (by decide)) (tbl_of v2.2).dwn (fun h b=>pairs_in b.2 (by simp only [List.nil_append,List.append_nil]; exact im_2)) (by have q15:v14.1.n≤v15.1.n:=v15.2.1; omega) (st_let (by simpa using v3.2.2.2)) ⟨by simp,(Nat.le_trans (st_len v3.2 (dr_len v1.2 hne).2).2 (by decide))⟩)) fun v17=>(.a (d8 6 0x10101110133) (ixL [v15.1.n+358,v8.1.A+355,N+355] [0,0,1,0,2]) 0 257 1 3 [0,1] [1,3] (dne_ok (hd:=some { v:=none,f:=some (fsL w r N (N+1) (N+2)) }) (n:=v17.1.n+355) (t:=v17.1.t) (G:=v15.1.n+358) (S:=v8.1.A+355) (h1:=kh w r ⟨#[97]⟩) (h2:=kh w r ⟨#[98]⟩) (h3:=kh w r ⟨#[99]⟩) (h4:=kh w r ⟨#[100]⟩) (g1:=kh w r ⟨#[97]⟩) (g2:=kh w r ⟨#[98]⟩) (g3:=kh w r ⟨#[99]⟩) (g4:=kh w r ⟨#[100]⟩) (u1:=v15.1.t+2) (u2:=v15.1.t+6) (u3:=v15.1.t+10) (u4:=v15.1.t+14) (s1:=v8.1.a) (s2:=v8.1.b) (s3:=v8.1.c) (s4:=v8.1.d) (a1:=v17.1.u.a) (a2:=v17.1.u.b) (a3:=v17.1.u.c) (a4:=v17.1.u.d) (b1:=v8.1.va) (b2:=v8.1.vb) (b3:=v8.1.vc) (b4:=v8.1.vd) (ka:=v17.1.k.a) (kb:=v17.1.k.b) (kc:=v17.1.k.c) (kd:=v17.1.k.d) (ma:=↑(flA (ini v1.1.n (v1.1.t+1)++v2.1.news) ([Value.str ⟨#[100]⟩ (v2.1.t+1),Value.str ⟨#[99]⟩ (v2.1.t+2),Value.str ⟨#[100]⟩ (v2.1.t+3)]++([]++v3.1.nw)))) (mb:=↑(flB (ini v1.1.n (v1.1.t+1)++v2.1.news) ([Value.str ⟨#[100]⟩ (v2.1.t+1),Value.str ⟨#[99]⟩ (v2.1.t+2),Value.str ⟨#[100]⟩ (v2.1.t+3)]++([]++v3.1.nw)))) (mc:=↑(flC (ini v1.1.n (v1.1.t+1)++v2.1.news) ([Value.str ⟨#[100]⟩ (v2.1.t+1),Value.str ⟨#[99]⟩ (v2.1.t+2),Value.str ⟨#[100]⟩ (v2.1.t+3)]++([]++v3.1.nw)))) (md:=↑(flD ([Value.str ⟨#[100]⟩ (v2.1.t+1),Value.str ⟨#[99]⟩ (v2.1.t+2),Value.str ⟨#[100]⟩ (v2.1.t+3)]++([]++v3.1.nw)))) (e0:=4) (e1:=v8.1.e) (by first | exact hash_cH | exact hash_kh) (by first | exact hash_cH | exact hash_kh) (by first | exact (runs_fin (tbl_of v2.2).dwn v15.2.2.1).a | exact (turns_fin (tbl_of v2.2).dwn v17.2.2.1).a) (by first | exact (runs_fin (tbl_of v2.2).dwn v15.2.2.1).b | exact (turns_fin (tbl_of v2.2).dwn v17.2.2.1).b) (by first | exact (runs_fin (tbl_of v2.2).dwn v15.2.2.1).c | exact (turns_fin (tbl_of v2.2).dwn v17.2.2.1).c) (by first | exact (runs_fin (tbl_of v2.2).dwn v15.2.2.1).d | exact (turns_fin (tbl_of v2.2).dwn v17.2.2.1).d) nosys nosys) fun _=>(.i [0,51,51,0] [N+355,N+355] 0 131328 1 3 [1,0] [3,1] (CutOk.wkS ((some ⟨none,some (fsL w r N (N+1) (N+2))⟩):Hd) (rows2_ok (G:=v1.1.n+6) (Vd:=v8.1.A) (e:=v2.1.e) (ev:=v8.1.e) (N:=v17.1.n) (t:=v17.1.t) (h1:=kh w r ⟨#[97]⟩) (h2:=kh w r ⟨#[98]⟩) (h3:=kh w r ⟨#[99]⟩) (h4:=kh w r ⟨#[100]⟩) (u1:=v8.1.a) (u2:=v8.1.b) (u3:=v8.1.c) (u4:=v8.1.d) (ka:=(cntV sa ([Value.str ⟨#[100]⟩ (v2.1.t+1),Value.str ⟨#[99]⟩ (v2.1.t+2),Value.str ⟨#[100]⟩ (v2.1.t+3)]++([]++v3.1.nw))).add (cn (hits sd (ini v1.1.n (v1.1.t+1)++v2.1.news)) sa (flD ([Value.str ⟨#[100]⟩ (v2.1.t+1),Value.str ⟨#[99]⟩ (v2.1.t+2),Value.str ⟨#[100]⟩ (v2.1.t+3)]++([]++v3.1.nw))) + cn (hits Mine.sc (ini v1.1.n (v1.1.t+1)++v2.1.news)) sa (flC (ini v1.1.n (v1.1.t+1)++v2.1.news) ([Value.str ⟨#[100]⟩ (v2.1.t+1),Value.str ⟨#[99]⟩ (v2.1.t+2),Value.str ⟨#[100]⟩ (v2.1.t+3)]++([]++v3.1.nw))) + cn (hits sb (ini v1.1.n (v1.1.t+1)++v2.1.news)) sa (flB (ini v1.1.n (v1.1.t+1)++v2.1.news) ([Value.str ⟨#[100]⟩ (v2.1.t+1),Value.str ⟨#[99]⟩ (v2.1.t+2),Value.str ⟨#[100]⟩ (v2.1.t+3)]++([]++v3.1.nw))))) (kb:=(cntV sb ([Value.str ⟨#[100]⟩ (v2.1.t+1),Value.str ⟨#[99]⟩ (v2.1.t+2),Value.str ⟨#[100]⟩ (v2.1.t+3)]++([]++v3.1.nw))).add (cn (hits sd (ini v1.1.n (v1.1.t+1)++v2.1.news)) sb (flD ([Value.str ⟨#[100]⟩ (v2.1.t+1),Value.str ⟨#[99]⟩ (v2.1.t+2),Value.str ⟨#[100]⟩ (v2.1.t+3)]++([]++v3.1.nw))) + cn (hits Mine.sc (ini v1.1.n (v1.1.t+1)++v2.1.news)) sb (flC (ini v1.1.n (v1.1.t+1)++v2.1.news) ([Value.str ⟨#[100]⟩ (v2.1.t+1),Value.str ⟨#[99]⟩ (v2.1.t+2),Value.str ⟨#[100]⟩ (v2.1.t+3)]++([]++v3.1.nw))))) (kc:=(cntV Mine.sc ([Value.str ⟨#[100]⟩ (v2.1.t+1),Value.str ⟨#[99]⟩ (v2.1.t+2),Value.str ⟨#[100]⟩ (v2.1.t+3)]++([]++v3.1.nw))).add (cn (hits sd (ini v1.1.n (v1.1.t+1)++v2.1.news)) Mine.sc (flD ([Value.str ⟨#[100]⟩ (v2.1.t+1),Value.str ⟨#[99]⟩ (v2.1.t+2),Value.str ⟨#[100]⟩ (v2.1.t+3)]++([]++v3.1.nw))))) (kd:=((List.filter (fun v=>decide (sOf v = sd)) ([].append ([]++v3.1.nw))).length)+2) (ua:=v8.1.va) (ub:=v8.1.vb) (uc:=v8.1.vc) (ud:=v8.1.vd) (es:=ini v1.1.n (v1.1.t+1)++v2.1.news) (MB1.bi _) (fun h b=>hB1 h b.1) hD.up (es_ok v2.2 (dr_len v1.2 hne).2 (by decide)) (tbl_of v2.2).dwn (fun h b=>pairs_in b.2 (by simp only [List.nil_append,List.append_nil]; exact im_3)))) fun v19=>(.i (cond x₀.a (d8 35 0x11d1b000000001b0000001b0000001b410101050505050105010501010101013d3d) (d8 41 0x11d1b000000001b0000001b0000001b410101050505050105010501050105010505010101013d3d)) (cond x₀.a (ix [v19.1.n+357,v8.1.n+356,v8.1.n+357,N+356,v19.1.n+355,N+355] 18 0x554444444003222210) (ix [v19.1.n+357,v8.1.n+356,v8.1.n+357,N+356,v19.1.n+355,N+355] 22 0x5544444444444003222210)) 0 57344 1 3 [0,1,2] [1,3,5] (CutOk.wkS ((some ⟨none,some (fsL w r N (N+1) (N+2))⟩):Hd) (get_all_ok (es:=v15.1.es) (k:=⟨#[97]⟩) (tk:=v19.1.t+2) (T:=v8.1.n+2) (dT:=v8.1.n+1) (H:=v8.1.n) (e:=v15.1.e) (N:=v19.1.n+3) (t:=v19.1.t+4) (h1:=kz w r ⟨#[95,104,101,97,100,101,114,115]⟩) (t1:=v8.1.t+5) (MB1.bi _) (fun h b=>hB1 h b.1) hD.up (by first | exact (by rw [(runs_keep v15.2.2.1 (tbl_of v2.2).dwn).1]; exact (es_ok v2.2 (dr_len v1.2 hne).2 (by decide))) | exact (by rw [(turns_keep v17.2.2.1 (tbl_of v2.2).dwn).1]; exact (es_ok v2.2 (dr_len v1.2 hne).2 (by decide)))) (by first | exact (fun x hx=>((runs_keep v15.2.2.1 (tbl_of v2.2).dwn).2 x hx).1) | exact (fun x hx=>((turns_keep v17.2.2.1 (tbl_of v2.2).dwn).2 x hx).1)) (by first | exact (fun h b=>pairs_s b.2 (by simp only [List.nil_append,List.append_nil]; exact im_3) (by simp only [List.nil_append,List.append_nil]; exact im_n2) v15.2.2.2) | exact (fun h b=>pairs_s b.2 (by simp only [List.nil_append,List.append_nil]; exact im_3) (by simp only [List.nil_append,List.append_nil]; exact im_n1) v17.2.2.2)) (by first | exact arg_abcd.1 | exact arg_abcd.2.1 | exact arg_abcd.2.2.1 | exact arg_abcd.2.2.2))) fun v20=>(.i (d8 35 0x31f1d000000001d0000001d0000001d430303070707070107010701050505010501) (ix [v19.1.n+357,v8.1.n+356,v8.1.n+357,N+356,v19.1.n+355,v19.1.n+356] 19 0x5555444444003222210) 0 114688 1 3 [0,1,2] [1,3,5] (CutOk.wkS ((some ⟨none,some (fsL w r N (N+1) (N+2))⟩):Hd) (get_all_ok (es:=v15.1.es) (k:=⟨#[98]⟩) (tk:=v20.1.t) (T:=v8.1.n+2) (dT:=v8.1.n+1) (H:=v8.1.n) (e:=v15.1.e) (N:=v20.1.n) (t:=v20.1.t+2) (h1:=kz w r ⟨#[95,104,101,97,100,101,114,115]⟩) (t1:=v8.1.t+5) (MB1.bi _) (fun h b=>hB1 h b.1) hD.up (by first | exact (by rw [(runs_keep v15.2.2.1 (tbl_of v2.2).dwn).1]; exact (es_ok v2.2 (dr_len v1.2 hne).2 (by decide))) | exact (by rw [(turns_keep v17.2.2.1 (tbl_of v2.2).dwn).1]; exact (es_ok v2.2 (dr_len v1.2 hne).2 (by decide)))) (by first | exact (fun x hx=>((runs_keep v15.2.2.1 (tbl_of v2.2).dwn).2 x hx).1) | exact (fun x hx=>((turns_keep v17.2.2.1 (tbl_of v2.2).dwn).2 x hx).1)) (by first | exact (fun h b=>pairs_s b.2 (by simp only [List.nil_append,List.append_nil]; exact im_3) (by simp only [List.nil_append,List.append_nil]; exact im_n2) v15.2.2.2) | exact (fun h b=>pairs_s b.2 (by simp only [List.nil_append,List.append_nil]; exact im_3) (by simp only [List.nil_append,List.append_nil]; exact im_n1) v17.2.2.2)) (by first | exact arg_abcd.1 | exact arg_abcd.2.1 | exact arg_abcd.2.2.1 | exact arg_abcd.2.2.2))) fun v21=>(.i (d8 35 0x5211f000000001f0000001f0000001f450505090909090109010901070707010701) (ix [v19.1.n+357,v8.1.n+356,v8.1.n+357,N+356,v19.1.n+355,v19.1.n+356] 19 0x5555444444003222210) 0 229376 1 3 [0,1,2] [1,3,5] (CutOk.wkS ((some ⟨none,some (fsL w r N (N+1) (N+2))⟩):Hd) (get_all_ok (es:=v15.1.es) (k:=⟨#[99]⟩) (tk:=v21.1.t) (T:=v8.1.n+2) (dT:=v8.1.n+1) (H:=v8.1.n) (e:=v15.1.e) (N:=v21.1.n) (t:=v21.1.t+2) (h1:=kz w r ⟨#[95,104,101,97,100,101,114,115]⟩) (t1:=v8.1.t+5) (MB1.bi _) (fun h b=>hB1 h b.1) hD.up (by first | exact (by rw [(runs_keep v15.2.2.1 (tbl_of v2.2).dwn).1]; exact (es_ok v2.2 (dr_len v1.2 hne).2 (by decide))) | exact (by rw [(turns_keep v17.2.2.1 (tbl_of v2.2).dwn).1]; exact (es_ok v2.2 (dr_len v1.2 hne).2 (by decide)))) (by first | exact (fun x hx=>((runs_keep v15.2.2.1 (tbl_of v2.2).dwn).2 x hx).1) | exact (fun x hx=>((turns_keep v17.2.2.1 (tbl_of v2.2).dwn).2 x hx).1)) (by first | exact (fun h b=>pairs_s b.2 (by simp only [List.nil_append,List.append_nil]; exact im_3) (by simp only [List.nil_append,List.append_nil]; exact im_n2) v15.2.2.2) | exact (fun h b=>pairs_s b.2 (by simp only [List.nil_append,List.append_nil]; exact im_3) (by simp only [List.nil_append,List.append_nil]; exact im_n1) v17.2.2.2)) (by first | exact arg_abcd.1 | exact arg_abcd.2.1 | exact arg_abcd.2.2.1 | exact arg_abcd.2.2.2))) fun v22=>(.i (d8 35 0x72321000000002100000021000000214707070b0b0b0b010b010b01090909010901) (ix [v19.1.n+357,v8.1.n+356,v8.1.n+357,N+356,v19.1.n+355,v19.1.n+356] 19 0x5555444444003222210) 0 458752 1 3 [0,1,2] [1,3,5] (CutOk.wkS ((some ⟨none,some (fsL w r N (N+1) (N+2))⟩):Hd) (get_all_ok (es:=v15.1.es) (k:=⟨#[100]⟩) (tk:=v22.1.t) (T:=v8.1.n+2) (dT:=v8.1.n+1) (H:=v8.1.n) (e:=v15.1.e) (N:=v22.1.n) (t:=v22.1.t+2) (h1:=kz w r ⟨#[95,104,101,97,100,101,114,115]⟩) (t1:=v8.1.t+5) (MB1.bi _) (fun h b=>hB1 h b.1) hD.up (by first | exact (by rw [(runs_keep v15.2.2.1 (tbl_of v2.2).dwn).1]; exact (es_ok v2.2 (dr_len v1.2 hne).2 (by decide))) | exact (by rw [(turns_keep v17.2.2.1 (tbl_of v2.2).dwn).1]; exact (es_ok v2.2 (dr_len v1.2 hne).2 (by decide)))) (by first | exact (fun x hx=>((runs_keep v15.2.2.1 (tbl_of v2.2).dwn).2 x hx).1) | exact (fun x hx=>((turns_keep v17.2.2.1 (tbl_of v2.2).dwn).2 x hx).1)) (by first | exact (fun h b=>pairs_s b.2 (by simp only [List.nil_append,List.append_nil]; exact im_3) (by simp only [List.nil_append,List.append_nil]; exact im_n2) v15.2.2.2) | exact (fun h b=>pairs_s b.2 (by simp only [List.nil_append,List.append_nil]; exact im_3) (by simp only [List.nil_append,List.append_nil]; exact im_n1) v17.2.2.2)) (by first | exact arg_abcd.1 | exact arg_abcd.2.1 | exact arg_abcd.2.2.1 | exact arg_abcd.2.2.2))) fun v23=>(.a (d8 25 0xf010f1b0f4f0d0d0d010d0d0d0d010d010d010b0b0b010b01) (ix [v19.1.n+356,v17.1.n+357,N+355,v19.1.n+357,v23.1.n+356,v19.1.n+355] 19 0x555555433320100) 0 16060 1 3 (d6 10 0x1678902345) (d8 10 0xb0d0f11010305071309) (lne4_ok (hd:=some { v:=none,f:=some (fsL w r N (N+1) (N+2)) }) (n:=v23.1.n+357) (t:=v23.1.t) (P:=v19.1.n+356) (Q0:=v17.1.n+357) (a1:=v19.1.n+362) (a2:=v20.1.n+359) (a3:=v21.1.n+359) (a4:=v22.1.n+359) (b1:=v19.1.a+355) (b2:=v19.1.b+355) (b3:=v19.1.c+355) (b4:=v19.1.d+355) (x1:=hits (low ⟨#[97]⟩) v15.1.es) (x2:=hits (low ⟨#[98]⟩) v15.1.es) (x3:=hits (low ⟨#[99]⟩) v15.1.es) (x4:=hits (low ⟨#[100]⟩) v15.1.es) (y1:=turned (flA (ini v1.1.n (v1.1.t+1)++v2.1.news) ([Value.str ⟨#[100]⟩ (v2.1.t+1),Value.str ⟨#[99]⟩ (v2.1.t+2),Value.str ⟨#[100]⟩ (v2.1.t+3)]++([]++v3.1.nw))) (hits sa (ini v1.1.n (v1.1.t+1)++v2.1.news))) (y2:=turned (flB (ini v1.1.n (v1.1.t+1)++v2.1.news) ([Value.str ⟨#[100]⟩ (v2.1.t+1),Value.str ⟨#[99]⟩ (v2.1.t+2),Value.str ⟨#[100]⟩ (v2.1.t+3)]++([]++v3.1.nw))) (hits sb (ini v1.1.n (v1.1.t+1)++v2.1.news))) (y3:=turned (flC (ini v1.1.n (v1.1.t+1)++v2.1.news) ([Value.str ⟨#[100]⟩ (v2.1.t+1),Value.str ⟨#[99]⟩ (v2.1.t+2),Value.str ⟨#[100]⟩ (v2.1.t+3)]++([]++v3.1.nw))) (hits Mine.sc (ini v1.1.n (v1.1.t+1)++v2.1.news))) (y4:=turned (flD ([Value.str ⟨#[100]⟩ (v2.1.t+1),Value.str ⟨#[99]⟩ (v2.1.t+2),Value.str ⟨#[100]⟩ (v2.1.t+3)]++([]++v3.1.nw))) (hits sd (ini v1.1.n (v1.1.t+1)++v2.1.news))) (e0:=4) (e1:=4) (f1:=v20.1.e) (f2:=v21.1.e) (f3:=v22.1.e) (f4:=v23.1.e) (g1:=0) (g2:=0) (g3:=0) (g4:=0) (by omega) ((runs_fin (tbl_of v2.2).dwn v15.2.2.1).same (tbl_of v2.2).dwn).1 ((runs_fin (tbl_of v2.2).dwn v15.2.2.1).same (tbl_of v2.2).dwn).2.1 ((runs_fin (tbl_of v2.2).dwn v15.2.2.1).same (tbl_of v2.2).dwn).2.2.1 ((runs_fin (tbl_of v2.2).dwn v15.2.2.1).same (tbl_of v2.2).dwn).2.2.2) fun _=>(.i (cond x₀.a (d8 33 0x129270000000027000000270000002751010105050505010501050101010101) (d8 39 0x129270000000027000000270000002751010105050505010501050105010501050501010101)) (cond x₀.a (ix [v23.1.n+359,v11.1.n+356,v11.1.n+357,N+357,v23.1.n+357] 16 0x4444444003222210) (ix [v23.1.n+359,v11.1.n+356,v11.1.n+357,N+357,v23.1.n+357] 20 0x44444444444003222210)) 0 3670016 1 3 [0,1,2] [1,3,5] (CutOk.wkS ((some ⟨none,some (fsL w r N (N+1) (N+2))⟩):Hd) (get_all_ok (es:=v17.1.es) (k:=⟨#[97]⟩) (tk:=v23.1.t+1) (T:=v11.1.n+2) (dT:=v11.1.n+1) (H:=v11.1.n) (e:=v17.1.e) (N:=v23.1.n+5) (t:=v23.1.t+3) (h1:=kz w r ⟨#[95,104,101,97,100,101,114,115]⟩) (t1:=v11.1.t+4) (MB1.bi _) (fun h b=>hB1 h b.1) hD.up (by first | exact (by rw [(runs_keep v15.2.2.1 (tbl_of v2.2).dwn).1]; exact (es_ok v2.2 (dr_len v1.2 hne).2 (by decide))) | exact (by rw [(turns_keep v17.2.2.1 (tbl_of v2.2).dwn).1]; exact (es_ok v2.2 (dr_len v1.2 hne).2 (by decide)))) (by first | exact (fun x hx=>((runs_keep v15.2.2.1 (tbl_of v2.2).dwn).2 x hx).1) | exact (fun x hx=>((turns_keep v17.2.2.1 (tbl_of v2.2).dwn).2 x hx).1)) (by first | exact (fun h b=>pairs_s b.2 (by simp only [List.nil_append,List.append_nil]; exact im_3) (by simp only [List.nil_append,List.append_nil]; exact im_n2) v15.2.2.2) | exact (fun h b=>pairs_s b.2 (by simp only [List.nil_append,List.append_nil]; exact im_3) (by simp only [List.nil_append,List.append_nil]; exact im_n1) v17.2.2.2)) (by first | exact arg_abcd.1 | exact arg_abcd.2.1 | exact arg_abcd.2.2.1 | exact arg_abcd.2.2.2))) fun v25=>(.i (d8 35 0x32b2900000000290000002900000029530303070707070107010701050505010501) (ix [v23.1.n+359,v11.1.n+356,v11.1.n+357,N+357,v23.1.n+357,v23.1.n+358] 19 0x5555444444003222210) 0 7340032 1 3 [0,1,2] [1,3,5] (CutOk.wkS ((some ⟨none,some (fsL w r N (N+1) (N+2))⟩):Hd) (get_all_ok (es:=v17.1.es) (k:=⟨#[98]⟩) (tk:=v25.1.t) (T:=v11.1.n+2) (dT:=v11.1.n+1) (H:=v11.1.n) (e:=v17.1.e) (N:=v25.1.n) (t:=v25.1.t+2) (h1:=kz w r ⟨#[95,104,101,97,100,101,114,115]⟩) (t1:=v11.1.t+4) (MB1.bi _) (fun h b=>hB1 h b.1) hD.up (by first | exact (by rw [(runs_keep v15.2.2.1 (tbl_of v2.2).dwn).1]; exact (es_ok v2.2 (dr_len v1.2 hne).2 (by decide))) | exact (by rw [(turns_keep v17.2.2.1 (tbl_of v2.2).dwn).1]; exact (es_ok v2.2 (dr_len v1.2 hne).2 (by decide)))) (by first | exact (fun x hx=>((runs_keep v15.2.2.1 (tbl_of v2.2).dwn).2 x hx).1) | exact (fun x hx=>((turns_keep v17.2.2.1 (tbl_of v2.2).dwn).2 x hx).1)) (by first | exact (fun h b=>pairs_s b.2 (by simp only [List.nil_append,List.append_nil]; exact im_3) (by simp only [List.nil_append,List.append_nil]; exact im_n2) v15.2.2.2) | exact (fun h b=>pairs_s b.2 (by simp only [List.nil_append,List.append_nil]; exact im_3) (by simp only [List.nil_append,List.append_nil]; exact im_n1) v17.2.2.2)) (by first | exact arg_abcd.1 | exact arg_abcd.2.1 | exact arg_abcd.2.2.1 | exact arg_abcd.2.2.2))) fun v26=>(.i (d8 35 0x52d2b000000002b0000002b0000002b550505090909090109010901070707010701) (ix [v23.1.n+359,v11.1.n+356,v11.1.n+357,N+357,v23.1.n+357,v23.1.n+358] 19 0x5555444444003222210) 0 14680064 1 3 [0,1,2] [1,3,5] (CutOk.wkS ((some ⟨none,some (fsL w r N (N+1) (N+2))⟩):Hd) (get_all_ok (es:=v17.1.es) (k:=⟨#[99]⟩) (tk:=v26.1.t) (T:=v11.1.n+2) (dT:=v11.1.n+1) (H:=v11.1.n) (e:=v17.1.e) (N:=v26.1.n) (t:=v26.1.t+2) (h1:=kz w r ⟨#[95,104,101,97,100,101,114,115]⟩) (t1:=v11.1.t+4) (MB1.bi _) (fun h b=>hB1 h b.1) hD.up (by first | exact (by rw [(runs_keep v15.2.2.1 (tbl_of v2.2).dwn).1]; exact (es_ok v2.2 (dr_len v1.2 hne).2 (by decide))) | exact (by rw [(turns_keep v17.2.2.1 (tbl_of v2.2).dwn).1]; exact (es_ok v2.2 (dr_len v1.2 hne).2 (by decide)))) (by first | exact (fun x hx=>((runs_keep v15.2.2.1 (tbl_of v2.2).dwn).2 x hx).1) | exact (fun x hx=>((turns_keep v17.2.2.1 (tbl_of v2.2).dwn).2 x hx).1)) (by first | exact (fun h b=>pairs_s b.2 (by simp only [List.nil_append,List.append_nil]; exact im_3) (by simp only [List.nil_append,List.append_nil]; exact im_n2) v15.2.2.2) | exact (fun h b=>pairs_s b.2 (by simp only [List.nil_append,List.append_nil]; exact im_3) (by simp only [List.nil_append,List.append_nil]; exact im_n1) v17.2.2.2)) (by first | exact arg_abcd.1 | exact arg_abcd.2.1 | exact arg_abcd.2.2.1 | exact arg_abcd.2.2.2))) fun v27=>(.i (d8 35 0x72f2d000000002d0000002d0000002d5707070b0b0b0b010b010b01090909010901) (ix [v23.1.n+359,v11.1.n+356,v11.1.n+357,N+357,v23.1.n+357,v23.1.n+358] 19 0x5555444444003222210) 0 29360128 1 3 [0,1,2] [1,3,5] (CutOk.wkS ((some ⟨none,some (fsL w r N (N+1) (N+2))⟩):Hd) (get_all_ok (es:=v17.1.es) (k:=⟨#[100]⟩) (tk:=v27.1.t) (T:=v11.1.n+2) (dT:=v11.1.n+1) (H:=v11.1.n) (e:=v17.1.e) (N:=v27.1.n) (t:=v27.1.t+2) (h1:=kz w r ⟨#[95,104,101,97,100,101,114,115]⟩) (t1:=v11.1.t+4) (MB1.bi _) (fun h b=>hB1 h b.1) hD.up (by first | exact (by rw [(runs_keep v15.2.2.1 (tbl_of v2.2).dwn).1]; exact (es_ok v2.2 (dr_len v1.2 hne).2 (by decide))) | exact (by rw [(turns_keep v17.2.2.1 (tbl_of v2.2).dwn).1]; exact (es_ok v2.2 (dr_len v1.2 hne).2 (by decide)))) (by first | exact (fun x hx=>((runs_keep v15.2.2.1 (tbl_of v2.2).dwn).2 x hx).1) | exact (fun x hx=>((turns_keep v17.2.2.1 (tbl_of v2.2).dwn).2 x hx).1)) (by first | exact (fun h b=>pairs_s b.2 (by simp only [List.nil_append,List.append_nil]; exact im_3) (by simp only [List.nil_append,List.append_nil]; exact im_n2) v15.2.2.2) | exact (fun h b=>pairs_s b.2 (by simp only [List.nil_append,List.append_nil]; exact im_3) (by simp only [List.nil_append,List.append_nil]; exact im_n1) v17.2.2.2)) (by first | exact arg_abcd.1 | exact arg_abcd.2.1 | exact arg_abcd.2.2.1 | exact arg_abcd.2.2.2))) fun v28=>(.a (d8 25 0xf010f2d0f610d0d0d010d0d0d0d010d010d010b0b0b010b01) (ix [v23.1.n+358,v17.1.n+357,N+355,v23.1.n+359,v28.1.n+356,v23.1.n+357] 19 0x555555433320100) 0 8126652 1 3 (d6 10 0x1678902345) (d8 10 0xb0d0f11010305071309) (leq4_ok (hd:=some { v:=none,f:=some (fsL w r N (N+1) (N+2)) }) (n:=v28.1.n+357) (t:=v28.1.t) (P:=v23.1.n+358) (Q0:=v17.1.n+357) (a1:=v23.1.n+364) (a2:=v25.1.n+359) (a3:=v26.1.n+359) (a4:=v27.1.n+359) (b1:=v19.1.a+355) (b2:=v19.1.b+355) (b3:=v19.1.c+355) (b4:=v19.1.d+355) (x1:=hits (low ⟨#[97]⟩) v17.1.es) (x2:=hits (low ⟨#[98]⟩) v17.1.es) (x3:=hits (low ⟨#[99]⟩) v17.1.es) (x4:=hits (low ⟨#[100]⟩) v17.1.es) (y1:=turned (flA (ini v1.1.n (v1.1.t+1)++v2.1.news) ([Value.str ⟨#[100]⟩ (v2.1.t+1),Value.str ⟨#[99]⟩ (v2.1.t+2),Value.str ⟨#[100]⟩ (v2.1.t+3)]++([]++v3.1.nw))) (hits sa (ini v1.1.n (v1.1.t+1)++v2.1.news))) (y2:=turned (flB (ini v1.1.n (v1.1.t+1)++v2.1.news) ([Value.str ⟨#[100]⟩ (v2.1.t+1),Value.str ⟨#[99]⟩ (v2.1.t+2),Value.str ⟨#[100]⟩ (v2.1.t+3)]++([]++v3.1.nw))) (hits sb (ini v1.1.n (v1.1.t+1)++v2.1.news))) (y3:=turned (flC (ini v1.1.n (v1.1.t+1)++v2.1.news) ([Value.str ⟨#[100]⟩ (v2.1.t+1),Value.str ⟨#[99]⟩ (v2.1.t+2),Value.str ⟨#[100]⟩ (v2.1.t+3)]++([]++v3.1.nw))) (hits Mine.sc (ini v1.1.n (v1.1.t+1)++v2.1.news))) (y4:=turned (flD ([Value.str ⟨#[100]⟩ (v2.1.t+1),Value.str ⟨#[99]⟩ (v2.1.t+2),Value.str ⟨#[100]⟩ (v2.1.t+3)]++([]++v3.1.nw))) (hits sd (ini v1.1.n (v1.1.t+1)++v2.1.news))) (e0:=4) (e1:=4) (f1:=v25.1.e) (f2:=v26.1.e) (f3:=v27.1.e) (f4:=v28.1.e) (g1:=0) (g2:=0) (g3:=0) (g4:=0) (by omega) ((turns_fin (tbl_of v2.2).dwn v17.2.2.1).same (tbl_of v2.2).dwn).1 ((turns_fin (tbl_of v2.2).dwn v17.2.2.1).same (tbl_of v2.2).dwn).2.1 ((turns_fin (tbl_of v2.2).dwn v17.2.2.1).same (tbl_of v2.2).dwn).2.2.1 ((turns_fin (tbl_of v2.2).dwn v17.2.2.1).same (tbl_of v2.2).dwn).2.2.2) fun _=>(.k [] [] (r':=(.ok (.ret (.bool true)))) (l':=[(324,⟨.none,none,.fields ⟨v8.1.pl⟩,⟨[]⟩⟩)]) (m':=(v28.1.n+357)) (k':=v28.1.t) (z':=([]++((List.map Ent.pair v17.1.news).reverse++((List.map Ent.pair v15.1.news).reverse++(List.map Ent.pair (ini v1.1.n (v1.1.t+1)).reverse++List.map Ent.pair v2.1.news++[]))))) ⟨⟨v8.1.pl,_,(v28.1.n)+2,v28.1.t⟩,rfl,rfl,rfl,rfl,rfl⟩)))))))))))))))))))))))))))))))
 exact ⟨P₀,by intro ⟨x1,x2,x3,x4⟩; cases x1 <;> cases x2 <;> kernel_rfl⟩
include MB hB in
theorem law_e {Sc se N t:Nat} {sc:List Value} {dd:Option Addr} {sl:Array (Option Value)} (hD:Lim D U 200) (hsc:∀ v∈sc,∃ (x0:Int) (tx:Tok),v = .int x0 tx) (hl:sc.length≤400) (hne:sc.take 6 = []) :
  CutOk (XX w r g d os) B D U (.call (.ref 354) ⟨[.ref Sc],[]⟩) (some ⟨none,some []⟩) [(324,plO [])] [(Sc,lstO dd sc se sl)] (N+355) (t) (LwV) (fun v=>.ok (.ret (.bool true))) (fun v=>[]) (fun v=>[plO v.pl]) (fun v=>v.n+355) (fun v=>v.t) (fun v=>v.z):=by
 refine .of_q MB hB hD.lo 562949953421312 0 ?_
 k_data
 let P₀:Rows→Pk (XX w r g d os) B D U S₀ []:=fun x₀=>(.a (d6 12 0x212225105500) (ix [Sc,N+355] 7 0x1110000) 0 1 1 3 [1] [0,1] (upto2_ok (hd:=some { v:=none,f:=some (fsL w r N (N+1) (N+2)) }) (H:=Sc) (S:=N+358) (e:=se) (n:=N+359) (t:=t+2) (a:=6) (ta:=t+1) (vs:=sc) (dd:=dd) (sl:=sl) (by omega)) fun _=>(.a (cond x₀.a (d6 7 0x1111111) (d6 13 0x5151551111111)) (cond x₀.a (ixL [N+360,N+359] [0,1,1,1]) (ix [N+360,N+359] 8 0x11100000)) 7 8 1 3 [0] [1] (CutOk.wkS ((some ⟨none,some (fsL w r N (N+1) (N+2))⟩):Hd) (dr_end0 (L5:=N+7) (A:=N+6) (I:=N+5) (F0:=N) (G:=N+4) (ge:=0) (ae:=0) (N:=N+8) (t:=t+2) (vs:=List.take 6 sc) (acc:=[]) MB1 hB1 hD.up (by rw [hne]; rfl))) fun v1=>(.a (d6 6 0xf01ff) (ixL [N+355,N+362] [0,1,0,0]) 0 2 1 3 [0] [1] (CutOk.wkS ((some ⟨none,some (fsL w r N (N+1) (N+2))⟩):Hd) (pairs_ok (Q:=N+6) (qe:=0) (N:=v1.1.n) (t:=v1.1.t+1) (ds:=[]) MB1 hB1 hD.up (fun v hv=>nomatch hv) (by simp))) fun v2=>(.a (cond x₀.a (d8 10 0x1010107010707131111) (d8 16 0x5010501050501010107010707131111)) (cond x₀.a (ix [v2.1.n+356,N+361,N+355] 7 0x2221110) (ix [v2.1.n+356,N+361,N+355] 11 0x22211100000)) 7 64 1 3 [0] [1] (CutOk.wkS ((some ⟨none,some (fsL w r N (N+1) (N+2))⟩):Hd) (sp_end0 (L5:=v2.1.n+3) (A:=v2.1.n+2) (I:=v2.1.n+1) (F0:=N) (G:=N+6) (ge:=0) (ae:=0) (N:=v2.1.n+4) (t:=v2.1.t+4) (vs:=[]) (acc:=[]) MB1 hB1 hD.up rfl)) fun v3=>(.a (d6 6 0x717371) (ixL [v2.1.n+355,v2.1.n+357,v2.1.n+358] [0,0,1,0,2]) 0 10 1 3 [1,0] [3,1] (ladd_ok (hd:=some { v:=none,f:=some (fsL w r N (N+1) (N+2)) }) (n:=v3.1.n+355) (t:=v3.1.t) (H:=v2.1.n+355) (G:=v2.1.n+357) (vs:=[Value.str ⟨#[100]⟩ (v2.1.t+1),Value.str ⟨#[99]⟩ (v2.1.t+2),Value.str ⟨#[100]⟩ (v2.1.t+3)]) (ws:=[]) (e:=0) (e':=0) (by show 3 + 0≤_; omega)) fun _=>(.a (d8 9 0x1011b000000001b1b) (ixL [N+355] [0,0,0]) 0 0 1 4 [] [] (lnew_ok (hd:=some { v:=none,f:=some (fsL w r N (N+1) (N+2)) }) (n:=v3.1.n+356) (t:=v3.1.t+1) (a:=.ref (v1.1.n+361))) fun _=>(.a [1,1,1,1] (ixL [v3.1.n+356] [0,0,0]) 1 64 1 4 [0] [1] (linit_ok (hd:=some { v:=none,f:=some (fsL w r N (N+1) (N+2)) }) (n:=v3.1.n+357) (t:=v3.1.t+1) (H:=v3.1.n+356) (G:=v1.1.n+361) (vs:=List.map Ent.v (ini v1.1.n (v1.1.t+1)++v2.1.news)) (e:=0) (e1:=v2.1.e) (by rw [List.length_map]; exact Nat.le_trans (es_bd (M:=v1.1.n) (t:=v1.1.t+1) v2.2 (Nat.zero_le 6)).2 (by decide))) fun v6=>(.i (d6 41 0x1010000000000000100000001000101000100) [v3.1.n+358,v3.1.n+358] 3 4 2 4 [0] [1] (CutOk.wkS ((some ⟨none,some (fsL w r N (N+1) (N+2))⟩):Hd) (init2_ok (T:=v3.1.n+3) (dT:=v3.1.n+2) (H:=v3.1.n+1) (e:=v6) (N:=v3.1.n+4) (t:=v3.1.t+1) (es:=ini v1.1.n (v1.1.t+1)++v2.1.news) (MB1.bi _) (fun h b=>hB1 h b.1) hD.up (fun x hx=>dwn_good ((tbl_of v2.2).dwn x hx)) (by first | exact (fun h b=>pairs_in b.2 (by simp only [List.nil_append,List.append_nil]; exact im_1)) | exact (fun h b=>pairs_in b.2 (by simp only [List.nil_append,List.append_nil]; exact im_2)) | exact (fun h b=>pairs_in b.2 (by simp only [List.nil_append,List.append_nil]; exact im_3))))) fun v7=>(.i [33,0] [N+355] 196608 15 1 3 [0,1,2,3] [1,3,5,7] (flow2_ok (T:=v3.1.n+3) (dT:=v3.1.n+2) (H:=v3.1.n+1) (A:=v3.1.n) (e:=v6) (ea:=0) (N:=v7.1.n) (t:=v7.1.t) (L:=N) (C3:=N+1) (C4:=N+2) (pl0:=4) (k0:=kz w r ⟨#[95,104,101,97,100,101,114,115]⟩) (c2:=kh w r ⟨#[115,99,114,105,112,116]⟩) (c3:=kh w r ⟨#[100,114,97,119,115]⟩) (c4:=kh w r ⟨#[112,97,105,114,115]⟩) (c5:=kh w r ⟨#[115,116,97,114,116,115]⟩) (t0:=v3.1.t+5) (d2:=t) (d3:=v1.1.t) (d4:=v2.1.t) (d5:=v3.1.t) (y1:=.ref Sc) (y2:=.ref (N+361)) (y3:=.ref (v1.1.n+361)) (y4:=.ref (v3.1.n+355)) (es:=ini v1.1.n (v1.1.t+1)++v2.1.news) (ss:=[Value.str ⟨#[100]⟩ (v2.1.t+1),Value.str ⟨#[99]⟩ (v2.1.t+2),Value.str ⟨#[100]⟩ (v2.1.t+3)]) (MB1.bi _) (fun h b=>hB1 h b.1) hD.up (tbl_of v2.2) (fun h b=>pairs_in b.2 (by simp only [List.nil_append,List.append_nil]; exact im_1)) (es_ok v2.2 (Nat.zero_le 6) (by decide)) (fun v hv=>by obtain ⟨q,tq,e,_⟩:=(st_let (l:=[]) (fun x hx=>nomatch hx)) v hv; exact ⟨q,tq,e⟩) (by show 3≤_; omega)) fun v8=>(.a (d8 8 0x101230000002323) (ixL [N+355] [0,0,0]) 0 0 1 4 [] [] (lnew_ok (hd:=some { v:=none,f:=some (fsL w r N (N+1) (N+2)) }) (n:=v8.1.n+355) (t:=v8.1.t+1) (a:=.ref (v1.1.n+361))) fun _=>(.a [1,1,1,1] (ixL [v8.1.n+355] [0,0,0]) 1 1024 1 4 [0] [1] (linit_ok (hd:=some { v:=none,f:=some (fsL w r N (N+1) (N+2)) }) (n:=v8.1.n+356) (t:=v8.1.t+1) (H:=v8.1.n+355) (G:=v1.1.n+361) (vs:=List.map Ent.v (ini v1.1.n (v1.1.t+1)++v2.1.news)) (e:=0) (e1:=v2.1.e) (by rw [List.length_map]; exact Nat.le_trans (es_bd (M:=v1.1.n) (t:=v1.1.t+1) v2.2 (Nat.zero_le 6)).2 (by decide))) fun v10=>(.i (d6 41 0x1010000000000000100000001000101000100) [v8.1.n+357,v8.1.n+357] 3 4 2 4 [0] [1] (CutOk.wkS ((some ⟨none,some (fsL w r N (N+1) (N+2))⟩):Hd) (init2_ok (T:=v8.1.n+2) (dT:=v8.1.n+1) (H:=v8.1.n) (e:=v10) (N:=v8.1.n+3) (t:=v8.1.t+1) (es:=ini v1.1.n (v1.1.t+1)++v2.1.news) (MB1.bi _) (fun h b=>hB1 h b.1) hD.up (fun x hx=>dwn_good ((tbl_of v2.2).dwn x hx)) (by first | exact (fun h b=>pairs_in b.2 (by simp only [List.nil_append,List.append_nil]; exact im_1)) | exact (fun h b=>pairs_in b.2 (by simp only [List.nil_append,List.append_nil]; exact im_2)) | exact (fun h b=>pairs_in b.2 (by simp only [List.nil_append,List.append_nil]; exact im_3))))) fun v11=>(.a (d8 8 0x101290000002727) (ixL [N+355,N+356] [0,1,1]) 0 0 1 4 [] [] (lnew_ok (hd:=some { v:=none,f:=some (fsL w r N (N+1) (N+2)) }) (n:=v11.1.n+355) (t:=v11.1.t) (a:=.ref (v1.1.n+361))) fun _=>(.a [1,1,1,1] (ixL [v11.1.n+355] [0,0,0]) 1 8192 1 4 [0] [1] (linit_ok (hd:=some { v:=none,f:=some (fsL w r N (N+1) (N+2)) }) (n:=v11.1.n+356) (t:=v11.1.t) (H:=v11.1.n+355) (G:=v1.1.n+361) (vs:=List.map Ent.v (ini v1.1.n (v1.1.t+1)++v2.1.news)) (e:=0) (e1:=v2.1.e) (by rw [List.length_map]; exact Nat.le_trans (es_bd (M:=v1.1.n) (t:=v1.1.t+1) v2.2 (Nat.zero_le 6)).2 (by decide))) fun v13=>(.i (d6 41 0x1010000000000000100000001000101000100) [v11.1.n+357,v11.1.n+357] 3 4 2 4 [0] [1] (CutOk.wkS ((some ⟨none,some (fsL w r N (N+1) (N+2))⟩):Hd) (init2_ok (T:=v11.1.n+2) (dT:=v11.1.n+1) (H:=v11.1.n) (e:=v13) (N:=v11.1.n+3) (t:=v11.1.t) (es:=ini v1.1.n (v1.1.t+1)++v2.1.news) (MB1.bi _) (fun h b=>hB1 h b.1) hD.up (fun x hx=>dwn_good ((tbl_of v2.2).dwn x hx)) (by first | exact (fun h b=>pairs_in b.2 (by simp only [List.nil_append,List.append_nil]; exact im_1)) | exact (fun h b=>pairs_in b.2 (by simp only [List.nil_append,List.append_nil]; exact im_2)) | exact (fun h b=>pairs_in b.2 (by simp only [List.nil_append,List.append_nil]; exact im_3))))) fun v14=>(.i (d8 6 0x2f2d002b2b) (ixL [N+355,N+356,N+357] [0,1,2,2]) 32 1048 1 3 [0,1,2] [1,3,5] (CutOk.wkS ((some ⟨none,some (fsL w r N (N+1) (N+2))⟩):Hd) (one_ok (T:=v8.1.n+2) (dT:=v8.1.n+1) (H:=v8.1.n) (S:=v3.1.n) (e:=v10) (es0:=0) (N:=v14.1.n) (t:=v14.1.t) (k1:=kz w r ⟨#[95,104,101,97,100,101,114,115]⟩) (s1:=v8.1.t+5) (es:=ini v1.1.n (v1.1.t+1)++v2.1.news) (ss:=[Value.str ⟨#[100]⟩ (v2.1.t+1),Value.str ⟨#[99]⟩ (v2.1.t+2),Value.str ⟨#[100]⟩ (v2.1.t+3)]) (MB1.bi _) (fun h b=>hB1 h b.1) hD.up (es_ok v2.2 (Nat.zero_le 6) (by decide)) (tbl_of v2.2).dwn (fun h b=>pairs_in b.2 (by simp only [List.nil_append,List.append_nil]; exact im_1)) (by omega) (st_let (l:=[]) (fun x hx=>nomatch hx)) (by simp))) fun v15=>(.a (d8 6 0x101010f0131) (ixL [v14.1.n+357,v8.1.A+355,N+355] [0,0,1,0,2]) 0 129 1 3 [0,1] [1,3] (dne_ok (hd:=some { v:=none,f:=some (fsL w r N (N+1) (N+2)) }) (n:=v15.1.n+355) (t:=v15.1.t) (G:=v14.1.n+357) (S:=v8.1.A+355) (h1:=kh w r ⟨#[97]⟩) (h2:=kh w r ⟨#[98]⟩) (h3:=kh w r ⟨#[99]⟩) (h4:=kh w r ⟨#[100]⟩) (g1:=kh w r ⟨#[97]⟩) (g2:=kh w r ⟨#[98]⟩) (g3:=kh w r ⟨#[99]⟩) (g4:=kh w r ⟨#[100]⟩) (u1:=v14.1.t+3) (u2:=v14.1.t+7) (u3:=v14.1.t+11) (u4:=v14.1.t+15) (s1:=v8.1.a) (s2:=v8.1.b) (s3:=v8.1.c) (s4:=v8.1.d) (a1:=v15.1.u.a) (a2:=v15.1.u.b) (a3:=v15.1.u.c) (a4:=v15.1.u.d) (b1:=v8.1.va) (b2:=v8.1.vb) (b3:=v8.1.vc) (b4:=v8.1.vd) (ka:=v15.1.k.a) (kb:=v15.1.k.b) (kc:=v15.1.k.c) (kd:=v15.1.k.d) (ma:=↑(flA (ini v1.1.n (v1.1.t+1)++v2.1.news) [Value.str ⟨#[100]⟩ (v2.1.t+1),Value.str ⟨#[99]⟩ (v2.1.t+2),Value.str ⟨#[100]⟩ (v2.1.t+3)])) (mb:=2) (mc:=2) (md:=2) (e0:=4) (e1:=v8.1.e) (by first | exact hash_cH | exact hash_kh) (by first | exact hash_cH | exact hash_kh) (by first | exact (runs_fin (tbl_of v2.2).dwn v15.2.2.1).a | exact (turns_fin (tbl_of v2.2).dwn v17.2.2.1).a) (by first | exact (runs_fin (tbl_of v2.2).dwn v15.2.2.1).b | exact (turns_fin (tbl_of v2.2).dwn v17.2.2.1).b) (by first | exact (runs_fin (tbl_of v2.2).dwn v15.2.2.1).c | exact (turns_fin (tbl_of v2.2).dwn v17.2.2.1).c) (by first | exact (runs_fin (tbl_of v2.2).dwn v15.2.2.1).d | exact (turns_fin (tbl_of v2.2).dwn v17.2.2.1).d) nosys nosys) fun _=>(.i [0,45,49,0] [N+355,N+357] 8 2054 1 3 [0,1,2] [1,3,5] (CutOk.wkS ((some ⟨none,some (fsL w r N (N+1) (N+2))⟩):Hd) (turns_ok (T:=v11.1.n+2) (dT:=v11.1.n+1) (H:=v11.1.n) (S:=v3.1.n) (e:=v13) (es0:=0) (N:=v15.1.n) (t:=v15.1.t) (k1:=kz w r ⟨#[95,104,101,97,100,101,114,115]⟩) (s1:=v11.1.t+4) (es:=ini v1.1.n (v1.1.t+1)++v2.1.news) (ss:=[Value.str ⟨#[100]⟩ (v2.1.t+1),Value.str ⟨#[99]⟩ (v2.1.t+2),Value.str ⟨#[100]⟩ (v2.1.t+3)]) (MB1.bi _) (fun h b=>hB1 h b.1) hD.up (es_ok v2.2 (Nat.zero_le 6) (by decide)) (tbl_of v2.2).dwn (fun h b=>pairs_in b.2 (by simp only [List.nil_append,List.append_nil]; exact im_2)) (by have q15:v14.1.n≤v15.1.n:=v15.2.1; omega) (st_let (l:=[]) (fun x hx=>nomatch hx)) ⟨by simp,(by show 3≤_; omega)⟩)) fun v17=>(.a (d8 6 0x10101110133) (ixL [v15.1.n+358,v8.1.A+355,N+355] [0,0,1,0,2]) 0 257 1 3 [0,1] [1,3] (dne_ok (hd:=some { v:=none,f:=some (fsL w r N (N+1) (N+2)) }) (n:=v17.1.n+355) (t:=v17.1.t) (G:=v15.1.n+358) (S:=v8.1.A+355) (h1:=kh w r ⟨#[97]⟩) (h2:=kh w r ⟨#[98]⟩) (h3:=kh w r ⟨#[99]⟩) (h4:=kh w r ⟨#[100]⟩) (g1:=kh w r ⟨#[97]⟩) (g2:=kh w r ⟨#[98]⟩) (g3:=kh w r ⟨#[99]⟩) (g4:=kh w r ⟨#[100]⟩) (u1:=v15.1.t+2) (u2:=v15.1.t+6) (u3:=v15.1.t+10) (u4:=v15.1.t+14) (s1:=v8.1.a) (s2:=v8.1.b) (s3:=v8.1.c) (s4:=v8.1.d) (a1:=v17.1.u.a) (a2:=v17.1.u.b) (a3:=v17.1.u.c) (a4:=v17.1.u.d) (b1:=v8.1.va) (b2:=v8.1.vb) (b3:=v8.1.vc) (b4:=v8.1.vd) (ka:=v17.1.k.a) (kb:=v17.1.k.b) (kc:=v17.1.k.c) (kd:=v17.1.k.d) (ma:=↑(flA (ini v1.1.n (v1.1.t+1)++v2.1.news) [Value.str ⟨#[100]⟩ (v2.1.t+1),Value.str ⟨#[99]⟩ (v2.1.t+2),Value.str ⟨#[100]⟩ (v2.1.t+3)])) (mb:=2) (mc:=2) (md:=2) (e0:=4) (e1:=v8.1.e) (by first | exact hash_cH | exact hash_kh) (by first | exact hash_cH | exact hash_kh) (by first | exact (runs_fin (tbl_of v2.2).dwn v15.2.2.1).a | exact (turns_fin (tbl_of v2.2).dwn v17.2.2.1).a) (by first | exact (runs_fin (tbl_of v2.2).dwn v15.2.2.1).b | exact (turns_fin (tbl_of v2.2).dwn v17.2.2.1).b) (by first | exact (runs_fin (tbl_of v2.2).dwn v15.2.2.1).c | exact (turns_fin (tbl_of v2.2).dwn v17.2.2.1).c) (by first | exact (runs_fin (tbl_of v2.2).dwn v15.2.2.1).d | exact (turns_fin (tbl_of v2.2).dwn v17.2.2.1).d) nosys nosys) fun _=>(.i [0,51,51,0] [N+355,N+355] 0 131328 1 3 [1,0] [3,1] (CutOk.wkS ((some ⟨none,some (fsL w r N (N+1) (N+2))⟩):Hd) (rows2_ok (G:=v1.1.n+6) (Vd:=v8.1.A) (e:=v2.1.e) (ev:=v8.1.e) (N:=v17.1.n) (t:=v17.1.t) (h1:=kh w r ⟨#[97]⟩) (h2:=kh w r ⟨#[98]⟩) (h3:=kh w r ⟨#[99]⟩) (h4:=kh w r ⟨#[100]⟩) (u1:=v8.1.a) (u2:=v8.1.b) (u3:=v8.1.c) (u4:=v8.1.d) (ka:=(cntV sa [Value.str ⟨#[100]⟩ (v2.1.t+1),Value.str ⟨#[99]⟩ (v2.1.t+2),Value.str ⟨#[100]⟩ (v2.1.t+3)]).add (cn (hits sd (ini v1.1.n (v1.1.t+1)++v2.1.news)) sa (flD [Value.str ⟨#[100]⟩ (v2.1.t+1),Value.str ⟨#[99]⟩ (v2.1.t+2),Value.str ⟨#[100]⟩ (v2.1.t+3)]) + cn (hits Mine.sc (ini v1.1.n (v1.1.t+1)++v2.1.news)) sa (flC (ini v1.1.n (v1.1.t+1)++v2.1.news) [Value.str ⟨#[100]⟩ (v2.1.t+1),Value.str ⟨#[99]⟩ (v2.1.t+2),Value.str ⟨#[100]⟩ (v2.1.t+3)]) + cn (hits sb (ini v1.1.n (v1.1.t+1)++v2.1.news)) sa (flB (ini v1.1.n (v1.1.t+1)++v2.1.news) [Value.str ⟨#[100]⟩ (v2.1.t+1),Value.str ⟨#[99]⟩ (v2.1.t+2),Value.str ⟨#[100]⟩ (v2.1.t+3)]))) (kb:=2) (kc:=2) (kd:=2) (ua:=v8.1.va) (ub:=v8.1.vb) (uc:=v8.1.vc) (ud:=v8.1.vd) (es:=ini v1.1.n (v1.1.t+1)++v2.1.news) (MB1.bi _) (fun h b=>hB1 h b.1) hD.up (es_ok v2.2 (Nat.zero_le 6) (by decide)) (tbl_of v2.2).dwn (fun h b=>pairs_in b.2 (by simp only [List.nil_append,List.append_nil]; exact im_3)))) fun v19=>(.i (cond x₀.a (d8 35 0x11d1b000000001b0000001b0000001b410101050505050105010501010101013d3d) (d8 41 0x11d1b000000001b0000001b0000001b410101050505050105010501050105010505010101013d3d)) (cond x₀.a (ix [v19.1.n+357,v8.1.n+356,v8.1.n+357,N+356,v19.1.n+355,N+355] 18 0x554444444003222210) (ix [v19.1.n+357,v8.1.n+356,v8.1.n+357,N+356,v19.1.n+355,N+355] 22 0x5544444444444003222210)) 0 57344 1 3 [0,1,2] [1,3,5] (CutOk.wkS ((some ⟨none,some (fsL w r N (N+1) (N+2))⟩):Hd) (get_all_ok (es:=v15.1.es) (k:=⟨#[97]⟩) (tk:=v19.1.t+2) (T:=v8.1.n+2) (dT:=v8.1.n+1) (H:=v8.1.n) (e:=v15.1.e) (N:=v19.1.n+3) (t:=v19.1.t+4) (h1:=kz w r ⟨#[95,104,101,97,100,101,114,115]⟩) (t1:=v8.1.t+5) (MB1.bi _) (fun h b=>hB1 h b.1) hD.up (by first | exact (by rw [(runs_keep v15.2.2.1 (tbl_of v2.2).dwn).1]; exact (es_ok v2.2 (Nat.zero_le 6) (by decide))) | exact (by rw [(turns_keep v17.2.2.1 (tbl_of v2.2).dwn).1]; exact (es_ok v2.2 (Nat.zero_le 6) (by decide)))) (by first | exact (fun x hx=>((runs_keep v15.2.2.1 (tbl_of v2.2).dwn).2 x hx).1) | exact (fun x hx=>((turns_keep v17.2.2.1 (tbl_of v2.2).dwn).2 x hx).1)) (by first | exact (fun h b=>pairs_s b.2 (by simp only [List.nil_append,List.append_nil]; exact im_3) (by simp only [List.nil_append,List.append_nil]; exact im_n2) v15.2.2.2) | exact (fun h b=>pairs_s b.2 (by simp only [List.nil_append,List.append_nil]; exact im_3) (by simp only [List.nil_append,List.append_nil]; exact im_n1) v17.2.2.2)) (by first | exact arg_abcd.1 | exact arg_abcd.2.1 | exact arg_abcd.2.2.1 | exact arg_abcd.2.2.2))) fun v20=>(.i (d8 35 0x31f1d000000001d0000001d0000001d430303070707070107010701050505010501) (ix [v19.1.n+357,v8.1.n+356,v8.1.n+357,N+356,v19.1.n+355,v19.1.n+356] 19 0x5555444444003222210) 0 114688 1 3 [0,1,2] [1,3,5] (CutOk.wkS ((some ⟨none,some (fsL w r N (N+1) (N+2))⟩):Hd) (get_all_ok (es:=v15.1.es) (k:=⟨#[98]⟩) (tk:=v20.1.t) (T:=v8.1.n+2) (dT:=v8.1.n+1) (H:=v8.1.n) (e:=v15.1.e) (N:=v20.1.n) (t:=v20.1.t+2) (h1:=kz w r ⟨#[95,104,101,97,100,101,114,115]⟩) (t1:=v8.1.t+5) (MB1.bi _) (fun h b=>hB1 h b.1) hD.up (by first | exact (by rw [(runs_keep v15.2.2.1 (tbl_of v2.2).dwn).1]; exact (es_ok v2.2 (Nat.zero_le 6) (by decide))) | exact (by rw [(turns_keep v17.2.2.1 (tbl_of v2.2).dwn).1]; exact (es_ok v2.2 (Nat.zero_le 6) (by decide)))) (by first | exact (fun x hx=>((runs_keep v15.2.2.1 (tbl_of v2.2).dwn).2 x hx).1) | exact (fun x hx=>((turns_keep v17.2.2.1 (tbl_of v2.2).dwn).2 x hx).1)) (by first | exact (fun h b=>pairs_s b.2 (by simp only [List.nil_append,List.append_nil]; exact im_3) (by simp only [List.nil_append,List.append_nil]; exact im_n2) v15.2.2.2) | exact (fun h b=>pairs_s b.2 (by simp only [List.nil_append,List.append_nil]; exact im_3) (by simp only [List.nil_append,List.append_nil]; exact im_n1) v17.2.2.2)) (by first | exact arg_abcd.1 | exact arg_abcd.2.1 | exact arg_abcd.2.2.1 | exact arg_abcd.2.2.2))) fun v21=>(.i (d8 35 0x5211f000000001f0000001f0000001f450505090909090109010901070707010701) (ix [v19.1.n+357,v8.1.n+356,v8.1.n+357,N+356,v19.1.n+355,v19.1.n+356] 19 0x5555444444003222210) 0 229376 1 3 [0,1,2] [1,3,5] (CutOk.wkS ((some ⟨none,some (fsL w r N (N+1) (N+2))⟩):Hd) (get_all_ok (es:=v15.1.es) (k:=⟨#[99]⟩) (tk:=v21.1.t) (T:=v8.1.n+2) (dT:=v8.1.n+1) (H:=v8.1.n) (e:=v15.1.e) (N:=v21.1.n) (t:=v21.1.t+2) (h1:=kz w r ⟨#[95,104,101,97,100,101,114,115]⟩) (t1:=v8.1.t+5) (MB1.bi _) (fun h b=>hB1 h b.1) hD.up (by first | exact (by rw [(runs_keep v15.2.2.1 (tbl_of v2.2).dwn).1]; exact (es_ok v2.2 (Nat.zero_le 6) (by decide))) | exact (by rw [(turns_keep v17.2.2.1 (tbl_of v2.2).dwn).1]; exact (es_ok v2.2 (Nat.zero_le 6) (by decide)))) (by first | exact (fun x hx=>((runs_keep v15.2.2.1 (tbl_of v2.2).dwn).2 x hx).1) | exact (fun x hx=>((turns_keep v17.2.2.1 (tbl_of v2.2).dwn).2 x hx).1)) (by first | exact (fun h b=>pairs_s b.2 (by simp only [List.nil_append,List.append_nil]; exact im_3) (by simp only [List.nil_append,List.append_nil]; exact im_n2) v15.2.2.2) | exact (fun h b=>pairs_s b.2 (by simp only [List.nil_append,List.append_nil]; exact im_3) (by simp only [List.nil_append,List.append_nil]; exact im_n1) v17.2.2.2)) (by first | exact arg_abcd.1 | exact arg_abcd.2.1 | exact arg_abcd.2.2.1 | exact arg_abcd.2.2.2))) fun v22=>(.i (d8 35 0x72321000000002100000021000000214707070b0b0b0b010b010b01090909010901) (ix [v19.1.n+357,v8.1.n+356,v8.1.n+357,N+356,v19.1.n+355,v19.1.n+356] 19 0x5555444444003222210) 0 458752 1 3 [0,1,2] [1,3,5] (CutOk.wkS ((some ⟨none,some (fsL w r N (N+1) (N+2))⟩):Hd) (get_all_ok (es:=v15.1.es) (k:=⟨#[100]⟩) (tk:=v22.1.t) (T:=v8.1.n+2) (dT:=v8.1.n+1) (H:=v8.1.n) (e:=v15.1.e) (N:=v22.1.n) (t:=v22.1.t+2) (h1:=kz w r ⟨#[95,104,101,97,100,101,114,115]⟩) (t1:=v8.1.t+5) (MB1.bi _) (fun h b=>hB1 h b.1) hD.up (by first | exact (by rw [(runs_keep v15.2.2.1 (tbl_of v2.2).dwn).1]; exact (es_ok v2.2 (Nat.zero_le 6) (by decide))) | exact (by rw [(turns_keep v17.2.2.1 (tbl_of v2.2).dwn).1]; exact (es_ok v2.2 (Nat.zero_le 6) (by decide)))) (by first | exact (fun x hx=>((runs_keep v15.2.2.1 (tbl_of v2.2).dwn).2 x hx).1) | exact (fun x hx=>((turns_keep v17.2.2.1 (tbl_of v2.2).dwn).2 x hx).1)) (by first | exact (fun h b=>pairs_s b.2 (by simp only [List.nil_append,List.append_nil]; exact im_3) (by simp only [List.nil_append,List.append_nil]; exact im_n2) v15.2.2.2) | exact (fun h b=>pairs_s b.2 (by simp only [List.nil_append,List.append_nil]; exact im_3) (by simp only [List.nil_append,List.append_nil]; exact im_n1) v17.2.2.2)) (by first | exact arg_abcd.1 | exact arg_abcd.2.1 | exact arg_abcd.2.2.1 | exact arg_abcd.2.2.2))) fun v23=>(.a (d8 25 0xf010f1b0f4f0d0d0d010d0d0d0d010d010d010b0b0b010b01) (ix [v19.1.n+356,v17.1.n+357,N+355,v19.1.n+357,v23.1.n+356,v19.1.n+355] 19 0x555555433320100) 0 16060 1 3 (d6 10 0x1678902345) (d8 10 0xb0d0f11010305071309) (lne4_ok (hd:=some { v:=none,f:=some (fsL w r N (N+1) (N+2)) }) (n:=v23.1.n+357) (t:=v23.1.t) (P:=v19.1.n+356) (Q0:=v17.1.n+357) (a1:=v19.1.n+362) (a2:=v20.1.n+359) (a3:=v21.1.n+359) (a4:=v22.1.n+359) (b1:=v19.1.a+355) (b2:=v19.1.b+355) (b3:=v19.1.c+355) (b4:=v19.1.d+355) (x1:=hits (low ⟨#[97]⟩) v15.1.es) (x2:=hits (low ⟨#[98]⟩) v15.1.es) (x3:=hits (low ⟨#[99]⟩) v15.1.es) (x4:=hits (low ⟨#[100]⟩) v15.1.es) (y1:=turned (flA (ini v1.1.n (v1.1.t+1)++v2.1.news) [Value.str ⟨#[100]⟩ (v2.1.t+1),Value.str ⟨#[99]⟩ (v2.1.t+2),Value.str ⟨#[100]⟩ (v2.1.t+3)]) (hits sa (ini v1.1.n (v1.1.t+1)++v2.1.news))) (y2:=turned 2 (hits sb (ini v1.1.n (v1.1.t+1)++v2.1.news))) (y3:=turned 2 (hits Mine.sc (ini v1.1.n (v1.1.t+1)++v2.1.news))) (y4:=turned 2 (hits sd (ini v1.1.n (v1.1.t+1)++v2.1.news))) (e0:=4) (e1:=4) (f1:=v20.1.e) (f2:=v21.1.e) (f3:=v22.1.e) (f4:=v23.1.e) (g1:=0) (g2:=0) (g3:=0) (g4:=0) (by omega) ((runs_fin (tbl_of v2.2).dwn v15.2.2.1).same (tbl_of v2.2).dwn).1 ((runs_fin (tbl_of v2.2).dwn v15.2.2.1).same (tbl_of v2.2).dwn).2.1 ((runs_fin (tbl_of v2.2).dwn v15.2.2.1).same (tbl_of v2.2).dwn).2.2.1 ((runs_fin (tbl_of v2.2).dwn v15.2.2.1).same (tbl_of v2.2).dwn).2.2.2) fun _=>(.i (cond x₀.a (d8 33 0x129270000000027000000270000002751010105050505010501050101010101) (d8 39 0x129270000000027000000270000002751010105050505010501050105010501050501010101)) (cond x₀.a (ix [v23.1.n+359,v11.1.n+356,v11.1.n+357,N+357,v23.1.n+357] 16 0x4444444003222210) (ix [v23.1.n+359,v11.1.n+356,v11.1.n+357,N+357,v23.1.n+357] 20 0x44444444444003222210)) 0 3670016 1 3 [0,1,2] [1,3,5] (CutOk.wkS ((some ⟨none,some (fsL w r N (N+1) (N+2))⟩):Hd) (get_all_ok (es:=v17.1.es) (k:=⟨#[97]⟩) (tk:=v23.1.t+1) (T:=v11.1.n+2) (dT:=v11.1.n+1) (H:=v11.1.n) (e:=v17.1.e) (N:=v23.1.n+5) (t:=v23.1.t+3) (h1:=kz w r ⟨#[95,104,101,97,100,101,114,115]⟩) (t1:=v11.1.t+4) (MB1.bi _) (fun h b=>hB1 h b.1) hD.up (by first | exact (by rw [(runs_keep v15.2.2.1 (tbl_of v2.2).dwn).1]; exact (es_ok v2.2 (Nat.zero_le 6) (by decide))) | exact (by rw [(turns_keep v17.2.2.1 (tbl_of v2.2).dwn).1]; exact (es_ok v2.2 (Nat.zero_le 6) (by decide)))) (by first | exact (fun x hx=>((runs_keep v15.2.2.1 (tbl_of v2.2).dwn).2 x hx).1) | exact (fun x hx=>((turns_keep v17.2.2.1 (tbl_of v2.2).dwn).2 x hx).1)) (by first | exact (fun h b=>pairs_s b.2 (by simp only [List.nil_append,List.append_nil]; exact im_3) (by simp only [List.nil_append,List.append_nil]; exact im_n2) v15.2.2.2) | exact (fun h b=>pairs_s b.2 (by simp only [List.nil_append,List.append_nil]; exact im_3) (by simp only [List.nil_append,List.append_nil]; exact im_n1) v17.2.2.2)) (by first | exact arg_abcd.1 | exact arg_abcd.2.1 | exact arg_abcd.2.2.1 | exact arg_abcd.2.2.2))) fun v25=>(.i (d8 35 0x32b2900000000290000002900000029530303070707070107010701050505010501) (ix [v23.1.n+359,v11.1.n+356,v11.1.n+357,N+357,v23.1.n+357,v23.1.n+358] 19 0x5555444444003222210) 0 7340032 1 3 [0,1,2] [1,3,5] (CutOk.wkS ((some ⟨none,some (fsL w r N (N+1) (N+2))⟩):Hd) (get_all_ok (es:=v17.1.es) (k:=⟨#[98]⟩) (tk:=v25.1.t) (T:=v11.1.n+2) (dT:=v11.1.n+1) (H:=v11.1.n) (e:=v17.1.e) (N:=v25.1.n) (t:=v25.1.t+2) (h1:=kz w r ⟨#[95,104,101,97,100,101,114,115]⟩) (t1:=v11.1.t+4) (MB1.bi _) (fun h b=>hB1 h b.1) hD.up (by first | exact (by rw [(runs_keep v15.2.2.1 (tbl_of v2.2).dwn).1]; exact (es_ok v2.2 (Nat.zero_le 6) (by decide))) | exact (by rw [(turns_keep v17.2.2.1 (tbl_of v2.2).dwn).1]; exact (es_ok v2.2 (Nat.zero_le 6) (by decide)))) (by first | exact (fun x hx=>((runs_keep v15.2.2.1 (tbl_of v2.2).dwn).2 x hx).1) | exact (fun x hx=>((turns_keep v17.2.2.1 (tbl_of v2.2).dwn).2 x hx).1)) (by first | exact (fun h b=>pairs_s b.2 (by simp only [List.nil_append,List.append_nil]; exact im_3) (by simp only [List.nil_append,List.append_nil]; exact im_n2) v15.2.2.2) | exact (fun h b=>pairs_s b.2 (by simp only [List.nil_append,List.append_nil]; exact im_3) (by simp only [List.nil_append,List.append_nil]; exact im_n1) v17.2.2.2)) (by first | exact arg_abcd.1 | exact arg_abcd.2.1 | exact arg_abcd.2.2.1 | exact arg_abcd.2.2.2))) fun v26=>(.i (d8 35 0x52d2b000000002b0000002b0000002b550505090909090109010901070707010701) (ix [v23.1.n+359,v11.1.n+356,v11.1.n+357,N+357,v23.1.n+357,v23.1.n+358] 19 0x5555444444003222210) 0 14680064 1 3 [0,1,2] [1,3,5] (CutOk.wkS ((some ⟨none,some (fsL w r N (N+1) (N+2))⟩):Hd) (get_all_ok (es:=v17.1.es) (k:=⟨#[99]⟩) (tk:=v26.1.t) (T:=v11.1.n+2) (dT:=v11.1.n+1) (H:=v11.1.n) (e:=v17.1.e) (N:=v26.1.n) (t:=v26.1.t+2) (h1:=kz w r ⟨#[95,104,101,97,100,101,114,115]⟩) (t1:=v11.1.t+4) (MB1.bi _) (fun h b=>hB1 h b.1) hD.up (by first | exact (by rw [(runs_keep v15.2.2.1 (tbl_of v2.2).dwn).1]; exact (es_ok v2.2 (Nat.zero_le 6) (by decide))) | exact (by rw [(turns_keep v17.2.2.1 (tbl_of v2.2).dwn).1]; exact (es_ok v2.2 (Nat.zero_le 6) (by decide)))) (by first | exact (fun x hx=>((runs_keep v15.2.2.1 (tbl_of v2.2).dwn).2 x hx).1) | exact (fun x hx=>((turns_keep v17.2.2.1 (tbl_of v2.2).dwn).2 x hx).1)) (by first | exact (fun h b=>pairs_s b.2 (by simp only [List.nil_append,List.append_nil]; exact im_3) (by simp only [List.nil_append,List.append_nil]; exact im_n2) v15.2.2.2) | exact (fun h b=>pairs_s b.2 (by simp only [List.nil_append,List.append_nil]; exact im_3) (by simp only [List.nil_append,List.append_nil]; exact im_n1) v17.2.2.2)) (by first | exact arg_abcd.1 | exact arg_abcd.2.1 | exact arg_abcd.2.2.1 | exact arg_abcd.2.2.2))) fun v27=>(.i (d8 35 0x72f2d000000002d0000002d0000002d5707070b0b0b0b010b010b01090909010901) (ix [v23.1.n+359,v11.1.n+356,v11.1.n+357,N+357,v23.1.n+357,v23.1.n+358] 19 0x5555444444003222210) 0 29360128 1 3 [0,1,2] [1,3,5] (CutOk.wkS ((some ⟨none,some (fsL w r N (N+1) (N+2))⟩):Hd) (get_all_ok (es:=v17.1.es) (k:=⟨#[100]⟩) (tk:=v27.1.t) (T:=v11.1.n+2) (dT:=v11.1.n+1) (H:=v11.1.n) (e:=v17.1.e) (N:=v27.1.n) (t:=v27.1.t+2) (h1:=kz w r ⟨#[95,104,101,97,100,101,114,115]⟩) (t1:=v11.1.t+4) (MB1.bi _) (fun h b=>hB1 h b.1) hD.up (by first | exact (by rw [(runs_keep v15.2.2.1 (tbl_of v2.2).dwn).1]; exact (es_ok v2.2 (Nat.zero_le 6) (by decide))) | exact (by rw [(turns_keep v17.2.2.1 (tbl_of v2.2).dwn).1]; exact (es_ok v2.2 (Nat.zero_le 6) (by decide)))) (by first | exact (fun x hx=>((runs_keep v15.2.2.1 (tbl_of v2.2).dwn).2 x hx).1) | exact (fun x hx=>((turns_keep v17.2.2.1 (tbl_of v2.2).dwn).2 x hx).1)) (by first | exact (fun h b=>pairs_s b.2 (by simp only [List.nil_append,List.append_nil]; exact im_3) (by simp only [List.nil_append,List.append_nil]; exact im_n2) v15.2.2.2) | exact (fun h b=>pairs_s b.2 (by simp only [List.nil_append,List.append_nil]; exact im_3) (by simp only [List.nil_append,List.append_nil]; exact im_n1) v17.2.2.2)) (by first | exact arg_abcd.1 | exact arg_abcd.2.1 | exact arg_abcd.2.2.1 | exact arg_abcd.2.2.2))) fun v28=>(.a (d8 25 0xf010f2d0f610d0d0d010d0d0d0d010d010d010b0b0b010b01) (ix [v23.1.n+358,v17.1.n+357,N+355,v23.1.n+359,v28.1.n+356,v23.1.n+357] 19 0x555555433320100) 0 8126652 1 3 (d6 10 0x1678902345) (d8 10 0xb0d0f11010305071309) (leq4_ok (hd:=some { v:=none,f:=some (fsL w r N (N+1) (N+2)) }) (n:=v28.1.n+357) (t:=v28.1.t) (P:=v23.1.n+358) (Q0:=v17.1.n+357) (a1:=v23.1.n+364) (a2:=v25.1.n+359) (a3:=v26.1.n+359) (a4:=v27.1.n+359) (b1:=v19.1.a+355) (b2:=v19.1.b+355) (b3:=v19.1.c+355) (b4:=v19.1.d+355) (x1:=hits (low ⟨#[97]⟩) v17.1.es) (x2:=hits (low ⟨#[98]⟩) v17.1.es) (x3:=hits (low ⟨#[99]⟩) v17.1.es) (x4:=hits (low ⟨#[100]⟩) v17.1.es) (y1:=turned (flA (ini v1.1.n (v1.1.t+1)++v2.1.news) [Value.str ⟨#[100]⟩ (v2.1.t+1),Value.str ⟨#[99]⟩ (v2.1.t+2),Value.str ⟨#[100]⟩ (v2.1.t+3)]) (hits sa (ini v1.1.n (v1.1.t+1)++v2.1.news))) (y2:=turned 2 (hits sb (ini v1.1.n (v1.1.t+1)++v2.1.news))) (y3:=turned 2 (hits Mine.sc (ini v1.1.n (v1.1.t+1)++v2.1.news))) (y4:=turned 2 (hits sd (ini v1.1.n (v1.1.t+1)++v2.1.news))) (e0:=4) (e1:=4) (f1:=v25.1.e) (f2:=v26.1.e) (f3:=v27.1.e) (f4:=v28.1.e) (g1:=0) (g2:=0) (g3:=0) (g4:=0) (by omega) ((turns_fin (tbl_of v2.2).dwn v17.2.2.1).same (tbl_of v2.2).dwn).1 ((turns_fin (tbl_of v2.2).dwn v17.2.2.1).same (tbl_of v2.2).dwn).2.1 ((turns_fin (tbl_of v2.2).dwn v17.2.2.1).same (tbl_of v2.2).dwn).2.2.1 ((turns_fin (tbl_of v2.2).dwn v17.2.2.1).same (tbl_of v2.2).dwn).2.2.2) fun _=>(.k [] [] (r':=(.ok (.ret (.bool true)))) (l':=[(324,⟨.none,none,.fields ⟨v8.1.pl⟩,⟨[]⟩⟩)]) (m':=(v28.1.n+357)) (k':=v28.1.t) (z':=([]++((List.map Ent.pair v17.1.news).reverse++((List.map Ent.pair v15.1.news).reverse++(List.map Ent.pair (ini v1.1.n (v1.1.t+1)).reverse++List.map Ent.pair v2.1.news++[]))))) ⟨⟨v8.1.pl,_,(v28.1.n)+2,v28.1.t⟩,rfl,rfl,rfl,rfl,rfl⟩)))))))))))))))))))))))))))))))
 exact ⟨P₀,by intro ⟨x1,x2,x3,x4⟩; cases x1 <;> cases x2 <;> kernel_rfl⟩
include MB hB in
theorem law_any {Sc se N t:Nat} {sc:List Value} {dd:Option Addr} {sl:Array (Option Value)} (hD:Lim D U 200) (hsc:∀ v∈sc,∃ (x0:Int) (tx:Tok),v = .int x0 tx) (hl:sc.length≤400) :
  CutOk (XX w r g d os) B D U (.call (.ref 354) ⟨[.ref Sc],[]⟩) (some ⟨none,some []⟩) [(324,plO [])] [(Sc,lstO dd sc se sl)] (N+355) (t) LwV (fun v=>.ok (.ret (.bool true))) (fun v=>[]) (fun v=>[plO v.pl]) (fun v=>v.n+355) (fun v=>v.t) (fun v=>v.z):=by
 rcases Nat.eq_zero_or_pos (sc.take 6).length with h | h
 ·exact law_e MB hB hD hsc hl (List.length_eq_zero_iff.mp h)
 ·exact law_n MB hB hD hsc hl h
theorem dropA_look:∀ {K:Frag} {a:Addr} {o:Obj},(dropA K).lookup a = some o→a≠324→K.lookup a = some o
 | [],_,_,h,_ => h
 | p :: r,a,o,h,ha => by
  unfold dropA at h
  split at h
  ·rename_i e
   have e':p.1 = 324:=Nat.eq_of_beq_eq_true e
   have:(a == p.1) = false:=by rw [e']; exact beq_eq_false_iff_ne.mpr ha
   rw [List.lookup_cons,this]
   exact h
  ·rw [List.lookup_cons] at h ⊢
   split
   ·rename_i e; rw [e] at h; exact h
   ·rename_i e; rw [e] at h; exact dropA_look h ha
theorem kf_324 (P:Params):lookK (KF P) 324 = none:=by kernel_rfl
theorem k_324 (P:Params):lookK (hd.heap_1 P) 324 = some (plO []):=by kernel_rfl
theorem k_354 (P:Params):((lookK (hd.heap_1 P) 354).map fun o=>o.cls) = some (.type "function"):=by kernel_rfl
theorem k_326 (P:Params):((lookK (hd.heap_1 P) 326).map fun o=>(o.cls,match o.data with | .fields vs => vs.toList[11]? | _ => none)) = some (.type "code",some (.ref 324)):=by kernel_rfl
theorem wr_rows (w:World):wr w (rowsOf w) = w:=by unfold wr; rw [pr_rows]
theorem ints_of:∀ {vs:List Value} {ns:List Int},IntsAre vs ns→vs.length = ns.length∧∀ v∈vs,∃ (x0:Int) (tx:Tok),v = .int x0 tx
 | _,_,.nil => ⟨rfl,fun _ h=>nomatch h⟩
 | _,_,.cons n t h => ⟨by rw [List.length_cons,List.length_cons,(ints_of h).1],fun v hv=>by
  rcases List.mem_cons.mp hv with rfl | hv
  ·exact ⟨n,t,rfl⟩
  ·exact (ints_of h).2 v hv⟩
theorem law_call {p:Program} {w:World} {s₁:Shared} {a:Addr} {vs:List Value} {ns:List Int} {R:Result→Shared→Prop}
  (ep:p = PySem.Challenge.pw_oc0327_01) (KX:(hd.heap_1 w.params).In s₁.heap) (hL:s₁.heap.IsList a vs.toArray) (hI:IntsAre vs ns) (hlen:ns.length≤63)
  (hR:∀ h' t',OldK s₁.heap h'→R (.ok (.ret (.bool true))) ⟨h',s₁.gens,s₁.drawn,t',s₁.os⟩) :
  codeAny (model p w) callerA (.call (.ref 354) ⟨[.ref a],[]⟩) R s₁:=by
 subst ep
 obtain ⟨dd,se,sl,ho⟩:=isList_open hL
 obtain ⟨h1,h2⟩:=ints_of hI
 have g324:s₁.heap.get? 324 = some (plO []):=KX _ _ (by rw [← lookK_eq]; exact k_324 _)
 obtain ⟨o354,k354,c354⟩:=Option.map_eq_some_iff.mp (k_354 w.params)
 have g354:s₁.heap.get? 354 = some o354:=KX _ _ (by rw [← lookK_eq]; exact k354)
 have hlt:354 < s₁.heap.objs.size:=by
  rcases Nat.lt_or_ge 354 s₁.heap.objs.size with h | h
  ·exact h
  ·unfold Heap.get? at g354
   rw [Array.getElem?_eq_none h] at g354
   cases g354
 have hne:a≠324:=by
  rintro rfl
  rw [ho] at g324
  cases g324
 let h₀:Heap:=hide s₁.heap [(324,plO [])]
 have hB0:∀ h,(KF (pr w (rowsOf w))).In h→(KF (pr w (rowsOf w))).In h:=fun _ x=>x
 have C:=law_any (w:=w) (r:=rowsOf w) (g:=s₁.gens) (d:=s₁.drawn) (os:=s₁.os) (D:=301) (U:=4) (Sc:=a) (se:=se) (N:=s₁.heap.objs.size - 355) (t:=s₁.toks) (sc:=vs) (dd:=dd) (sl:=sl) (B:=fun h=>(KF (pr w (rowsOf w))).In h)
  (fun h h' k x=>Frag.In.keeps x k) hB0 ⟨by decide,by decide⟩ h2 (by omega)
 have KX':(KF (pr w (rowsOf w))).In h₀:=fun b o e=>by
  rw [pr_rows] at e
  have hb:b≠324:=by
   rintro rfl
   rw [← lookK_eq,kf_324] at e
   cases e
  exact hide_of (KX _ _ (dropA_look e hb)) fun p hp=>by
   rcases List.mem_singleton.mp hp with rfl
   exact fun q=>hb q.symm
 have IX:ImIn [(a,lstO dd vs se sl)] h₀:=fun p hp=>by
  rcases List.mem_singleton.mp hp with rfl
  exact hide_of ho fun p hp=>by
   rcases List.mem_singleton.mp hp with rfl
   exact fun q=>hne q.symm
 have Rp:Rep h₀ s₁.heap ⟨[(324,plO [])],s₁.heap.objs.size - 355 + 355,s₁.toks,[]⟩:=by
  refine ⟨⟨fun b o e _=>(hide_some e).1,fun _ hp=>(nomatch hp),List.nodup_nil,fun p hp=>?_,List.pairwise_singleton ..⟩,by show _ = s₁.heap.objs.size - 355 + 355; omega,fun _ hp=>(nomatch hp)⟩
  have:=hide_none (h:=s₁.heap) hp
  rcases List.mem_singleton.mp hp with rfl
  exact ⟨g324,this⟩
 have key:=C.2.2 h₀ KX' IX callerA ⟨rfl,fun l hl=>by cases hl; rfl⟩ (by decide) (by decide) s₁.heap Rp R fun v h' D'=>by
  refine hR h' v.t ⟨fun b o e=>?_,fun b o e=>?_⟩
  ·by_cases hb:b = 324
   ·subst hb
    rw [g324] at e
    cases e
    obtain ⟨o3,k3,c3⟩:=Option.map_eq_some_iff.mp (k_326 w.params)
    have g3:s₁.heap.get? 326 = some o3:=KX _ _ (by rw [← lookK_eq]; exact k3)
    obtain ⟨c1,c2⟩:=Prod.mk.inj c3
    refine .inr (.inl ⟨?_,rfl,[].toArray,v.pl.toArray,rfl,?_⟩)
    ·split at c2
     ·rename_i vs' hd'
      exact ⟨326,o3,vs',g3,c1,hd',by simpa using c2⟩
     ·cases c2
    ·have:=(D'.mem.nw (324,plO v.pl) (by simp [setO])).1
     simpa using this
   ·exact .inl (D'.mem.keep b o (hide_of e fun p hp=>by
     rcases List.mem_singleton.mp hp with rfl
     exact fun q=>hb q.symm) (by simp [away]))
  ·by_cases hb:b = 324
   ·subst hb
    exact ⟨_,(D'.mem.nw (324,plO v.pl) (by simp [setO])).1⟩
   ·exact ⟨o,D'.mem.keep b o (hide_of e fun p hp=>by
     rcases List.mem_singleton.mp hp with rfl
     exact fun q=>hb q.symm) (by simp [away])⟩
 rw [show (XX w (rowsOf w) s₁.gens s₁.drawn s₁.os).w = w from wr_rows w] at key
 exact key
end Mine
theorem PySem.Challenge.cw_oc0327_01_holds : PySem.Challenge.rw_oc0327_01.Holds := by
  exact Mine.hd (by
  intro w s₀ s₁ mg mb G Y fa o pm cd doc dV kV ho hdd hcd hD hmg hg args vals as hpre hlay hrd hwl hlo
  have KX := kIn_of Y
  refine Ground.open G ?_
  intro T B D TE TW
  wrow_args hpre hlay hrd hwl hlo
  all_goals (x_fa T KX hmg)
  all_goals
    rename IntsAre _ _ => hI
    rename Heap.IsList _ _ _ => hL
    rename ¬ _ < _ => hlen
    refine wpAny_call (Mine.law_call ?ep KX hL hI (by omega) fun h' t' hk => ?_)
  case ep => kernel_rfl
  exact ⟨.inl ⟨_, _, [], rfl, fun _ => rfl, ReadsW.bool true, by first | rfl | wrow_post, fun _ => ⟨List.nodup_nil, fun _ hm => (nomatch hm)⟩⟩, hk, rfl, .of_eq hg⟩)
