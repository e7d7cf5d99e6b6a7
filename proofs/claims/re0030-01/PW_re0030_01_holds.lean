import PyProof.Rows.All
import Wide.All
import OpenK.AllK
import Wide.FinOn
import PySem.Challenge.RW_re0030_01
set_option Elab.async false
set_option maxRecDepth 100000
section
open PySem PySem.W PyProof.Rows
set_option maxHeartbeats 8000000
local macro_rules | `(tactic| k_head) => `(tactic| x_head)
namespace Mine
open_top hd for PySem.Challenge.rw_re0030_01
end Mine
end
namespace Mine
section
open PySem PySem.W PySem.W.X PyProof.Rows
/-- the heap h has come out of hb: only the places in ch and new places may differ; obs: what is known -/
structure Now (hb : Heap) (ch : List Addr) (h : Heap) (obs : List (Addr × Obj)) : Prop where
  at_ : ∀ p ∈ obs, h.get? p.1 = some p.2
  nd : (obs.map (·.1)).Nodup
  ok : ∀ p ∈ obs, p.1 ∈ ch ∨ hb.get? p.1 = none
  keep : ∀ b o, hb.get? b = some o → b ∉ ch → h.get? b = some o
  live : ∀ a ∈ ch, ∃ o, h.get? a = some o

section
variable {hb h h' : Heap} {ch : List Addr} {obs : List (Addr × Obj)}
theorem Now.refl : Now hb [] hb [] := ⟨fun _ h => (nomatch h), List.nodup_nil, fun _ h => (nomatch h), fun _ _ e _ => e, fun _ h => (nomatch h)⟩
theorem Now.start (hat : ∀ p ∈ obs, hb.get? p.1 = some p.2) (nd : (obs.map (·.1)).Nodup) : Now hb (obs.map (·.1)) hb obs :=
  ⟨hat, nd, fun p hp => .inl (List.mem_map_of_mem hp), fun _ _ e _ => e, fun a ha => by
    obtain ⟨p, hp, rfl⟩ := List.mem_map.mp ha
    exact ⟨_, hat p hp⟩⟩
theorem Now.fresh_of_le (N : Now hb ch h obs) {a : Addr} (ha : h.get? a = none) : hb.get? a = none := by
  cases e : hb.get? a with
  | none => rfl
  | some o =>
    by_cases hc : a ∈ ch
    · obtain ⟨o', e'⟩ := N.live a hc
      rw [ha] at e'; cases e'
    · have := N.keep a o e hc
      rw [ha] at this; cases this
theorem get?_size (h : Heap) : h.get? h.objs.size = none := Heap.get?_none_of_le (Nat.le_refl _)
theorem Now.fresh (N : Now hb ch h obs) : hb.get? h.objs.size = none := N.fresh_of_le (get?_size h)
theorem Now.size_ch (N : Now hb ch h obs) : h.objs.size ∉ ch := fun hm => by
  obtain ⟨o, e⟩ := N.live _ hm
  rw [get?_size] at e; cases e
theorem Now.not_mem (N : Now hb ch h obs) {a : Addr} (ha : h.get? a = none) : a ∉ obs.map (·.1) := fun hm => by
  obtain ⟨p, hp, rfl⟩ := List.mem_map.mp hm
  rw [N.at_ p hp] at ha; cases ha
theorem Now.get (N : Now hb ch h obs) (i : Nat) {a : Addr} {o : Obj} (hi : obs[i]? = some (a, o)) : h.get? a = some o := N.at_ _ (List.mem_of_getElem? hi)
theorem Now.ne (N : Now hb ch h obs) (i j : Nat) {a b : Addr} {oa ob : Obj} (hi : obs[i]? = some (a, oa)) (hj : obs[j]? = some (b, ob)) (hij : i ≠ j) : a ≠ b := by
  intro e
  have hi' : (obs.map (·.1))[i]? = some a := by rw [List.getElem?_map, hi]; rfl
  have hj' : (obs.map (·.1))[j]? = some b := by rw [List.getElem?_map, hj]; rfl
  obtain ⟨li, ei⟩ := List.getElem?_eq_some_iff.mp hi'
  obtain ⟨lj, ej⟩ := List.getElem?_eq_some_iff.mp hj'
  rcases Nat.lt_or_gt_of_ne hij with q | q
  · exact List.pairwise_iff_getElem.mp N.nd i j li lj q (by rw [ei, ej, e])
  · exact List.pairwise_iff_getElem.mp N.nd j i lj li q (by rw [ei, ej, e])
theorem Now.old (N : Now hb ch h obs) {b : Addr} {o : Obj} (e : hb.get? b = some o) (hn : b ∉ ch) : h.get? b = some o := N.keep b o e hn
theorem Now.sub {obs' : List (Addr × Obj)} (N : Now hb ch h obs) (hs : obs'.Sublist obs) : Now hb ch h obs' :=
  ⟨fun p hp => N.at_ p (hs.subset hp), N.nd.sublist (hs.map _), fun p hp => N.ok p (hs.subset hp), N.keep, N.live⟩
theorem Now.alloc (N : Now hb ch h obs) (o : Obj) (hf : o.isFreed = false) : Now hb ch (h.push o) ((h.objs.size, o) :: obs) where
  at_ := fun p hp => by
    rcases List.mem_cons.mp hp with rfl | hp
    · exact Heap.get?_push_size _ hf
    · exact Heap.get?_push_of_some _ (N.at_ p hp)
  nd := by rw [List.map_cons]; exact List.nodup_cons.mpr ⟨N.not_mem (get?_size h), N.nd⟩
  ok := fun p hp => by
    rcases List.mem_cons.mp hp with rfl | hp
    · exact .inr N.fresh
    · exact N.ok p hp
  keep := fun b ob e hn => Heap.get?_push_of_some _ (N.keep b ob e hn)
  live := fun a ha => let ⟨o', e⟩ := N.live a ha; ⟨o', Heap.get?_push_of_some _ e⟩
/-- one known place is changed -/
theorem Now.upd (N : Now hb ch h obs) (i : Nat) {a : Addr} {o o' : Obj} (hi : obs[i]? = some (a, o)) (hk : ∀ b ob, b ≠ a → h.get? b = some ob → h'.get? b = some ob) (ho : h'.get? a = some o') : Now hb ch h' (obs.set i (a, o')) where
  at_ := fun p hp => by
    obtain ⟨j, hj⟩ := List.mem_iff_getElem?.mp hp
    rw [List.getElem?_set] at hj
    split at hj
    · split at hj
      · cases hj; exact ho
      · cases hj
    · rename_i hne
      refine hk _ _ (fun e => ?_) (N.at_ p (List.mem_of_getElem? hj))
      exact N.ne i j hi (b := p.1) (ob := p.2) hj hne e.symm
  nd := by
    have : (obs.set i (a, o')).map (·.1) = obs.map (·.1) := by
      rw [List.map_set]
      refine List.ext_getElem? fun j => ?_
      rw [List.getElem?_set]
      split
      · rename_i e; subst e
        rw [List.getElem?_map, hi]
        have : i < (obs.map (·.1)).length := by rw [List.length_map]; exact (List.getElem?_eq_some_iff.mp hi).1
        rw [if_pos this]; rfl
      · rfl
    rw [this]; exact N.nd
  ok := fun p hp => by
    obtain ⟨j, hj⟩ := List.mem_iff_getElem?.mp hp
    rw [List.getElem?_set] at hj
    split at hj
    · split at hj
      · cases hj; exact N.ok (a, o) (List.mem_of_getElem? hi)
      · cases hj
    · exact N.ok p (List.mem_of_getElem? hj)
  keep := fun b ob e hn => by
    refine hk b ob (fun q => ?_) (N.keep b ob e hn)
    rcases N.ok (a, o) (List.mem_of_getElem? hi) with z | z
    · exact hn (q ▸ z)
    · rw [q] at e; rw [e] at z; cases z
  live := fun b hb' => by
    by_cases e : b = a
    · exact ⟨o', e ▸ ho⟩
    · let ⟨ob, q⟩ := N.live b hb'; exact ⟨ob, hk b ob e q⟩
theorem Now.same (N : Now hb ch h obs) (i : Nat) {a : Addr} {o o' : Obj} (hi : obs[i]? = some (a, o)) (hs : Heap.SameBut a h h') (ho : h'.get? a = some o') : Now hb ch h' (obs.set i (a, o')) :=
  N.upd i hi (fun b ob hne e => (hs.2 b hne).trans e) ho
/-- a call that changes nothing old -/
theorem Now.pure {news : List (Addr × Obj)} (N : Now hb ch h obs) (D : Now h [] h' news) : Now hb ch h' (news ++ obs) where
  at_ := fun p hp => by
    rcases List.mem_append.mp hp with hp | hp
    · exact D.at_ p hp
    · exact D.keep _ _ (N.at_ p hp) (fun h => nomatch h)
  nd := by
    rw [List.map_append]
    refine List.nodup_append.mpr ⟨D.nd, N.nd, fun a ha b hb' e => ?_⟩
    subst e
    obtain ⟨p, hp, rfl⟩ := List.mem_map.mp ha
    obtain ⟨q, hq, e⟩ := List.mem_map.mp hb'
    rcases D.ok p hp with z | z
    · cases z
    · have := N.at_ q hq; rw [e, z] at this; cases this
  ok := fun p hp => by
    rcases List.mem_append.mp hp with hp | hp
    · rcases D.ok p hp with z | z
      · cases z
      · exact .inr (N.fresh_of_le z)
    · exact N.ok p hp
  keep := fun b o e hn => D.keep b o (N.keep b o e hn) (fun h => nomatch h)
  live := fun a ha => let ⟨o, e⟩ := N.live a ha; ⟨o, D.keep a o e (fun h => nomatch h)⟩
/-- a call that changes one known place -/
theorem Now.one {news : List (Addr × Obj)} (N : Now hb ch h obs) (i : Nat) {a : Addr} {o o' : Obj} (hi : obs[i]? = some (a, o)) (D : Now h [a] h' ((a, o') :: news)) : Now hb ch h' (news ++ obs.set i (a, o')) := by
  have N1 : Now hb ch h' (obs.set i (a, o')) := N.upd i hi (fun b ob hne e => D.keep b ob e (by simpa using hne)) (D.at_ _ (.head _))
  refine ⟨fun p hp => ?_, ?_, fun p hp => ?_, N1.keep, N1.live⟩
  · rcases List.mem_append.mp hp with hp | hp
    · exact D.at_ p (.tail _ hp)
    · exact N1.at_ p hp
  · rw [List.map_append]
    have dn := D.nd
    rw [List.map_cons] at dn
    refine List.nodup_append.mpr ⟨(List.nodup_cons.mp dn).2, N1.nd, fun x hx y hy e => ?_⟩
    subst e
    obtain ⟨p, hp, rfl⟩ := List.mem_map.mp hx
    obtain ⟨q, hq, e⟩ := List.mem_map.mp hy
    rcases D.ok p (.tail _ hp) with z | z
    · have : p.1 = a := by simpa using z
      exact (List.nodup_cons.mp dn).1 (by show a ∈ _; rw [← this]; exact List.mem_map_of_mem hp)
    · obtain ⟨j, hj⟩ := List.mem_iff_getElem?.mp hq
      rw [List.getElem?_set] at hj
      split at hj
      · split at hj
        · cases hj
          have := N.get i hi
          have e' : a = p.1 := e
          rw [e', z] at this; cases this
        · cases hj
      · have := N.at_ q (List.mem_of_getElem? hj)
        rw [e, z] at this; cases this
  · rcases List.mem_append.mp hp with hp | hp
    · rcases D.ok p (.tail _ hp) with z | z
      · have e : p.1 = a := by simpa using z
        rw [e]; exact N.ok (a, o) (List.mem_of_getElem? hi)
      · exact .inr (N.fresh_of_le z)
    · exact N1.ok p hp
theorem Now.ofMem {news : List (Addr × Obj)} (D : Mem hb h [] news) : Now hb [] h news where
  at_ := fun p hp => (D.nw p hp).1
  nd := by
    refine List.Pairwise.imp (R := fun a b => a > b) (fun {a b} q => ?_) D.ord
    exact Nat.ne_of_gt q
  ok := fun p hp => .inr (D.nw p hp).2
  keep := fun b o e _ => D.keep b o e (by simp [away])
  live := fun _ h => nomatch h
end

/-- the top's objects, but for the two code tables that the law makes grow -/
noncomputable def KK (P : Params) : Frag := (hd.heap_39 P).filter fun p => p.1 != 141 && p.1 != 179
theorem kk_low (P : Params) : ∀ a o, (KK P).lookup a = some o → a < 183 := by
  have h : ((KK P).all fun p => Nat.blt p.1 183) = true := by kernel_rfl
  intro a o e
  have hm : (a, o) ∈ KK P := by
    clear h
    generalize KK P = l at e
    induction l with
    | nil => cases e
    | cons p l ih =>
      obtain ⟨b, q⟩ := p
      rw [List.lookup_cons] at e
      split at e
      · rename_i hq
        have : a = b := by simpa using hq
        cases e; subst this; exact .head _
      · exact .tail _ (ih e)
  have := List.all_eq_true.mp h _ hm
  exact Nat.le_of_ble_eq_true this
/-- a place that no object of the top has -/
noncomputable def Lo (a : Addr) : Prop := ∀ P, (KK P).lookup a = none
theorem lo_of {a : Addr} (h : 183 ≤ a) : Lo a := fun P => by
  cases e : (KK P).lookup a with
  | none => rfl
  | some o => exact absurd (kk_low P a o e) (Nat.not_lt.mpr h)
theorem kk_keep {w : World} {hb h : Heap} {ch : List Addr} {obs : List (Addr × Obj)} (X : (KK w.params).In hb) (N : Now hb ch h obs) (hc : ∀ a ∈ ch, Lo a) : (KK w.params).In h :=
  fun a o e => N.keep a o (X a o e) fun hm => by rw [hc a hm] at e; cases e
end
section
open PySem PySem.W PySem.W.X PyProof.Rows PySem.Calls PySem.Spec
open LCg (NsObj)
noncomputable abbrev PR : Program := PySem.Challenge.rw_re0030_01.row.prog
noncomputable abbrev MM (w : World) : Model := model PySem.Challenge.rw_re0030_01.row.prog w
section
variable {w : World} {A : Around} {s : Shared} {E : Value → Shared → Prop} {h : Heap}
theorem kk_ns (X : (KK w.params).In h) {a : Addr} {c : Value} {d : Option Addr} {es : Array DictEntry} {n : Nat} {sl : Array (Option Value)}
    (e : (KK w.params).lookup a = some ⟨c, d, .dict es n, sl⟩) (hk : (es.toList.all fun e => isExactStrKey e.key) = true) : ∃ m, h.Ns a m := by
  refine ⟨_, ⟨_, es, n, X _ _ e, rfl, fun en he => ?_, fun _ => rfl⟩⟩
  have := List.all_eq_true.mp hk en (by simpa using he)
  revert this
  cases en.key <;> intro q <;> first | exact ⟨_, _, rfl⟩ | cases q
theorem kk_glob (X : (KK w.params).In h) : ∃ m, h.Ns mainGlobals m := kk_ns X (a := mainGlobals) rfl (by kernel_rfl)
theorem kk_built (X : (KK w.params).In h) : ∃ m, h.Ns builtinsNs m := kk_ns X (a := builtinsNs) rfl (by kernel_rfl)
theorem kk_stat (X : (KK w.params).In h) : ∃ m, h.Ns cStatics m := kk_ns X (a := cStatics) rfl (by kernel_rfl)
theorem kk_in_of {h : Heap} {K : Frag} {a : Addr} {m : Str → Option Value} {n : Str} {v : Value} (X : K.In h) (G : h.Ns a m) (e : nsIn K a n = some (some v)) : m n = some v := by
  obtain ⟨o, es, ep, ho, hd, _, hf⟩ := G
  unfold nsIn at e
  split at e
  · rename_i c d es' n' sl q
    have := X _ _ q
    rw [ho] at this
    cases this
    cases hd
    split at e
    · rename_i en he
      cases e
      rw [← hf]
      unfold nsFind findBy
      rw [← Array.find?_toList, he]
      rfl
    · split at e <;> cases e
  · cases e
theorem kk_no_of {h : Heap} {K : Frag} {a : Addr} {m : Str → Option Value} {n : Str} (X : K.In h) (G : h.Ns a m) (e : nsIn K a n = some none) : m n = none := by
  obtain ⟨o, es, ep, ho, hd, _, hf⟩ := G
  unfold nsIn at e
  split at e
  · rename_i c d es' n' sl q
    have := X _ _ q
    rw [ho] at this
    cases this
    cases hd
    split at e
    · cases e
    · rename_i he
      rw [← hf]
      unfold nsFind findBy
      rw [← Array.find?_toList, he]
      rfl
  · cases e
theorem kk_limit (X : (KK w.params).In h) : h.NoLimit := by
  obtain ⟨m, G⟩ := kk_stat X
  exact ⟨m, G, kk_no_of X G (by kernel_rfl)⟩
end
noncomputable def defBody (n : String) (b : List Stmt) : List Stmt := match b with
  | [] => []
  | .FunctionDef m _ body .. :: r => if m == Str.ofString n then body else defBody n r
  | _ :: r => defBody n r
noncomputable def clsBody (n : String) (b : List Stmt) : List Stmt := match b with
  | [] => []
  | .ClassDef m _ _ body .. :: r => if m == Str.ofString n then body else clsBody n r
  | _ :: r => clsBody n r
noncomputable def fnAt (K : Frag) (a : Addr) : FuncData := match K.lookup a with
  | some ⟨_, _, .func f, _⟩ => f
  | _ => default
noncomputable def obAt (K : Frag) (a : Addr) : Obj := (K.lookup a).getD default
section
variable {w : World} {A : Around} {s : Shared} {E : Value → Shared → Prop} {env : Env} {hb : Heap} {ch : List Addr} {obs : List (Addr × Obj)}
  {x : Str} {pos : Pos} {v : Value} {m : Str → Option Value} {oL : Obj} {Q : Value → Shared → Prop} {M : Model}
theorem ev_local (hL : s.heap.get? env.locals = some oL) (hm : NsObj oL m) (hv : m x = some v) (h : Q v s) (hk : env.scope.kind = .function) (hx : env.kindOf x = some .local)
    (hd : (x == ("__debug__" : Str)) = false := by decide) : wpAny M A (eval (.Name x pos) env) Q E s :=
  wpAny_Name (wpAny_loadName_local hk hx (hm.ns hL) hv h) hd
theorem ev_global (X : (KK w.params).In s.heap) (e : nsIn (KK w.params) mainGlobals x = some (some v)) (h : Q v s) (hk : env.scope.kind = .function) (hx : env.kindOf x = some .globalImplicit) (hg : env.globals = mainGlobals)
    (hd : (x == ("__debug__" : Str)) = false := by decide) : wpAny M A (eval (.Name x pos) env) Q E s := by
  obtain ⟨mg, G⟩ := kk_glob X
  exact Name_function_global hk hx (loadGlobal_global (hg ▸ G) (kk_in_of X G e) h) hd
theorem ev_builtin (X : (KK w.params).In s.heap) (e : nsIn (KK w.params) mainGlobals x = some none) (e' : nsIn (KK w.params) builtinsNs x = some (some v)) (h : Q v s) (hk : env.scope.kind = .function) (hx : env.kindOf x = some .globalImplicit) (hg : env.globals = mainGlobals) (hbn : env.builtins = builtinsNs)
    (hd : (x == ("__debug__" : Str)) = false := by decide) : wpAny M A (eval (.Name x pos) env) Q E s := by
  obtain ⟨mg, G⟩ := kk_glob X
  obtain ⟨mb, B⟩ := kk_built X
  exact Name_function_global hk hx (loadGlobal_builtin (hg ▸ G) (kk_no_of X G e) (hbn ▸ B) (kk_in_of X B e') h) hd
theorem st_local {Q : Unit → Shared → Prop} (N : Now hb ch s.heap obs) (i : Nat) (hi : obs[i]? = some (env.locals, oL)) (hm : NsObj oL m)
    (h : ∀ h' oL', Now hb ch h' (obs.set i (env.locals, oL')) → NsObj oL' (fun y => if y = x then some v else m y) → Q () { s with heap := h', toks := s.toks + 1 })
    (hx : env.kindOf x = some .local) (hp : (env.scope.kind == .class || (env.scope.kind == .module && env.locals != env.globals)) = false) : wpAny M A (storeName env x v) Q E s :=
  wpAny_storeName_local hx (hm.ns (N.get i hi)) (fun h' hn hs => by
    obtain ⟨o', e', n'⟩ := LCg.ns_obj hn
    exact h h' o' (N.same i hi hs e') n') hp
theorem enter {R : Result → Shared → Prop} {f : Addr} {o : Obj} {fd : FuncData} {body : List Stmt} {args : Args} {binds : List (Str × Value)} (X : (KK w.params).In s.heap) (hroom : A.depth < recursionLimit)
    (ho : (KK w.params).lookup f = some o) (hdata : o.data = .func fd) (hcd : codeIn (KK w.params) fd.code fd.qualname = true) (hbody : fd.body = .stmts body) (hbind : bindArgs fd args = pure binds)
    (hcell : (fd.scope.names.all fun x => !decide (x.2 = .cell)) = true) (hloc : (binds.all fun x => decide (fd.scope.names.lookup x.1 = some .local)) = true)
    (h : ∀ h₁ oL, Now s.heap [] h₁ [(s.heap.objs.size, oL)] → NsObj oL (fun x => binds.reverse.lookup x) →
      wpAny (MM w) (A.deeper (callEnv fd s.heap.objs.size f)) (execs body (callEnv fd s.heap.objs.size f)) (fun fl s' => R (.ok (.ret (match fl with | .ret v => v | _ => .none))) s')
        (fun e s' => wpAny (MM w) (A.deeper (callEnv fd s.heap.objs.size f)) (leaving (callEnv fd s.heap.objs.size f) e) (fun _ s'' => R (.error e) s'') (fun e' s'' => R (.error e') s'') s')
        { s with heap := h₁, toks := s.toks + binds.length })
    (hco : fd.scope.isCoroutine = false := by rfl) (hgen : fd.scope.isGenerator = false := by rfl) (hk : fd.scope.kind = .function := by rfl) :
    codeAny (MM w) A (.call (.ref f) args) R s := by
  refine codeAny_call_def hroom (X _ _ ho) hdata (kk_limit X) (codeRec_of X hcd) hbody (@BindsTo.of_eq s fd args binds hbind) (fun x hx => by simpa using List.all_eq_true.mp hcell x hx) (locs hloc) (fun h₁ hns hk₁ => ?_) hco hgen hk
  obtain ⟨oL, eL, nL⟩ := LCg.ns_obj hns
  refine h h₁ oL ⟨fun p hp => ?_, ?_, fun p hp => ?_, fun b ob e _ => hk₁ b ob e, fun _ h => (nomatch h)⟩ nL
  · rcases List.mem_singleton.mp hp with rfl; exact eL
  · simp
  · rcases List.mem_singleton.mp hp with rfl; exact .inr (get?_size _)
theorem forName {R : Result → Shared → Prop} {px : Pos} {body : List Stmt} {I : Addr} {fp wr : List Addr} {n : Nat} {P : Nat → Value → Prop} {St : Nat → Heap → Prop}
    (W : Walks PR w A I fp wr n P St) (J : Nat → Shared → Prop) (h0 : St 0 s.heap) (hJ : J 0 s)
    (turn : ∀ i (s : Shared) v h' tk, i < n → J i s → St i s.heap → P i v → St (i + 1) h' → (∀ b o, b ∉ wr → s.heap.get? b = some o → h'.get? b = some o) →
      wpAny (MM w) A (storeName env x v) (fun _ s₂ => wpAny (MM w) A (execs body env) (fun f s₃ => match f with
        | .next | .cont => St (i + 1) s₃.heap ∧ J (i + 1) s₃
        | .brk => R (.ok .next) s₃
        | .ret v => R (.ok (.ret v)) s₃) (notedBy (MM w) A env fun e s' => R (.error e) s') s₂) (notedBy (MM w) A env fun e s' => R (.error e) s') { s with heap := h', toks := tk })
    (done : ∀ (s : Shared) h' tk, J n s → St n s.heap → (∀ b o, b ∉ wr → s.heap.get? b = some o → h'.get? b = some o) → R (.ok .next) { s with heap := h', toks := tk }) :
    codeAny (MM w) A (.forLoop (.Name x px) (.ref I) body [] env) R s := by
  refine codeAny_forLoop_any (fun k s' => ∃ i, i ≤ n ∧ k = n + 1 - i ∧ St i s'.heap ∧ J i s') ?_ (n + 1) ⟨0, Nat.zero_le _, rfl, h0, hJ⟩
  rintro k s' ⟨i, hi, rfl, st, j⟩
  by_cases hlt : i < n
  · refine W.item i s' _ _ hlt st fun v h' tk hP st' hk => ?_
    refine wpAny_pure ?_
    refine wpAny_assign_Name (wpAny_mono (turn i s' v h' tk hlt j st hP st' hk) (fun _ s₂ h₂ => wpAny_mono h₂ (fun f s₃ h₃ => ?_) fun _ _ e => e) fun _ _ e => e)
    cases f with
    | next => exact ⟨n + 1 - (i + 1), by omega, i + 1, hlt, rfl, h₃.1, h₃.2⟩
    | cont => exact ⟨n + 1 - (i + 1), by omega, i + 1, hlt, rfl, h₃.1, h₃.2⟩
    | brk => exact h₃
    | ret v => exact h₃
  · have : i = n := Nat.le_antisymm hi (Nat.not_lt.mp hlt)
    subst this
    refine W.done s' _ _ st fun h' tk hk => wpAny_execs_nil (done s' h' tk j st hk)
end
section
variable {w : World} {A : Around} {s : Shared} {E : Value → Shared → Prop} {Q : Value → Shared → Prop}
/-- a call of a def of the top, its body walked in a frame of its own -/
theorem callF {f : Addr} {o : Obj} {fd : FuncData} {body : List Stmt} {args : List Value} {binds : List (Str × Value)} (X : (KK w.params).In s.heap) (hroom : A.depth < recursionLimit)
    (ho : (KK w.params).lookup f = some o) (hdata : o.data = .func fd) (hcd : codeIn (KK w.params) fd.code fd.qualname = true) (hbody : fd.body = .stmts body) (hbind : bindArgs fd ⟨args, []⟩ = pure binds)
    (hcell : (fd.scope.names.all fun x => !decide (x.2 = .cell)) = true) (hloc : (binds.all fun x => decide (fd.scope.names.lookup x.1 = some .local)) = true)
    (hco : fd.scope.isCoroutine = false) (hgen : fd.scope.isGenerator = false) (hk : fd.scope.kind = .function)
    (h : ∀ h₁ oL (E' : Value → Shared → Prop), Now s.heap [] h₁ [(s.heap.objs.size, oL)] → NsObj oL (fun x => binds.reverse.lookup x) →
      wpAny (MM w) (A.deeper (callEnv fd s.heap.objs.size f)) (execs body (callEnv fd s.heap.objs.size f)) (fun fl s' => Q (match fl with | .ret v => v | _ => .none) s') E'
        { s with heap := h₁, toks := s.toks + binds.length }) :
    wpAny (MM w) A (call (.ref f) args) Q E s :=
  wpAny_call (enter X hroom ho hdata hcd hbody hbind hcell hloc (fun h₁ oL N nL => h h₁ oL _ N nL) hco hgen hk)
end
end
section
open PySem PySem.W PySem.W.X PyProof.Rows PySem.Calls PySem.Spec
open LCg (NsObj)
set_option maxHeartbeats 400000
noncomputable abbrev St (s : Shared) (h : Heap) (tk : Nat) : Shared := { s with heap := h, toks := tk }
noncomputable def up (m : Str → Option Value) (x : Str) (v : Value) : Str → Option Value := fun y => if y = x then some v else m y
noncomputable abbrev SK (w : World) : KeyKind PR w Str := strKind PR w
section
variable {w : World} {A : Around} {s : Shared} {h : Heap} {tk : Nat} {E : Value → Shared → Prop} {env : Env} {hb : Heap} {ch : List Addr} {obs : List (Addr × Obj)}
  {x : Str} {pos pos' : Pos} {v : Value} {m : Str → Option Value} {oL : Obj} {Q : Value → Shared → Prop} {k : Nat}
theorem r_int {i : Int} (hq : ∀ t tk', Q (.int i t) (St s h tk')) : wpAny (MM w) A (eval (.Constant (.int i) k pos) env) Q E (St s h tk) := wpAny_Constant_int (hq _ _)
theorem r_str {y : Str} (hq : ∀ t tk', Q (.str y t) (St s h tk')) : wpAny (MM w) A (eval (.Constant (.str y) k pos) env) Q E (St s h tk) := Calls.Constant_str (hq _ _)
theorem r_store {Q : Unit → Shared → Prop} (N : Now hb ch h obs) (i : Nat) (hi : obs[i]? = some (env.locals, oL)) (hm : NsObj oL m)
    (hx : env.kindOf x = some .local) (hp : (env.scope.kind == .class || (env.scope.kind == .module && env.locals != env.globals)) = false)
    (hq : ∀ h' oL' tk', Now hb ch h' (obs.set i (env.locals, oL')) → NsObj oL' (up m x v) → Q () (St s h' tk')) : wpAny (MM w) A (storeName env x v) Q E (St s h tk) :=
  st_local (s := St s h tk) N i hi hm (fun h' oL' N' n' => hq h' oL' _ N' n') hx hp
theorem r_name (hL : h.get? env.locals = some oL) (hm : NsObj oL m) (hv : m x = some v) (hk : env.scope.kind = .function) (hx : env.kindOf x = some .local) (hq : Q v (St s h tk))
    (hd : (x == ("__debug__" : Str)) = false := by decide) : wpAny (MM w) A (eval (.Name x pos) env) Q E (St s h tk) := ev_local (s := St s h tk) hL hm hv hq hk hx hd
theorem r_load (hL : h.get? env.locals = some oL) (hm : NsObj oL m) (hv : m x = some v) (hk : env.scope.kind = .function) (hx : env.kindOf x = some .local) (hq : Q v (St s h tk)) : wpAny (MM w) A (loadName env x) Q E (St s h tk) :=
  wpAny_loadName_local hk hx (hm.ns hL) hv hq
theorem r_iadd {a b : Int} {t u : Tok} (hq : ∀ t tk', Q (.int (a + b) t) (St s h tk')) : wpAny (MM w) A (inplaceOp .Add (.int a t) (.int b u)) Q E (St s h tk) := iadd_int (hq _ _)
theorem r_add {a b : Int} {t u : Tok} (hq : ∀ t tk', Q (.int (a + b) t) (St s h tk')) : wpAny (MM w) A (binaryOp .Add (.int a t) (.int b u)) Q E (St s h tk) := PyProof.Rows.add_int (hq _ _)
end
section
variable {prog : Program} {w : World} {K : Type} [DecidableEq K] {knd : KeyKind prog w K} {A : Around} {E : Value → Shared → Prop} {s : Shared} {env : Env}
theorem Call_values {o : Expr} {apos pos : Pos} {d : Addr} {kvs : List (K × Value)} {Q : Value → Shared → Prop} (hdS : (d == sysModules) = false) (hm : s.heap.DictOf knd d kvs)
    (hbase : attributeBase o "values" env (eval o env) = eval o env) (hline : (apos.endLine == pos.line) = true)
    (ho : ∀ Q', Q' (.ref d) s → wpAny (model prog w) A (eval o env) Q' E s)
    (hQ : Q (.ref s.heap.objs.size) { s with heap := s.heap.push { cls := .type "dict_values", data := .fields #[.ref d] } }) :
    wpAny (model prog w) A (eval (.Call (.Attribute o "values" apos) [] [] pos) env) Q E s := by
  refine wpAny_Call_method (T := "dict") (id := "dict.values") hbase rfl hline F.plainAttrs_dict F.slot_dict_values F.type_dict_values (ho _ ⟨hm.typeIs, hm.mapOf.noDict, ?_⟩)
  show wpAny _ _ (callWith pos (.builtin "dict.values") [.ref d] [] []) Q E s
  exact method_meetsIn F.slot_dict_values F.entry_dict_values rfl (PySem.evalArgs_none ⟨rfl, hm.typeIs, F.args_dict_values_1 _, _, meets_dict_values knd d hdS, ⟨kvs, hm⟩, hQ⟩)
end
section
variable {w : World} {A : Around} {s : Shared} {h : Heap} {tk : Nat} {E : Value → Shared → Prop} {env : Env} {hb : Heap} {ch : List Addr} {obs : List (Addr × Obj)}
  {x : Str} {px pos apos cpos : Pos} {body : List Stmt} {o : Expr} {d : Addr} {kvs : List (Str × Value)} {ep : Nat}
/-- a for over an iterator I; J i: what holds ahead of turn i -/
theorem forNow {R : Result → Shared → Prop} {I : Addr} {oI : Obj} {fp : List Addr} {n : Nat} {P : Nat → Value → Prop} {Sh : Nat → Heap → Prop} (W : Walks PR w A I fp [I] n P Sh) (hI : ∀ i h, Sh i h → ∃ o, h.get? I = some o) (hIc : I ∉ ch)
    (N : Now hb ch h ((I, oI) :: obs)) (h0 : Sh 0 h) (J : Nat → List (Addr × Obj) → Prop) (hJ : J 0 obs)
    (turn : ∀ i v h' tk' oI obs', i < n → P i v → J i obs' → Now hb ch h' ((I, oI) :: obs') → Sh (i + 1) h' →
      wpAny (MM w) A (storeName env x v) (fun _ s₂ => wpAny (MM w) A (execs body env) (fun f s₃ => match f with
        | .next | .cont => ∃ h'' tk'' obs'', s₃ = St s h'' tk'' ∧ J (i + 1) obs'' ∧ Now hb ch h'' ((I, oI) :: obs'') ∧ Sh (i + 1) h''
        | .brk => R (.ok .next) s₃
        | .ret v => R (.ok (.ret v)) s₃) (notedBy (MM w) A env fun e s' => R (.error e) s') s₂) (notedBy (MM w) A env fun e s' => R (.error e) s') (St s h' tk'))
    (done : ∀ h' tk' obs', J n obs' → Now hb ch h' obs' → R (.ok .next) (St s h' tk')) :
    codeAny (MM w) A (.forLoop (.Name x px) (.ref I) body [] env) R (St s h tk) := by
  refine forName (s := St s h tk) W (fun i s' => ∃ h' tk' oI obs', s' = St s h' tk' ∧ J i obs' ∧ Now hb ch h' ((I, oI) :: obs')) h0 ⟨h, tk, oI, obs, rfl, hJ, N⟩ ?_ ?_
  · intro i _ v h' tk' hi hz1 _ hP st' hk
    refine Classical.byContradiction fun hng => ?_
    obtain ⟨h₁, tk₁, oI₁, obs₁, rfl, j, N₁⟩ := hz1
    refine hng ?_
    obtain ⟨o', e'⟩ := hI _ _ st'
    have N' := N₁.upd (h' := h') 0 rfl (fun b ob hne e => hk b ob (by simpa using hne) e) e'
    refine wpAny_mono (turn i v h' tk' o' obs₁ hi hP j N' st') (fun _ s₂ h₂ => wpAny_mono h₂ (fun f s₃ h₃ => ?_) fun _ _ e => e) fun _ _ e => e
    cases f with
    | next => obtain ⟨h'', tk'', obs'', rfl, j', N'', st''⟩ := h₃; exact ⟨st'', h'', tk'', _, obs'', rfl, j', N''⟩
    | cont => obtain ⟨h'', tk'', obs'', rfl, j', N'', st''⟩ := h₃; exact ⟨st'', h'', tk'', _, obs'', rfl, j', N''⟩
    | brk => exact h₃
    | ret v => exact h₃
  · intro _ h' tk' hz2 _ hk
    refine Classical.byContradiction fun hng => ?_
    obtain ⟨h₁, tk₁, oI₁, obs₁, rfl, j, N₁⟩ := hz2
    refine hng ?_
    refine done h' tk' obs₁ j ?_
    have t := N₁.sub (List.sublist_cons_self _ _)
    refine ⟨fun p hp => hk _ _ ?_ (t.at_ p hp), t.nd, t.ok, fun b ob e hn => hk b ob ?_ (t.keep b ob e hn), fun a ha => ?_⟩
    · have := (List.nodup_cons.mp N₁.nd).1
      intro q
      rw [List.mem_singleton] at q
      have e : p.1 ∈ obs₁.map (·.1) := List.mem_map_of_mem hp
      rw [q] at e
      exact this e
    · intro q
      rw [List.mem_singleton] at q
      subst q
      rcases N₁.ok _ (.head _) with z | z
      · exact hn z
      · exact absurd (z.symm.trans e) (by simp)
    · obtain ⟨ob, e⟩ := t.live a ha
      exact ⟨ob, hk a ob (fun q => hIc (by rw [List.mem_singleton] at q; exact q ▸ ha)) e⟩
end
theorem carry {h h' : Heap} {a : Addr} {o : Obj} (e : h.get? a = some o) (e' : h'.get? a = some o) : ∀ q, h.get? a = some q → h'.get? a = some q := fun q z => by rw [e] at z; cases z; exact e'
theorem up_self (m : Str → Option Value) (x : Str) (v : Value) : up m x v x = some v := if_pos rfl
theorem up_ne {m : Str → Option Value} {x y : Str} {v : Value} (hne : (y == x) = false) : up m x v y = m y := if_neg (by simpa using hne)
section
variable {w : World} {A : Around} {s : Shared} {h : Heap} {tk : Nat} {E : Value → Shared → Prop} {env : Env} {hb : Heap} {ch : List Addr} {obs : List (Addr × Obj)}
  {xk xv : Str} {pk pv pt : Pos} {x1 : Nat} {body : List Stmt} {d : Addr} {kvs : List (Str × Value)} {ep : Nat}
/-- what the loop's own steps leave: all known places but the iterator's -/
theorem Now.but {h h' : Heap} {I : Addr} {oI oI' : Obj} (N : Now hb ch h ((I, oI) :: obs)) (hk : ∀ b o, b ≠ I → h.get? b = some o → h'.get? b = some o) (e : h'.get? I = some oI') : Now hb ch h' ((I, oI') :: obs) :=
  N.upd 0 rfl hk e
theorem Now.off {h h' : Heap} {I : Addr} {oI : Obj} (hIc : I ∉ ch) (N : Now hb ch h ((I, oI) :: obs)) (hk : ∀ b o, b ≠ I → h.get? b = some o → h'.get? b = some o) : Now hb ch h' obs := by
  have t := N.sub (List.sublist_cons_self _ _)
  refine ⟨fun p hp => hk _ _ ?_ (t.at_ p hp), t.nd, t.ok, fun b ob e hn => hk b ob ?_ (t.keep b ob e hn), fun a ha => ?_⟩
  · have := (List.nodup_cons.mp N.nd).1
    intro q
    have e : p.1 ∈ obs.map (·.1) := List.mem_map_of_mem hp
    rw [q] at e
    exact this e
  · intro q
    subst q
    rcases N.ok _ (.head _) with z | z
    · exact hn z
    · exact absurd (z.symm.trans e) (by simp)
  · obtain ⟨ob, e⟩ := t.live a ha
    exact ⟨ob, hk a ob (fun q => hIc (q ▸ ha)) e⟩
/-- for k, v in d.items() -/
theorem forItems {R : Result → Shared → Prop} {I : Addr} {oI : Obj} (hh : A.handled = none) (hIc : I ∉ ch) (hdI : d ≠ I) (N : Now hb ch h ((I, oI) :: obs))
    (hit : IsItemIter h I d 0 kvs.length ep .none .none) (hm : h.DictAt (SK w) d kvs ep) (J : Nat → List (Addr × Obj) → Prop) (hJ : J 0 obs)
    (turn : ∀ i k v key h' tk' oI obs', kvs[i]? = some (k, v) → (SK w).is k key = true → J i obs' → Now hb ch h' ((I, oI) :: obs') → h'.DictAt (SK w) d kvs ep →
      wpAny (MM w) A (storeName env xk key) (fun _ s₁ => wpAny (MM w) A (storeName env xv v) (fun _ s₂ => wpAny (MM w) A (execs body env) (fun f s₃ => match f with
        | .next | .cont => ∃ h'' tk'' obs'', s₃ = St s h'' tk'' ∧ J (i + 1) obs'' ∧ Now hb ch h'' ((I, oI) :: obs'') ∧ h''.DictAt (SK w) d kvs ep
        | .brk => R (.ok .next) s₃
        | .ret v => R (.ok (.ret v)) s₃) (notedBy (MM w) A env fun e s' => R (.error e) s') s₂) (notedBy (MM w) A env fun e s' => R (.error e) s') s₁) (notedBy (MM w) A env fun e s' => R (.error e) s') (St s h' tk'))
    (done : ∀ h' tk' obs', J kvs.length obs' → Now hb ch h' obs' → R (.ok .next) (St s h' tk')) :
    codeAny (MM w) A (.forLoop (.Tuple [.Name xk pk, .Name xv pv] x1 pt) (.ref I) body [] env) R (St s h tk) := by
  refine codeAny_forLoop_any
    (fun n s' => ∃ h' tk' i ok ov oI obs', s' = St s h' tk' ∧ IsItemIter h' I d i kvs.length ep ok ov ∧ h'.DictAt (SK w) d kvs ep ∧ J i obs' ∧ Now hb ch h' ((I, oI) :: obs') ∧ i ≤ kvs.length ∧ n = kvs.length + 1 - i) ?_ (kvs.length + 1)
    ⟨h, tk, 0, .none, .none, oI, obs, rfl, hit, hm, hJ, N, Nat.zero_le _, rfl⟩
  intro n _ hz3
  refine Classical.byContradiction fun hng => ?_
  obtain ⟨H, tk', i, ok, ov, oI', obs', rfl, hit', hm', j, N', hi, rfl⟩ := hz3
  refine hng ?_
  cases hv : kvs[i]? with
  | none =>
    have hsz : i = kvs.length := Nat.le_antisymm hi (by simpa using hv)
    refine wpAny_pyNext_items_end (knd := SK w) hh hit' hm' hv fun h₁ he₁ => wpAny_execs_nil ?_
    exact done h₁ tk' obs' (hsz ▸ j) (N'.off hIc fun b o hne e => he₁ b o hne e)
  | some kv =>
    obtain ⟨k, v⟩ := kv
    have hlt : i < kvs.length := (List.getElem?_eq_some_iff.mp hv).1
    refine wpAny_pyNext_items_item (knd := SK w) hit' hm' hv fun key h₁ hkey heo ht₁ hz₁ hk₁ => ?_
    refine wpAny_letOwnedTupleGo_items heo fun h₂ he₂ hs₂ => ?_
    have hIH : I < H.objs.size := Heap.lt_size hit'
    replace hs₂ : Heap.SameBut I h₁ h₂ := hs₂
    have ht₂ : h₂.IsTuple H.objs.size #[key, v] := ⟨_, (hs₂.2 _ (Nat.ne_of_gt hIH)).trans ht₁, rfl, _, rfl⟩
    have hz₂ : h₂.objs.size = H.objs.size + 1 := hs₂.1.trans hz₁
    refine wpAny_assign_Tuple hh ht₂ rfl rfl fun h₃ hx₃ => ?_
    replace hx₃ : Heap.ExtBut h₂.objs.size h₂ h₃ := hx₃
    have old₃ : ∀ b o, b < H.objs.size → h₂.get? b = some o → h₃.get? b = some o := fun b o hb x => hx₃ b o (by rw [hz₂]; exact Nat.ne_of_lt (Nat.lt_succ_of_lt hb)) x
    have up₃ : ∀ b o, b ≠ I → H.get? b = some o → h₃.get? b = some o := fun b o hne e => old₃ b o (Heap.lt_size e) ((hs₂.2 b hne).trans (hk₁ b o hne e))
    have hit₃ : IsItemIter h₃ I d (i + 1) kvs.length ep key v := old₃ I _ hIH he₂
    have N₃ := N'.but up₃ hit₃
    have hm₃ : h₃.DictAt (SK w) d kvs ep := hm'.at fun o e => up₃ d o hdI e
    show wpAny _ _ (do holding [v] (assign (.Name xk pk) env key); do holding [] (assign (.Name xv pv) env v); pure ()) _ _ _
    refine wpAny_bind (wpAny_holding (wpAny_assign_Name ?_))
    refine wpAny_mono (turn i k v key h₃ tk' _ obs' hv hkey j N₃ hm₃) (fun _ s₁ h₄ => ?_) fun _ _ e => e
    refine wpAny_bind (wpAny_holding (wpAny_assign_Name (wpAny_mono h₄ (fun _ s₂ h₅ => wpAny_pure (wpAny_mono h₅ (fun f s₃ h₆ => ?_) fun _ _ e => e)) fun _ _ e => e)))
    cases f with
    | next => obtain ⟨h'', tk'', obs'', rfl, j', N'', hm''⟩ := h₆; exact ⟨kvs.length + 1 - (i + 1), by lia, h'', tk'', i + 1, key, v, _, obs'', rfl, N''.get 0 rfl, hm'', j', N'', hlt, rfl⟩
    | cont => obtain ⟨h'', tk'', obs'', rfl, j', N'', hm''⟩ := h₆; exact ⟨kvs.length + 1 - (i + 1), by lia, h'', tk'', i + 1, key, v, _, obs'', rfl, N''.get 0 rfl, hm'', j', N'', hlt, rfl⟩
    | brk => exact h₆
    | ret v => exact h₆
end
end
section
open PySem PySem.W PySem.W.X PyProof.Rows PySem.Calls PySem.Spec
open LCg (NsObj)
set_option maxHeartbeats 400000
noncomputable abbrev S (x : String) : Str := Str.ofString x
section
variable {w : World} {A : Around} {s : Shared} {h : Heap} {tk : Nat} {E : Value → Shared → Prop} {env : Env} {hb : Heap} {ch : List Addr} {obs : List (Addr × Obj)}
  {x : Str} {pos pos' : Pos} {v key : Value} {Q : Value → Shared → Prop} {k : Str} {d : Addr} {od : Obj} {kvs : List (Str × Value)}
theorem is_key (k : Str) (t : Tok) : (SK w).is k (.str k t) = true := strKind_is PR w k t
theorem key_of {k : Str} {key : Value} (e : (SK w).is k key = true) : ∃ t, key = .str k t := Value.isStrOf_shape e
theorem dictOf_at (e : h.get? d = some od) (hod : od.IsDictOf (SK w) kvs) : h.DictOf (SK w) d kvs := Heap.dictOf_iff.mpr ⟨od, e, hod⟩
theorem r_setItem {Q : Unit → Shared → Prop} (N : Now hb ch h obs) (i : Nat) (hi : obs[i]? = some (d, od)) (hod : od.IsDictOf (SK w) kvs) (hkey : (SK w).is k key = true) (hsz : kvs.length ≤ sizeLine)
    (hq : ∀ h' od' tk', Now hb ch h' (obs.set i (d, od')) → od'.IsDictOf (SK w) (stored kvs k v) → Q () (St s h' tk')) : wpAny (MM w) A (setItem (.ref d) key v) Q E (St s h tk) :=
  wpAny_setItem_pairs (knd := SK w) (s := St s h tk) hkey (dictOf_at (N.get i hi) hod) (fun h' hm hs => by
    obtain ⟨o', e', i'⟩ := Heap.dictOf_iff.mp hm
    exact hq h' o' _ (N.same i hi hs e') i') hsz
theorem r_getItem (hm : h.DictOf (SK w) d kvs) (hkey : (SK w).is k key = true) (hv : valueAt kvs k = some v) (hq : ∀ tk', Q v (St s h tk')) : wpAny (MM w) A (getItem (.ref d) key) Q E (St s h tk) :=
  wpAny_getItem_of (knd := SK w) (s := St s h tk) hkey hm.mapOf hv (hq _)
theorem r_in (hm : h.DictOf (SK w) d kvs) (hd : (d == sysModules) = false) (hkey : (SK w).is k key = true) (hq : ∀ tk', Q (.bool (valueAt kvs k).isSome) (St s h tk')) : wpAny (MM w) A (compareOp .In key (.ref d)) Q E (St s h tk) :=
  wpAny_in_of (knd := SK w) (s := St s h tk) hkey hd hm.mapOf (hq _)
theorem ne_sys {a : Addr} (ha : 183 ≤ a) : (a == sysModules) = false := by
  have h1 : sysModules = 1 := rfl
  have : a ≠ sysModules := by rw [h1]; exact Nat.ne_of_gt (Nat.lt_of_lt_of_le (by decide : 1 < 183) ha)
  simpa using this
end
section
variable {w : World} {A : Around} {s : Shared} {h : Heap} {tk : Nat} {E : Value → Shared → Prop} {env : Env} {x : Str} {p pos pos' : Pos} {Q : Value → Shared → Prop}
theorem r_global {v : Value} (X : (KK w.params).In h) (e : nsIn (KK w.params) mainGlobals x = some (some v)) (hk : env.scope.kind = .function) (hx : env.kindOf x = some .globalImplicit) (hg : env.globals = mainGlobals) (hq : Q v (St s h tk))
    (hd : (x == ("__debug__" : Str)) = false := by decide) : wpAny (MM w) A (eval (.Name x pos) env) Q E (St s h tk) := ev_global (s := St s h tk) X e hq hk hx hg hd
theorem r_builtin {v : Value} (X : (KK w.params).In h) (e : nsIn (KK w.params) mainGlobals x = some none) (e' : nsIn (KK w.params) builtinsNs x = some (some v)) (hk : env.scope.kind = .function) (hx : env.kindOf x = some .globalImplicit) (hg : env.globals = mainGlobals) (hbn : env.builtins = builtinsNs) (hq : Q v (St s h tk))
    (hd : (x == ("__debug__" : Str)) = false := by decide) : wpAny (MM w) A (eval (.Name x pos) env) Q E (St s h tk) := ev_builtin (s := St s h tk) X e e' hq hk hx hg hbn hd
/-- f(e, ..) for a builtin function f -/
theorem r_callB {id : String} {e : Expr} {rest : List Expr} (X : (KK w.params).In h) (e1 : nsIn (KK w.params) mainGlobals x = some none) (e2 : nsIn (KK w.params) builtinsNs x = some (some (.builtin id))) (hk : env.scope.kind = .function) (hx : env.kindOf x = some .globalImplicit) (hg : env.globals = mainGlobals) (hbn : env.builtins = builtinsNs)
    (he : starEach (e :: rest) env = (false, eval e env) :: starEach rest env) (hplain : (backTo pos (starEach rest env)).any (·.1) = false)
    (hq : wpAny (MM w) A (spliced (backTo pos (starEach (e :: rest) env))) (fun vs s₁ => wpAny (MM w) A (call (.builtin id) vs) Q E s₁) E (St s h tk))
    (hd : (x == ("__debug__" : Str)) = false := by decide) : wpAny (MM w) A (eval (.Call (.Name x p) (e :: rest) [] pos) env) Q E (St s h tk) :=
  Call_Name rfl (r_builtin X e1 e2 hk hx hg hbn (PyProof.Rows.callWith_builtin1 hq he hplain) hd)
/-- f(e, ..) for a def of the top -/
theorem r_callD {f : Addr} {o : Obj} {fd : FuncData} {e : Expr} {rest : List Expr} (X : (KK w.params).In h) (e1 : nsIn (KK w.params) mainGlobals x = some (some (.ref f))) (ho : (KK w.params).lookup f = some o) (hdat : o.data = .func fd) (hk : env.scope.kind = .function) (hx : env.kindOf x = some .globalImplicit) (hg : env.globals = mainGlobals)
    (he : starEach (e :: rest) env = (false, eval e env) :: starEach rest env)
    (hq : wpAny (MM w) A (spliced (backTo pos (starEach (e :: rest) env))) (fun vs s₁ => s₁.heap.get? f = some o ∧ wpAny (MM w) A (call (.ref f) vs) Q E s₁) E (St s h tk))
    (hd : (x == ("__debug__" : Str)) = false := by decide) : wpAny (MM w) A (eval (.Call (.Name x p) (e :: rest) [] pos) env) Q E (St s h tk) :=
  Call_Name rfl (r_global X e1 hk hx hg (PyProof.Rows.callWith_def hdat hq he) hd)
end
/-- a dict of ints: names and ints -/
noncomputable def bk (vals : List (Str × Int × Tok)) : List (Str × Int) := vals.map fun x => (x.1, x.2.1)
noncomputable def addOne (b : List (Str × Int)) (k : Str) (v : Int) : List (Str × Int) :=
  if k ∈ b.map (·.1) then b.map fun p => if p.1 = k then (p.1, p.2 + v) else p else b ++ [(k, v)]
noncomputable def addBk (t s : List (Str × Int)) : List (Str × Int) := s.foldl (fun b p => addOne b p.1 p.2) t
section
variable {w : World} {A : Around} {s : Shared} {h : Heap} {tk : Nat} {E : Value → Shared → Prop} {env : Env} {hb : Heap} {ch : List Addr} {obs : List (Addr × Obj)}
  {xk xv : Str} {pk pv pt apos cpos pos : Pos} {x1 : Nat} {body : List Stmt} {d : Addr} {kvs : List (Str × Value)} {ep : Nat} {o : Expr}
theorem r_forItems {Q : Flow → Shared → Prop} (hh : A.handled = none) (hdS : (d == sysModules) = false) (hm : h.DictAt (SK w) d kvs ep) (N : Now hb ch h obs)
    (hbase : attributeBase o "items" env (eval o env) = eval o env) (hline : (apos.endLine == cpos.line) = true)
    (hs : ∀ x, foldedSetIterable (.Call (.Attribute o "items" apos) [] [] cpos) env x = pure x)
    (ho : ∀ Q' : Value → Shared → Prop, Q' (.ref d) (St s h tk) → wpAny (MM w) A (eval o env) Q' E (St s h tk))
    (J : Nat → List (Addr × Obj) → Prop) (hJ : J 0 obs)
    (turn : ∀ i k v key h' tk' I oI obs' (E' : Value → Shared → Prop), kvs[i]? = some (k, v) → (SK w).is k key = true → J i obs' → Now hb ch h' ((I, oI) :: obs') → h'.DictAt (SK w) d kvs ep →
      wpAny (MM w) A (storeName env xk key) (fun _ s₁ => wpAny (MM w) A (storeName env xv v) (fun _ s₂ => wpAny (MM w) A (execs body env) (fun f s₃ =>
        (f = .next ∨ f = .cont) ∧ ∃ h'' tk'' obs'', s₃ = St s h'' tk'' ∧ J (i + 1) obs'' ∧ Now hb ch h'' ((I, oI) :: obs'') ∧ h''.DictAt (SK w) d kvs ep) E' s₂) E' s₁) E' (St s h' tk'))
    (done : ∀ h' tk' obs', J kvs.length obs' → Now hb ch h' obs' → Q .next (St s h' tk')) :
    wpAny (MM w) A (exec (.For (.Tuple [.Name xk pk, .Name xv pv] x1 pt) (.Call (.Attribute o "items" apos) [] [] cpos) body [] pos) env) Q E (St s h tk) := by
  refine wpAny_For (wpAny_Call_items (knd := SK w) (s := St s h tk) hdS hm.dictOf hbase hline ho ?_) hs
  refine wpAny_pyIter_items (knd := SK w) (d := d) (kvs := kvs) (ep := ep) ⟨_, Heap.get?_push_size _ rfl, rfl, rfl⟩ (hm.push _) ?_
  have N1 := N.alloc { cls := .type "dict_items", data := .fields #[.ref d] } rfl
  have N2 := N1.alloc { cls := .type "dict_itemiterator", dict := none, data := .fields #[.none, .bool false, .ref d, .int 0 0, .int kvs.length 0, .int ep 0, .none, .none], slots := #[] } rfl
  have N3 := N2.sub (obs' := _ :: obs) (.cons_cons _ (.cons _ (List.Sublist.refl _)))
  refine forItems (s := s) (N := N3) hh N1.size_ch (Nat.ne_of_lt (hm.push _).lt_size) (Heap.get?_push_size _ rfl) ((hm.push _).push _) J hJ ?_ done
  intro i k v key h' tk' oI obs' hv hkey j N' hm'
  refine wpAny_mono (turn i k v key h' tk' _ oI obs' _ hv hkey j N' hm') (fun _ s₁ h₁ => wpAny_mono h₁ (fun _ s₂ h₂ => wpAny_mono h₂ (fun f s₃ h₃ => ?_) fun _ _ e => e) fun _ _ e => e) fun _ _ e => e
  rcases h₃ with ⟨rfl | rfl, h₃⟩ <;> exact h₃
theorem r_dict0 {Q : Value → Shared → Prop} (N : Now hb ch h obs) (hq : ∀ h' a oa, Now hb ch h' ((a, oa) :: obs) → oa.IsDictOf (SK w) [] → a = h.objs.size → Q (.ref a) (St s h' tk)) : wpAny (MM w) A (eval (.Dict [] [] pos) env) Q E (St s h tk) := by
  rw [eval_Dict_empty]
  refine wpAny_bind (wpAny_standAt ?_)
  obtain ⟨oa, ea, ia⟩ := Heap.dictOf_iff.mp (Heap.DictOf.new (knd := SK w) h)
  have e := ea
  rw [Heap.get?_push_size _ rfl] at e
  cases e
  exact wpAny_newObj_type (hq _ _ _ (N.alloc _ rfl) ia rfl)
theorem kk_size (X : (KK w.params).In h) : 183 ≤ h.objs.size := by
  have := Heap.lt_size (X 182 (obAt (KK w.params) 182) (by kernel_rfl))
  exact this
end
theorem IsDictOf.at {w : World} {h : Heap} {d : Addr} {o : Obj} {kvs : List (Str × Value)} (e : h.get? d = some o) (x : h.DictOf (SK w) d kvs) : o.IsDictOf (SK w) kvs := by
  obtain ⟨o', e', i'⟩ := Heap.dictOf_iff.mp x
  rw [e] at e'; cases e'; exact i'
theorem Now.grow {hb h h' : Heap} {ch : List Addr} {obs : List (Addr × Obj)} (N : Now hb ch h obs) (hk : ∀ b o, h.get? b = some o → h'.get? b = some o) : Now hb ch h' obs :=
  ⟨fun p hp => hk _ _ (N.at_ p hp), N.nd, N.ok, fun b o e hn => hk b o (N.keep b o e hn), fun a ha => let ⟨o, e⟩ := N.live a ha; ⟨o, hk a o e⟩⟩
theorem get_set {α : Type} {l : List α} {i : Nat} {a b : α} (hi : l[i]? = some a) : (l.set i b)[i]? = some b := by
  rw [List.getElem?_set, if_pos rfl, if_pos (List.getElem?_eq_some_iff.mp hi).1]
section
variable {w : World} {A : Around} {s : Shared} {h : Heap} {tk : Nat} {E : Value → Shared → Prop} {env : Env} {hb : Heap} {ch : List Addr} {obs : List (Addr × Obj)} {m : Str → Option Value} {oL : Obj}
theorem ext_all {h h' : Heap} (hx : Heap.ExtBut h.objs.size h h') : ∀ b o, h.get? b = some o → h'.get? b = some o := fun b o e => hx b o (Nat.ne_of_lt (Heap.lt_size e)) e
theorem r_assign5 {Q : Unit → Shared → Prop} {x1 x2 x3 x4 x5 : Str} {p1 p2 p3 p4 p5 pt : Pos} {k : Nat} {t : Addr} {v1 v2 v3 v4 v5 : Value} (hh : A.handled = none) (N : Now hb ch h obs) (i : Nat) (hi : obs[i]? = some (env.locals, oL)) (hm : NsObj oL m)
    (ht : h.IsTuple t #[v1, v2, v3, v4, v5]) (k1 : env.kindOf x1 = some .local) (k2 : env.kindOf x2 = some .local) (k3 : env.kindOf x3 = some .local) (k4 : env.kindOf x4 = some .local) (k5 : env.kindOf x5 = some .local)
    (hp : (env.scope.kind == .class || (env.scope.kind == .module && env.locals != env.globals)) = false)
    (hq : ∀ h' oL' tk', Now hb ch h' (obs.set i (env.locals, oL')) → NsObj oL' (up (up (up (up (up m x1 v1) x2 v2) x3 v3) x4 v4) x5 v5) → Q () (St s h' tk')) :
    wpAny (MM w) A (assign (.Tuple [.Name x1 p1, .Name x2 p2, .Name x3 p3, .Name x4 p4, .Name x5 p5] k pt) env (.ref t)) Q E (St s h tk) := by
  refine wpAny_assign_Tuple hh ht rfl rfl fun h₁ hx => ?_
  have N₁ : Now hb ch h₁ obs := N.grow (ext_all hx)
  show wpAny _ _ (do holding [v2, v3, v4, v5] (assign (.Name x1 p1) env v1); do holding [v3, v4, v5] (assign (.Name x2 p2) env v2); do holding [v4, v5] (assign (.Name x3 p3) env v3); do holding [v5] (assign (.Name x4 p4) env v4); do holding [] (assign (.Name x5 p5) env v5); pure ()) _ _ (St s h₁ tk)
  refine wpAny_bind (wpAny_holding (wpAny_assign_Name (r_store N₁ i hi hm k1 hp fun h₂ o₂ tk₂ N₂ n₂ => ?_)))
  refine wpAny_bind (wpAny_holding (wpAny_assign_Name (r_store N₂ i (get_set hi) n₂ k2 hp fun h₃ o₃ tk₃ N₃ n₃ => ?_)))
  rw [List.set_set] at N₃
  refine wpAny_bind (wpAny_holding (wpAny_assign_Name (r_store N₃ i (get_set hi) n₃ k3 hp fun h₄ o₄ tk₄ N₄ n₄ => ?_)))
  rw [List.set_set] at N₄
  refine wpAny_bind (wpAny_holding (wpAny_assign_Name (r_store N₄ i (get_set hi) n₄ k4 hp fun h₅ o₅ tk₅ N₅ n₅ => ?_)))
  rw [List.set_set] at N₅
  refine wpAny_bind (wpAny_holding (wpAny_assign_Name (r_store N₅ i (get_set hi) n₅ k5 hp fun h₆ o₆ tk₆ N₆ n₆ => ?_)))
  rw [List.set_set] at N₆
  exact wpAny_pure (hq h₆ o₆ tk₆ N₆ n₆)
theorem r_assign2 {Q : Unit → Shared → Prop} {x1 x2 : Str} {p1 p2 pt : Pos} {k : Nat} {t : Addr} {v1 v2 : Value} (hh : A.handled = none) (N : Now hb ch h obs) (i : Nat) (hi : obs[i]? = some (env.locals, oL)) (hm : NsObj oL m)
    (ht : h.IsTuple t #[v1, v2]) (k1 : env.kindOf x1 = some .local) (k2 : env.kindOf x2 = some .local)
    (hp : (env.scope.kind == .class || (env.scope.kind == .module && env.locals != env.globals)) = false)
    (hq : ∀ h' oL' tk', Now hb ch h' (obs.set i (env.locals, oL')) → NsObj oL' (up (up m x1 v1) x2 v2) → Q () (St s h' tk')) :
    wpAny (MM w) A (assign (.Tuple [.Name x1 p1, .Name x2 p2] k pt) env (.ref t)) Q E (St s h tk) := by
  refine wpAny_assign_Tuple hh ht rfl rfl fun h₁ hx => ?_
  have N₁ : Now hb ch h₁ obs := N.grow (ext_all hx)
  show wpAny _ _ (do holding [v2] (assign (.Name x1 p1) env v1); do holding [] (assign (.Name x2 p2) env v2); pure ()) _ _ (St s h₁ tk)
  refine wpAny_bind (wpAny_holding (wpAny_assign_Name (r_store N₁ i hi hm k1 hp fun h₂ o₂ tk₂ N₂ n₂ => ?_)))
  refine wpAny_bind (wpAny_holding (wpAny_assign_Name (r_store N₂ i (get_set hi) n₂ k2 hp fun h₃ o₃ tk₃ N₃ n₃ => ?_)))
  rw [List.set_set] at N₃
  exact wpAny_pure (hq h₃ o₃ tk₃ N₃ n₃)
theorem r_tuple {Q : Value → Shared → Prop} {elts : List Expr} {k : Nat} {pos : Pos}
    (hq : wpAny (MM w) A (spliced (backTo pos (starEach elts env))) (fun vs s₁ => vs.length ≤ sizeLine ∧ Q (.ref s₁.heap.objs.size) { s₁ with heap := s₁.heap.push { cls := .type "tuple", data := .seq vs.toArray } }) E (St s h tk)) :
    wpAny (MM w) A (eval (.Tuple elts k pos) env) Q E (St s h tk) := wpAny_Tuple hq
end
end
section
open PySem PySem.W PySem.W.X PyProof.Rows PySem.Calls PySem.Spec
open LCg (NsObj)
set_option maxHeartbeats 400000
noncomputable def bCount : List Stmt := defBody "count_calls" PR.main.body
section
variable {w : World} {A : Around} {s : Shared} {E : Value → Shared → Prop} {Q : Value → Shared → Prop} {h : Heap} {tk : Nat}
theorem count_calls (X : (KK w.params).In h) (hroom : A.depth < recursionLimit) (hh : A.handled = none) {d : Addr} {vals : List (Str × Int × Tok)} {ep : Nat}
    (hm : h.DictAt (SK w) d (intPairs vals) ep) (hd : (d == sysModules) = false)
    (hQ : ∀ h' tk' t, Now h [] h' [] → Q (.int (vals.map (·.2.1)).sum t) (St s h' tk')) :
    wpAny (MM w) A (call (.ref 122) [.ref d]) Q E (St s h tk) := by
  refine callF (s := St s h tk) X hroom (o := obAt (KK w.params) 122) (fd := fnAt (KK w.params) 122) (body := bCount) (binds := [(S "callers", .ref d)]) (by kernel_rfl) (by kernel_rfl) (by kernel_rfl) (by kernel_rfl) (by kernel_rfl) (by kernel_rfl) (by kernel_rfl) (by kernel_rfl) (by kernel_rfl) (by kernel_rfl) ?_
  intro h₁ oL E' N nL
  conv => arg 3; arg 1; whnf
  show wpAny _ _ _ _ _ (St s h₁ _)
  generalize h.objs.size = L at N ⊢
  refine wpAny_execs_cons (wpAny_Assign_Name (r_int fun t tk₁ => ?_) (by kernel_rfl))
  refine r_store N 0 rfl nL (by kernel_rfl) (by kernel_rfl) fun h₂ o₂ tk₂ N₂ n₂ => ?_
  have hm₂ : h₂.DictAt (SK w) d (intPairs vals) ep := hm.keep fun b o e => N₂.old e (by simp)
  refine wpAny_execs_cons (wpAny_For (Call_values (knd := SK w) (s := St s h₂ tk₂) hd hm₂.dictOf (by kernel_rfl) (by kernel_rfl) (fun Q' hq => r_name (N₂.get 0 rfl) n₂ (by rfl) (by kernel_rfl) (by kernel_rfl) hq) ?_) (by intro _; kernel_rfl))
  refine wpAny_pyIter_values (knd := SK w) (d := d) (kvs := intPairs vals) (ep := ep) ⟨_, Heap.get?_push_size _ rfl, rfl, rfl⟩ (hm₂.push _) ?_
  let H := h₂.push { cls := .type "dict_values", data := .fields #[.ref d] }
  have N₃ : Now h [] (H.push _) ((H.objs.size, _) :: [(L, o₂)]) :=
    ((N₂.alloc { cls := .type "dict_values", data := .fields #[.ref d] } rfl).alloc { cls := .type "dict_valueiterator", data := .fields #[.ref d, .int 0 0, .int (intPairs vals).length 0, .int ep 0] } rfl).sub (.cons_cons _ (.cons _ (List.Sublist.refl _)))
  have hne : d ≠ H.objs.size := Nat.ne_of_lt (hm₂.push _).lt_size
  have hst : (H.push { cls := .type "dict_valueiterator", data := .fields #[.ref d, .int 0 0, .int (intPairs vals).length 0, .int ep 0] }).IsValIter H.objs.size d 0 (intPairs vals).length ep := ⟨_, Heap.get?_push_size _ rfl, rfl, rfl⟩
  have hd₃ := (hm₂.push { cls := .type "dict_values", data := .fields #[.ref d] }).push { cls := .type "dict_valueiterator", data := .fields #[.ref d, .int 0 0, .int (intPairs vals).length 0, .int ep 0] }
  have hh' : (A.deeper (callEnv (fnAt (KK w.params) 122) L 122)).handled = none := hh
  let JC1 : Nat → List (Addr × Obj) → Prop := fun i obs' => ∃ oL m t, obs' = [(L, oL)] ∧ NsObj oL m ∧ m (S "nc") = some (.int ((vals.take i).map (·.2.1)).sum t)
  refine forNow (h := H.push _) (s := s) (Walks.dictValues (knd := SK w) hh' H.objs.size d hne (intPairs vals) ep) (fun i h ⟨⟨o, e, _⟩, _⟩ => ⟨o, e⟩) (by simp) N₃ ⟨hst, hd₃⟩
    JC1 ⟨o₂, _, t, rfl, n₂, by rw [up_self]; simp⟩ ?_ ?_
  · intro i v h' tk' oI _ hi hz1 hz2 N' st'
    refine Classical.byContradiction fun hng => ?_
    obtain ⟨kx, hv⟩ := hz1
    obtain ⟨oL', m', t', rfl, n', hnc⟩ := hz2
    refine hng ?_
    obtain ⟨y, hy, rfl⟩ : ∃ y, vals[i]? = some y ∧ v = .int y.2.1 y.2.2 := by
      unfold intPairs at hv
      rw [List.getElem?_map] at hv
      cases e : vals[i]? with
      | none => rw [e] at hv; cases hv
      | some y => rw [e] at hv; cases hv; exact ⟨y, rfl, rfl⟩
    refine r_store N' 1 rfl n' (by kernel_rfl) (by kernel_rfl) fun h₄ o₄ tk₄ N₄ n₄ => ?_
    refine wpAny_execs_cons (wpAny_AugAssign_Name (r_load (N₄.get 1 rfl) n₄ ((up_ne (by kernel_rfl)).trans hnc) (by kernel_rfl) (by kernel_rfl) ?_))
    refine r_name (N₄.get 1 rfl) n₄ (up_self _ _ _) (by kernel_rfl) (by kernel_rfl) ?_
    refine r_iadd fun t₅ tk₅ => ?_
    refine r_store N₄ 1 rfl n₄ (by kernel_rfl) (by kernel_rfl) fun h₆ o₆ tk₆ N₆ n₆ => ?_
    refine wpAny_execs_nil ⟨h₆, tk₆, [(L, o₆)], rfl, ⟨o₆, _, t₅, rfl, n₆, ?_⟩, N₆, ?_⟩
    · rw [up_self, List.take_add_one, hy]; simp
    · exact ⟨st'.1.at (carry (N'.get 0 rfl) (N₆.get 0 rfl)), hm.keep fun b o e => N₆.old e (by simp)⟩
  · intro h' tk' _ hz3 N'
    refine Classical.byContradiction fun hng => ?_
    obtain ⟨oL', m', t', rfl, n', hnc⟩ := hz3
    refine hng ?_
    refine wpAny_execs_cons (wpAny_Return_some (r_name (N'.get 0 rfl) n' hnc (by kernel_rfl) (by kernel_rfl) ?_))
    have e : (intPairs vals).length = vals.length := by simp [intPairs]
    rw [e, List.take_length]
    exact hQ _ _ _ (N'.sub (List.nil_sublist _))
end
end
section
open PySem PySem.W PySem.W.X PyProof.Rows PySem.Calls PySem.Spec
open LCg (NsObj)
set_option maxHeartbeats 400000
theorem intPairs_length (v : List (Str × Int × Tok)) : (intPairs v).length = v.length := by simp [intPairs]
theorem intPairs_get {v : List (Str × Int × Tok)} {i : Nat} {k : Str} {x : Value} (e : (intPairs v)[i]? = some (k, x)) : ∃ n t, v[i]? = some (k, n, t) ∧ x = .int n t := by
  unfold intPairs at e
  rw [List.getElem?_map] at e
  cases q : v[i]? with
  | none => rw [q] at e; cases e
  | some y => rw [q] at e; obtain ⟨a, b, c⟩ := y; cases e; exact ⟨b, c, rfl, rfl⟩
theorem keys_bk (v : List (Str × Int × Tok)) : (bk v).map (·.1) = (intPairs v).map (·.1) := by simp [bk, intPairs]
theorem stored_new {kvs : List (Str × Value)} {k : Str} {v : Value} (hn : k ∉ kvs.map (·.1)) : stored kvs k v = kvs ++ [(k, v)] := by
  unfold stored
  rw [if_neg]
  intro q
  simp only [List.any_eq_true, decide_eq_true_eq] at q
  obtain ⟨p, hp, e⟩ := q
  exact hn (e ▸ List.mem_map_of_mem hp)
theorem stored_old {kvs : List (Str × Value)} {k : Str} {v : Value} (hn : k ∈ kvs.map (·.1)) : stored kvs k v = kvs.map fun p => if p.1 = k then (p.1, v) else p := by
  unfold stored
  rw [if_pos]
  obtain ⟨p, hp, e⟩ := List.mem_map.mp hn
  simp only [List.any_eq_true, decide_eq_true_eq]
  exact ⟨p, hp, e⟩
theorem take_not_mem {l : List (Str × Value)} (hn : (l.map (·.1)).Nodup) {i : Nat} {k : Str} {v : Value} (e : l[i]? = some (k, v)) : k ∉ (l.take i).map (·.1) := by
  intro hm
  rw [List.map_take] at hm
  obtain ⟨j, hj⟩ := List.mem_iff_getElem?.mp hm
  have hji : j < i := by
    rcases Nat.lt_or_ge j i with q | q
    · exact q
    · rw [List.getElem?_take, if_neg (Nat.not_lt.mpr q)] at hj; cases hj
  rw [List.getElem?_take, if_pos hji] at hj
  have hi' : (l.map (·.1))[i]? = some k := by rw [List.getElem?_map, e]; rfl
  obtain ⟨li, ei⟩ := List.getElem?_eq_some_iff.mp hi'
  obtain ⟨lj, ej⟩ := List.getElem?_eq_some_iff.mp hj
  exact List.pairwise_iff_getElem.mp hn j i lj li hji (by rw [ei, ej])
theorem valueAt_isSome {kvs : List (Str × Value)} {k : Str} : (valueAt kvs k).isSome = decide (k ∈ kvs.map (·.1)) := by
  unfold valueAt
  rw [Option.isSome_map, Bool.eq_iff_iff]
  simp only [List.find?_isSome, decide_eq_true_eq, List.mem_map]
theorem dictOf_nodup {w : World} {h : Heap} {d : Addr} {od : Obj} {kvs : List (Str × Value)} (e : h.get? d = some od) (io : od.IsDictOf (SK w) kvs) : (kvs.map (·.1)).Nodup := by
  obtain ⟨ep, x⟩ := (dictOf_at e io).dictAt
  exact x.nodup
theorem valueAt_int {rv : List (Str × Int × Tok)} {k : Str} (hn : ((intPairs rv).map (·.1)).Nodup) (hk : k ∈ (intPairs rv).map (·.1)) : ∃ cur t, valueAt (intPairs rv) k = some (.int cur t) ∧ ∀ y ∈ rv, y.1 = k → y.2.1 = cur := by
  have key : ∀ y ∈ rv, y.1 = k → valueAt (intPairs rv) k = some (.int y.2.1 y.2.2) := by
    intro y hy e
    obtain ⟨j, hj⟩ := List.mem_iff_getElem?.mp hy
    with_reducible refine valueAt_of_get hn (i := j) ?_
    unfold intPairs
    rw [List.getElem?_map, hj]
    subst e; rfl
  obtain ⟨p, hp, e⟩ := List.mem_map.mp hk
  obtain ⟨y, hy, rfl⟩ := List.mem_map.mp hp
  have h1 := key y hy e
  with_reducible refine ⟨_, _, h1, fun z hz ez => ?_⟩
  have h2 := key z hz ez
  rw [h1] at h2
  injection Option.some.inj h2 with a b
  exact a.symm
noncomputable def bAdd : List Stmt := defBody "add_callers" PR.main.body
section
variable {w : World} {A : Around} {s : Shared} {E : Value → Shared → Prop} {Q : Value → Shared → Prop} {h : Heap} {tk : Nat}
theorem add_callers (X : (KK w.params).In h) (hroom : A.depth < recursionLimit) (hh : A.handled = none) {dt ds : Addr} {tv sv : List (Str × Int × Tok)} {et es : Nat}
    (ht : h.DictAt (SK w) dt (intPairs tv) et) (hs : h.DictAt (SK w) ds (intPairs sv) es) (h1 : 183 ≤ dt) (h2 : 183 ≤ ds) (h3 : tv.length + sv.length ≤ 100)
    (hQ : ∀ h' tk' dn on rv, Now h [] h' [(dn, on)] → on.IsDictOf (SK w) (intPairs rv) → bk rv = addBk (bk tv) (bk sv) → 183 ≤ dn → Q (.ref dn) (St s h' tk')) :
    wpAny (MM w) A (call (.ref 115) [.ref dt, .ref ds]) Q E (St s h tk) := by
  with_reducible refine callF (s := St s h tk) X hroom (o := obAt (KK w.params) 115) (fd := fnAt (KK w.params) 115) (body := bAdd) (binds := [(S "target", .ref dt), (S "source", .ref ds)]) (by kernel_rfl) (by kernel_rfl) (by kernel_rfl) (by kernel_rfl) (by kernel_rfl) (by kernel_rfl) (by kernel_rfl) (by kernel_rfl) (by kernel_rfl) (by kernel_rfl) ?_
  intro h₁ oL E' N nL
  conv => arg 3; arg 1; whnf
  show wpAny _ _ _ _ _ (St s h₁ _)
  have hL := kk_size X
  generalize h.objs.size = L at N hL ⊢
  have hh' : (A.deeper (callEnv (fnAt (KK w.params) 115) L 115)).handled = none := hh
  with_reducible refine wpAny_execs_cons (wpAny_Assign_Name (r_dict0 N fun h₂ dn on N₂ i₂ hdn => ?_) (by kernel_rfl))
  have hdn' : 183 ≤ dn := by rw [hdn]; exact kk_size (kk_keep X N (by simp))
  refine r_store N₂ 1 rfl nL (by kernel_rfl) (by kernel_rfl) fun h₃ o₃ tk₃ N₃ n₃ => ?_
  have ht₃ : h₃.DictAt (SK w) dt (intPairs tv) et := ht.keep fun b o e => N₃.old e (by simp)
  let JD1 : Nat → List (Addr × Obj) → Prop := fun i obs' => ∃ oL on m, obs' = [(dn, on), (L, oL)] ∧ NsObj oL m ∧ m (S "new_callers") = some (.ref dn) ∧ m (S "source") = some (.ref ds) ∧ on.IsDictOf (SK w) ((intPairs tv).take i)
  refine wpAny_execs_cons (r_forItems hh' (ne_sys h1) ht₃ N₃ (by kernel_rfl) (by kernel_rfl) (by intro _; kernel_rfl)
    (fun Q' hq => r_name (N₃.get 1 rfl) n₃ (up_ne (by kernel_rfl)) (by kernel_rfl) (by kernel_rfl) hq)
    JD1
    ⟨o₃, on, _, rfl, n₃, up_self _ _ _, up_ne (by kernel_rfl), i₂⟩ ?_ ?_)
  · intro i k v key h' tk' I oI _ E₁ hv hkey hz1 N' hd'
    refine Classical.byContradiction fun hng => ?_
    obtain ⟨oL', on', m, rfl, n', hm1, hm2, io⟩ := hz1
    refine hng ?_
    refine r_store N' 2 rfl n' (by kernel_rfl) (by kernel_rfl) fun h₄ o₄ tk₄ N₄ n₄ => ?_
    refine r_store N₄ 2 rfl n₄ (by kernel_rfl) (by kernel_rfl) fun h₅ o₅ tk₅ N₅ n₅ => ?_
    refine wpAny_execs_cons (wpAny_Assign_Subscript (r_name (N₅.get 2 rfl) n₅ (up_self _ _ _) (by kernel_rfl) (by kernel_rfl) ?_) (by kernel_rfl))
    refine r_name (N₅.get 2 rfl) n₅ ((up_ne (by kernel_rfl)).trans ((up_ne (by kernel_rfl)).trans hm1)) (by kernel_rfl) (by kernel_rfl) ?_
    refine r_name (N₅.get 2 rfl) n₅ ((up_ne (by kernel_rfl)).trans (up_self _ _ _)) (by kernel_rfl) (by kernel_rfl) ?_
    have hlen : ((intPairs tv).take i).length ≤ sizeLine := by
      rw [List.length_take, intPairs_length, sizeLine_eq]; lia
    refine r_setItem N₅ 1 rfl io hkey hlen fun h₆ on₆ tk₆ N₆ io₆ => ?_
    refine wpAny_execs_nil ⟨.inl rfl, h₆, tk₆, [(dn, on₆), (L, o₅)], rfl, ⟨o₅, on₆, _, rfl, n₅, (up_ne (by kernel_rfl)).trans ((up_ne (by kernel_rfl)).trans hm1), (up_ne (by kernel_rfl)).trans ((up_ne (by kernel_rfl)).trans hm2), ?_⟩, N₆, ht.keep fun b o e => N₆.old e (by simp)⟩
    rw [stored_new (take_not_mem ht.nodup hv)] at io₆
    rw [List.take_add_one, hv]
    exact io₆
  · intro h₄ tk₄ _ hz2 N₄
    refine Classical.byContradiction fun hng => ?_
    obtain ⟨o₄, on₄, m, rfl, n₄, hm1, hm2, io⟩ := hz2
    refine hng ?_
    rw [List.take_length] at io
    have hs₄ : h₄.DictAt (SK w) ds (intPairs sv) es := hs.keep fun b o e => N₄.old e (by simp)
    let JD2 : Nat → List (Addr × Obj) → Prop := fun i obs' => ∃ oL on m rv, obs' = [(dn, on), (L, oL)] ∧ NsObj oL m ∧ m (S "new_callers") = some (.ref dn) ∧ on.IsDictOf (SK w) (intPairs rv) ∧ bk rv = addBk (bk tv) (bk (sv.take i)) ∧ rv.length ≤ tv.length + i
    with_reducible refine wpAny_execs_cons (r_forItems hh' (ne_sys h2) hs₄ N₄ (by kernel_rfl) (by kernel_rfl) (by intro _; kernel_rfl)
      (fun Q' hq => r_name (N₄.get 1 rfl) n₄ hm2 (by kernel_rfl) (by kernel_rfl) hq)
      JD2
      ⟨o₄, on₄, m, tv, rfl, n₄, hm1, io, rfl, Nat.le_refl _⟩ ?_ ?_)
    · intro i k v key h' tk' I oI _ E₁ hv hkey hz3 N' hd'
      refine Classical.byContradiction fun hng => ?_
      obtain ⟨oL', on', m, rv, rfl, n', hm1, io, hrv, hlen⟩ := hz3
      refine hng ?_
      refine Classical.byContradiction fun hng => ?_
      obtain ⟨nv, tv', hvi, rfl⟩ := intPairs_get hv
      refine hng ?_
      have hi : i < sv.length := (List.getElem?_eq_some_iff.mp hvi).1
      have hlen' : (intPairs rv).length ≤ sizeLine := by rw [intPairs_length, sizeLine_eq]; lia
      have hnext : addBk (bk tv) (bk (sv.take (i + 1))) = addOne (bk rv) k nv := by
        rw [List.take_add_one, hvi, hrv]
        simp [bk, addBk]
      refine r_store N' 2 rfl n' (by kernel_rfl) (by kernel_rfl) fun h₅ o₅ tk₅ N₅ n₅ => ?_
      refine r_store N₅ 2 rfl n₅ (by kernel_rfl) (by kernel_rfl) fun h₆ o₆ tk₆ N₆ n₆ => ?_
      have hm1' := (up_ne (m := up m (S "func") key) (x := S "caller") (y := S "new_callers") (v := .int nv tv') (by kernel_rfl)).trans ((up_ne (by kernel_rfl)).trans hm1)
      have hmf : up (up m (S "func") key) (S "caller") (.int nv tv') (S "func") = some key := (up_ne (by kernel_rfl)).trans (up_self _ _ _)
      refine wpAny_execs_cons (wpAny_If (wpAny_isTrue_Compare1 (r_name (N₆.get 2 rfl) n₆ hmf (by kernel_rfl) (by kernel_rfl) ?_) (by kernel_rfl)))
      refine r_name (N₆.get 2 rfl) n₆ hm1' (by kernel_rfl) (by kernel_rfl) ?_
      refine r_in (dictOf_at (N₆.get 1 rfl) io) (ne_sys hdn') hkey fun tk₇ => wpAny_truthy_bool ?_
      rw [valueAt_isSome]
      have X₆ : (KK w.params).In h₆ := kk_keep X N₆ (by simp)
      by_cases hk : k ∈ (intPairs rv).map (·.1)
      · rw [decide_eq_true hk, if_pos rfl]
        with_reducible refine wpAny_execs_cons (wpAny_If (isTrue_plain (r_callB (id := "isinstance") X₆ (by kernel_rfl) (by kernel_rfl) (by kernel_rfl) (by kernel_rfl) (by kernel_rfl) (by kernel_rfl) (by kernel_rfl) (by kernel_rfl) ?_) (by kernel_rfl)))
        refine args_cons (r_name (N₆.get 2 rfl) n₆ (up_self _ _ _) (by kernel_rfl) (by kernel_rfl) ?_) (by kernel_rfl)
        with_reducible refine args_cons (r_builtin X₆ (by kernel_rfl) (v := .type "tuple") (by kernel_rfl) (by kernel_rfl) (by kernel_rfl) (by kernel_rfl) (by kernel_rfl) ?_) (by kernel_rfl)
        with_reducible refine args_nil (IsiPair.int_tuple (wpAny_truthy_bool ?_))
        rw [if_neg Bool.false_ne_true]
        refine wpAny_execs_cons (wpAny_AugAssign_Subscript (r_name (N₆.get 2 rfl) n₆ hm1' (by kernel_rfl) (by kernel_rfl) ?_))
        refine r_name (N₆.get 2 rfl) n₆ hmf (by kernel_rfl) (by kernel_rfl) ?_
        refine Classical.byContradiction fun hng => ?_
        obtain ⟨cur, tc, hva, hall⟩ := valueAt_int (dictOf_nodup (N₆.get 1 rfl) io) hk
        refine hng ?_
        refine r_getItem (dictOf_at (N₆.get 1 rfl) io) hkey hva fun tk₇ => ?_
        refine r_name (N₆.get 2 rfl) n₆ (up_self _ _ _) (by kernel_rfl) (by kernel_rfl) (r_iadd fun tn tk₈ => ?_)
        refine r_setItem N₆ 1 rfl io hkey hlen' fun h₈ on₈ tk₈ N₈ io₈ => ?_
        refine wpAny_execs_nil (wpAny_execs_nil (wpAny_execs_nil ⟨.inl rfl, h₈, tk₈, [(dn, on₈), (L, o₆)], rfl, ⟨o₆, on₈, _, rv.map (fun y => if y.1 = k then (y.1, cur + nv, tn) else y), rfl, n₆, hm1', ?_, ?_, ?_⟩, N₈, hs.keep fun b o e => N₈.old e (by simp)⟩))
        · rw [stored_old hk] at io₈
          have e : intPairs (rv.map (fun y => if y.1 = k then (y.1, cur + nv, tn) else y)) = (intPairs rv).map fun p => if p.1 = k then (p.1, Value.int (cur + nv) tn) else p := by
            simp only [intPairs, List.map_map]
            with_reducible refine List.map_congr_left fun y _ => ?_
            by_cases q : y.1 = k <;> simp [q]
          rw [e]; exact io₈
        · rw [hnext]
          unfold addOne
          rw [if_pos (by rw [keys_bk]; exact hk)]
          simp only [bk, List.map_map]
          with_reducible refine List.map_congr_left fun y hy => ?_
          by_cases q : y.1 = k
          · simp [q, hall y hy q]
          · simp [q]
        · rw [List.length_map]; lia
      · rw [decide_eq_false hk, if_neg Bool.false_ne_true]
        refine wpAny_execs_cons (wpAny_Assign_Subscript (r_name (N₆.get 2 rfl) n₆ (up_self _ _ _) (by kernel_rfl) (by kernel_rfl) ?_) (by kernel_rfl))
        refine r_name (N₆.get 2 rfl) n₆ hm1' (by kernel_rfl) (by kernel_rfl) ?_
        refine r_name (N₆.get 2 rfl) n₆ hmf (by kernel_rfl) (by kernel_rfl) ?_
        refine r_setItem N₆ 1 rfl io hkey hlen' fun h₈ on₈ tk₈ N₈ io₈ => ?_
        refine wpAny_execs_nil (wpAny_execs_nil ⟨.inl rfl, h₈, tk₈, [(dn, on₈), (L, o₆)], rfl, ⟨o₆, on₈, _, rv ++ [(k, nv, tv')], rfl, n₆, hm1', ?_, ?_, ?_⟩, N₈, hs.keep fun b o e => N₈.old e (by simp)⟩)
        · rw [stored_new hk] at io₈
          simpa [intPairs] using io₈
        · rw [hnext]
          unfold addOne
          rw [if_neg (by rw [keys_bk]; exact hk)]
          simp [bk]
        · rw [List.length_append, List.length_singleton]; lia
    · intro h₅ tk₅ _ hz4 N₅
      refine Classical.byContradiction fun hng => ?_
      obtain ⟨o₅, on₅, m, rv, rfl, n₅, hm1, io, hrv, _⟩ := hz4
      refine hng ?_
      refine wpAny_execs_cons (wpAny_Return_some (r_name (N₅.get 1 rfl) n₅ hm1 (by kernel_rfl) (by kernel_rfl) ?_))
      rw [intPairs_length, List.take_length] at hrv
      exact hQ _ _ _ _ _ (N₅.sub (.cons_cons _ (List.nil_sublist _))) io hrv hdn'
end
end
section
open PySem PySem.W PySem.W.X PyProof.Rows PySem.Calls PySem.Spec
open LCg (NsObj)
set_option maxHeartbeats 400000
noncomputable def bStats : List Stmt := defBody "add_func_stats" PR.main.body
section
variable {w : World} {A : Around} {s : Shared} {E : Value → Shared → Prop} {Q : Value → Shared → Prop} {h : Heap} {tk : Nat}
theorem add_func_stats (X : (KK w.params).In h) (hroom : A.depth + 1 < recursionLimit) (hh : A.handled = none) {at' as dt ds : Addr} {tv sv : List (Str × Int × Tok)} {et es : Nat} {a0 a1 a2 a3 b0 b1 b2 b3 : Int} {p0 p1 p2 p3 q0 q1 q2 q3 : Tok}
    (hta : h.IsTuple at' #[.int a0 p0, .int a1 p1, .int a2 p2, .int a3 p3, .ref dt]) (hsa : h.IsTuple as #[.int b0 q0, .int b1 q1, .int b2 q2, .int b3 q3, .ref ds])
    (ht : h.DictAt (SK w) dt (intPairs tv) et) (hs : h.DictAt (SK w) ds (intPairs sv) es) (h1 : 183 ≤ dt) (h2 : 183 ≤ ds) (h3 : tv.length + sv.length ≤ 100)
    (hQ : ∀ h' tk' dn on rv ar oar r0 r1 r2 r3, Now h [] h' [(ar, oar), (dn, on)] → oar = { cls := .type "tuple", data := .seq #[.int (b0 + a0) r0, .int (b1 + a1) r1, .int (b2 + a2) r2, .int (b3 + a3) r3, .ref dn] } →
      on.IsDictOf (SK w) (intPairs rv) → bk rv = addBk (bk tv) (bk sv) → 183 ≤ dn → 183 ≤ ar → Q (.ref ar) (St s h' tk')) :
    wpAny (MM w) A (call (.ref 108) [.ref at', .ref as]) Q E (St s h tk) := by
  with_reducible refine callF (s := St s h tk) X (Nat.lt_of_succ_lt hroom) (o := obAt (KK w.params) 108) (fd := fnAt (KK w.params) 108) (body := bStats) (binds := [(S "target", .ref at'), (S "source", .ref as)]) (by kernel_rfl) (by kernel_rfl) (by kernel_rfl) (by kernel_rfl) (by kernel_rfl) (by kernel_rfl) (by kernel_rfl) (by kernel_rfl) (by kernel_rfl) (by kernel_rfl) ?_
  intro h₁ oL E' N nL
  conv => arg 3; arg 1; whnf
  show wpAny _ _ _ _ _ (St s h₁ _)
  have hL := kk_size X
  generalize h.objs.size = L at N hL ⊢
  have hh' : (A.deeper (callEnv (fnAt (KK w.params) 108) L 108)).handled = none := hh
  refine wpAny_execs_cons (Assign_Tuple (r_name (v := .ref as) (N.get 0 rfl) nL (by kernel_rfl) (by kernel_rfl) (by kernel_rfl) ?_) (by kernel_rfl) (by kernel_rfl))
  have hsa₁ : h₁.IsTuple as #[.int b0 q0, .int b1 q1, .int b2 q2, .int b3 q3, .ref ds] := let ⟨o, e, r⟩ := hsa; ⟨o, N.old e (by simp), r⟩
  refine r_assign5 hh' N 0 rfl nL hsa₁ (by kernel_rfl) (by kernel_rfl) (by kernel_rfl) (by kernel_rfl) (by kernel_rfl) (by kernel_rfl) fun h₂ o₂ tk₂ N₂ n₂ => ?_
  refine wpAny_execs_cons (Assign_Tuple (r_name (v := .ref at') (N₂.get 0 rfl) n₂ (by kernel_rfl) (by kernel_rfl) (by kernel_rfl) ?_) (by kernel_rfl) (by kernel_rfl))
  have hta₂ : h₂.IsTuple at' #[.int a0 p0, .int a1 p1, .int a2 p2, .int a3 p3, .ref dt] := let ⟨o, e, r⟩ := hta; ⟨o, N₂.old e (by simp), r⟩
  refine r_assign5 hh' N₂ 0 rfl n₂ hta₂ (by kernel_rfl) (by kernel_rfl) (by kernel_rfl) (by kernel_rfl) (by kernel_rfl) (by kernel_rfl) fun h₃ o₃ tk₃ N₃ n₃ => ?_
  have X₃ : (KK w.params).In h₃ := kk_keep X N₃ (by simp)
  have g := N₃.get 0 rfl
  with_reducible refine wpAny_execs_cons (wpAny_Return_some (r_tuple ?_))
  with_reducible refine args_cons (wpAny_BinOp (r_name (v := .int b0 q0) g n₃ (by kernel_rfl) (by kernel_rfl) (by kernel_rfl) (r_name (v := .int a0 p0) g n₃ (by kernel_rfl) (by kernel_rfl) (by kernel_rfl) (r_add fun r0 tk₄ => ?_)))) (by kernel_rfl)
  with_reducible refine args_cons (wpAny_BinOp (r_name (v := .int b1 q1) g n₃ (by kernel_rfl) (by kernel_rfl) (by kernel_rfl) (r_name (v := .int a1 p1) g n₃ (by kernel_rfl) (by kernel_rfl) (by kernel_rfl) (r_add fun r1 tk₅ => ?_)))) (by kernel_rfl)
  with_reducible refine args_cons (wpAny_BinOp (r_name (v := .int b2 q2) g n₃ (by kernel_rfl) (by kernel_rfl) (by kernel_rfl) (r_name (v := .int a2 p2) g n₃ (by kernel_rfl) (by kernel_rfl) (by kernel_rfl) (r_add fun r2 tk₆ => ?_)))) (by kernel_rfl)
  with_reducible refine args_cons (wpAny_BinOp (r_name (v := .int b3 q3) g n₃ (by kernel_rfl) (by kernel_rfl) (by kernel_rfl) (r_name (v := .int a3 p3) g n₃ (by kernel_rfl) (by kernel_rfl) (by kernel_rfl) (r_add fun r3 tk₇ => ?_)))) (by kernel_rfl)
  with_reducible refine args_cons (r_callD (f := 115) (o := obAt (KK w.params) 115) (fd := fnAt (KK w.params) 115) X₃ (by kernel_rfl) (by kernel_rfl) (by kernel_rfl) (by kernel_rfl) (by kernel_rfl) (by kernel_rfl) (by kernel_rfl) ?_) (by kernel_rfl)
  with_reducible refine args_cons (r_name (v := .ref dt) g n₃ (by kernel_rfl) (by kernel_rfl) (by kernel_rfl) ?_) (by kernel_rfl)
  with_reducible refine args_cons (r_name (v := .ref ds) g n₃ (by kernel_rfl) (by kernel_rfl) (by kernel_rfl) ?_) (by kernel_rfl)
  refine args_nil ⟨X₃ _ _ (by kernel_rfl), ?_⟩
  have ht₃ : h₃.DictAt (SK w) dt (intPairs tv) et := ht.keep fun b o e => N₃.old e (by simp)
  have hs₃ : h₃.DictAt (SK w) ds (intPairs sv) es := hs.keep fun b o e => N₃.old e (by simp)
  with_reducible refine add_callers X₃ hroom hh' ht₃ hs₃ h1 h2 h3 fun h₄ tk₈ dn on rv D io hrv hdn => ?_
  have N₄ := N₃.pure D
  refine args_nil ⟨by show 5 ≤ sizeLine; rw [sizeLine_eq]; lia, ?_⟩
  have N₅ := N₄.alloc { cls := .type "tuple", data := .seq #[.int (b0 + a0) r0, .int (b1 + a1) r1, .int (b2 + a2) r2, .int (b3 + a3) r3, .ref dn] } rfl
  exact hQ _ tk₈ dn on rv _ _ r0 r1 r2 r3 (N₅.sub (.cons_cons _ (.cons_cons _ (List.nil_sublist _)))) rfl io hrv hdn (kk_size (kk_keep X N₄ (by simp)))
end
end
section
open PySem PySem.W PySem.W.X PyProof.Rows PySem.Calls PySem.Spec
open LCg (NsObj)
set_option maxHeartbeats 400000
theorem Now.more {hb h : Heap} {obs olds : List (Addr × Obj)} (N : Now hb [] h obs) (hat : ∀ p ∈ olds, hb.get? p.1 = some p.2) (nd : (olds.map (·.1)).Nodup) : Now hb (olds.map (·.1)) h (obs ++ olds) where
  at_ := fun p hp => by
    rcases List.mem_append.mp hp with hp | hp
    · exact N.at_ p hp
    · exact N.keep _ _ (hat p hp) (fun z => nomatch z)
  nd := by
    rw [List.map_append]
    refine List.nodup_append.mpr ⟨N.nd, nd, fun a ha b hb' e => ?_⟩
    subst e
    obtain ⟨p, hp, rfl⟩ := List.mem_map.mp ha
    obtain ⟨q, hq, e⟩ := List.mem_map.mp hb'
    rcases N.ok p hp with z | z
    · cases z
    · have := hat q hq; rw [e, z] at this; cases this
  ok := fun p hp => by
    rcases List.mem_append.mp hp with hp | hp
    · rcases N.ok p hp with z | z
      · cases z
      · exact .inr z
    · exact .inl (List.mem_map_of_mem hp)
  keep := fun b o e _ => N.keep b o e (fun z => nomatch z)
  live := fun a ha => by
    obtain ⟨p, hp, rfl⟩ := List.mem_map.mp ha
    exact ⟨_, N.keep _ _ (hat p hp) (fun z => nomatch z)⟩
noncomputable abbrev listObj (items : Array Value) (n : Nat) : Obj := { cls := .type "list", data := .seq items n }
noncomputable abbrev instObj (C : Addr) (dl : Addr) : Obj := { cls := .ref C, dict := some dl, data := .plain }
theorem lookIn_of {od : Obj} {mL : Str → Option Value} {name : Str} (io : NsObj od mL) : lookIn name od = some (mL name) := by
  refine Classical.byContradiction fun hng => ?_
  obtain ⟨es, ep, hd, hk, hf⟩ := io
  refine hng ?_
  unfold lookIn
  rw [hd, ← hf name]
  unfold nsFind findBy
  rw [← Array.find?_toList]
  dsimp only
  cases q : es.toList.find? fun e => e.key.isStr name with
  | some en => rfl
  | none =>
    have : es.toList.any (·.refKey) = false := by
      rw [List.any_eq_false]
      intro en hen
      obtain ⟨k, t, ek⟩ := hk en (by simpa using hen)
      unfold DictEntry.refKey
      rw [ek]; simp
    simp only [this]; rfl
section
variable {w : World} {A : Around} {s : Shared} {h : Heap} {tk : Nat} {E : Value → Shared → Prop} {env : Env} {x dl : Addr} {od : Obj} {mL : Str → Option Value} {name : Str} {v : Value} {C : Addr}
theorem r_attr {expr : Bool} {Q : Value → Shared → Prop} (X : (KK w.params).In h) (hx : h.get? x = some (instObj C dl)) (hdl : h.get? dl = some od) (io : NsObj od mL)
    (hga : findIn (KK w.params) (.ref C) "__getattribute__" = some (some (.builtin "object.__getattribute__"))) (hcd : ((clsIn (KK w.params) C).map (·.hasDict)) = some true) (hn : findIn (KK w.params) (.ref C) name = some none)
    (hv : mL name = some v) (hh : handedIn v = true) (hq : ∀ tk', Q v (St s h tk')) : wpAny (MM w) A (getAttr (.ref x) name expr) Q E (St s h tk) := by
  have I : InstAt h x (instObj C dl) C (some od) := ⟨hx, rfl, rfl, hdl⟩
  refine get_value (s := St s h tk) X I hga ?_ hh (hq _)
  obtain ⟨cd, ec, hd⟩ := Option.map_eq_some_iff.mp hcd
  unfold findObj
  rw [ec, hn]
  simp only [Option.bind_some, W.ownOf, hd, if_true, lookIn_of io, hv]
theorem r_method {pl : Sem Bool} {Q : Value × List Value → Shared → Prop} {f : Addr} (X : (KK w.params).In h) (hx : h.get? x = some (instObj C dl)) (hdl : h.get? dl = some od) (io : NsObj od mL)
    (hga : findIn (KK w.params) (.ref C) "__getattribute__" = some (some (.builtin "object.__getattribute__"))) (hk : findIn (KK w.params) (.ref C) "__getattr__" = some none)
    (hf : findIn (KK w.params) (.ref C) name = some (some (.ref f))) (ht : typeIn (KK w.params) (.ref f) = some (.type "function")) (hv : mL name = none) (hq : Q (.ref f, [.ref x]) (St s h tk)) :
    wpAny (MM w) A (getMethod (.ref x) name pl) Q E (St s h tk) := by
  have I : InstAt h x (instObj C dl) C (some od) := ⟨hx, rfl, rfl, hdl⟩
  exact method_fn (s := St s h tk) X I hga hk hf ht (by show (lookIn name od).map _ = _; rw [lookIn_of io, hv]; rfl) hq
end
noncomputable def bPush : List Stmt := defBody "push_token" (clsBody "_netrclex" PR.main.body)
section
variable {w : World} {A : Around} {s : Shared} {E : Value → Shared → Prop} {Q : Value → Shared → Prop} {h : Heap} {tk : Nat}
theorem push_token (X : (KK w.params).In h) (hroom : A.depth < recursionLimit) (hh : A.handled = none) {lx dl q : Addr} {od : Obj} {mL : Str → Option Value} {items : Array Value} {n : Nat} {v : Value}
    (hx : h.get? lx = some (instObj 69 dl)) (hdl : h.get? dl = some od) (io : NsObj od mL) (hpb : mL (S "pushback") = some (.ref q)) (hq : h.get? q = some (listObj items n)) (hq1 : Lo q) (hsz : items.size ≤ 1000) (hqd : q ≠ dl) (hqx : q ≠ lx)
    (hQ : ∀ h' tk', Now h [q] h' [(q, listObj (items.push v) (n + 1))] → Q .none (St s h' tk')) :
    wpAny (MM w) A (call (.ref 66) [.ref lx, v]) Q E (St s h tk) := by
  refine callF (s := St s h tk) X hroom (o := obAt (KK w.params) 66) (fd := fnAt (KK w.params) 66) (body := bPush) (binds := [(S "self", .ref lx), (S "token", v)]) (by kernel_rfl) (by kernel_rfl) (by kernel_rfl) (by kernel_rfl) (by kernel_rfl) (by kernel_rfl) (by kernel_rfl) (by kernel_rfl) (by kernel_rfl) (by kernel_rfl) ?_
  intro h₁ oL E' N nL
  conv => arg 3; arg 1; whnf
  show wpAny _ _ _ _ _ (St s h₁ _)
  generalize h.objs.size = L at N ⊢
  have N₁ := N.more (olds := [(q, listObj items n)]) (fun p hp => by rcases List.mem_singleton.mp hp with rfl; exact hq) (by simp)
  have X₁ : (KK w.params).In h₁ := kk_keep X N (by simp)
  have g := N₁.get 0 rfl
  refine wpAny_execs_cons (wpAny_Expr (MethodCall_ ?_) (by kernel_rfl) (by kernel_rfl))
  refine Attribute_name (r_name (v := .ref lx) g nL (by kernel_rfl) (by kernel_rfl) (by kernel_rfl) ?_)
  refine r_attr X₁ (N.old hx (by simp)) (N.old hdl (by simp)) io (by kernel_rfl) (by kernel_rfl) (by kernel_rfl) hpb (by rfl) fun tk₂ => ?_
  refine getMethod_builtin (T := "list") ⟨_, N₁.get 1 rfl, rfl⟩ F.plainAttrs_list F.slot_list_append F.type_list_append (fun a e => by cases e; exact ⟨_, N₁.get 1 rfl, rfl⟩) ?_
  refine callWith_method1 ?_ (by kernel_rfl) (by kernel_rfl)
  refine args_cons (r_name (v := v) g nL (by kernel_rfl) (by kernel_rfl) (by kernel_rfl) ?_) (by kernel_rfl)
  refine args_nil ?_
  refine append_at (N₁.get 1 rfl) (fun h₂ hs₂ e₂ => ?_) (by rw [sizeLine_eq]; lia)
  exact wpAny_execs_nil (hQ h₂ _ ((N₁.same 1 rfl hs₂ e₂).sub (.cons _ (List.Sublist.refl _))))
end
end
section
open PySem PySem.W PySem.W.X PyProof.Rows PySem.Calls PySem.Spec
open LCg (NsObj)
set_option maxHeartbeats 400000
noncomputable def bGet : List Stmt := defBody "get_token" (clsBody "_netrclex" PR.main.body)
section
variable {w : World} {A : Around} {s : Shared} {E : Value → Shared → Prop} {Q : Value → Shared → Prop} {h : Heap} {tk : Nat}
theorem get_pop (X : (KK w.params).In h) (hroom : A.depth < recursionLimit) {lx dl q : Addr} {od : Obj} {mL : Str → Option Value} {rest : List Value} {n : Nat} {v : Value}
    (hx : h.get? lx = some (instObj 69 dl)) (hdl : h.get? dl = some od) (io : NsObj od mL) (hpb : mL (S "pushback") = some (.ref q)) (hq : h.get? q = some (listObj (v :: rest).toArray n)) (hsz : rest.length ≤ 1000)
    (hQ : ∀ h' tk' n', Now h [q] h' [(q, listObj rest.toArray n')] → Q v (St s h' tk')) :
    wpAny (MM w) A (call (.ref 59) [.ref lx]) Q E (St s h tk) := by
  refine callF (s := St s h tk) X hroom (o := obAt (KK w.params) 59) (fd := fnAt (KK w.params) 59) (body := bGet) (binds := [(S "self", .ref lx)]) (by kernel_rfl) (by kernel_rfl) (by kernel_rfl) (by kernel_rfl) (by kernel_rfl) (by kernel_rfl) (by kernel_rfl) (by kernel_rfl) (by kernel_rfl) (by kernel_rfl) ?_
  intro h₁ oL E' N nL
  conv => arg 3; arg 1; whnf
  show wpAny _ _ _ _ _ (St s h₁ _)
  generalize h.objs.size = L at N ⊢
  have N₁ := N.more (olds := [(q, listObj (v :: rest).toArray n)]) (fun p hp => by rcases List.mem_singleton.mp hp with rfl; exact hq) (by simp)
  have X₁ : (KK w.params).In h₁ := kk_keep X N (by simp)
  have g := N₁.get 0 rfl
  refine wpAny_execs_cons (wpAny_If (isTrue_plain (Attribute_name (r_name (v := .ref lx) g nL (by kernel_rfl) (by kernel_rfl) (by kernel_rfl) ?_)) (by kernel_rfl)))
  refine r_attr X₁ (N.old hx (by simp)) (N.old hdl (by simp)) io (by kernel_rfl) (by kernel_rfl) (by kernel_rfl) hpb (by rfl) fun tk₂ => ?_
  refine wpAny_truthy_list (items := (v :: rest).toArray) ⟨_, N₁.get 1 rfl, rfl, n, rfl⟩ (by simp only [List.size_toArray, List.length_cons]; lia) ?_
  have e : (!(v :: rest).toArray.isEmpty) = true := by simp
  rw [e, if_pos rfl]
  refine wpAny_execs_cons (wpAny_Return_some (MethodCall_ ?_))
  refine Attribute_name (r_name (s := s) (v := .ref lx) g nL (by kernel_rfl) (by kernel_rfl) (by kernel_rfl) ?_)
  refine r_attr X₁ (N.old hx (by simp)) (N.old hdl (by simp)) io (by kernel_rfl) (by kernel_rfl) (by kernel_rfl) hpb (by rfl) fun tk₃ => ?_
  refine getMethod_builtin (T := "list") ⟨_, N₁.get 1 rfl, rfl⟩ F.plainAttrs_list F.slot_list_pop F.type_list_pop (fun a e => by cases e; exact ⟨_, N₁.get 1 rfl, rfl⟩) ?_
  refine callWith_method1 ?_ (by kernel_rfl) (by kernel_rfl)
  refine args_cons (r_int fun t tk₄ => ?_) (by kernel_rfl)
  refine args_nil ?_
  refine call_meets F.slot_list_pop ⟨_, N₁.get 1 rfl, rfl⟩ F.entry_list_pop (F.args_list_pop_2 _ _) (MeetsSeq.list_pop_at q (v :: rest).toArray n 0 t 0 v (by rfl) (by simp [seqIndex?]) (by simp) (by rw [sizeLine_eq]; simp only [List.size_toArray, List.length_cons]; lia)) ⟨N₁.get 1 rfl, ?_⟩
  have e₂ : (h₁.update q (Obj.mapSeq fun xs => xs.eraseIdxIfInBounds 0)).get? q = some (listObj rest.toArray (n + 1)) := by
    rw [Heap.get?_update_self _ (N₁.get 1 rfl) rfl]
    simp [Obj.mapSeq, Array.eraseIdxIfInBounds]
  exact hQ _ _ _ ((N₁.same 1 rfl (Heap.SameBut.update ..) e₂).sub (.cons _ (List.Sublist.refl _)))
end
end
section
open PySem PySem.W PySem.W.X PyProof.Rows PySem.Calls PySem.Spec PyProof
open LCg (NsObj)
set_option maxHeartbeats 400000
noncomputable def defPar (n : String) (b : List Stmt) : Arguments := match b with
  | [] => default
  | .FunctionDef m a .. :: r => if m == Str.ofString n then a else defPar n r
  | _ :: r => defPar n r
noncomputable def defSc (n : String) (b : List Stmt) : Scope := match b with
  | [] => default
  | .FunctionDef m _ _ _ _ _ sc _ _ _ :: r => if m == Str.ofString n then sc else defSc n r
  | _ :: r => defSc n r
noncomputable def bStream : List Stmt := defBody "_law_stream" PR.main.body
noncomputable def bRead : List Stmt := defBody "read" bStream
noncomputable def scRead : Scope := defSc "read" bStream
noncomputable def pRead : Arguments := defPar "read" bStream
noncomputable def LsObj (o : Obj) (items : Array Value) : Prop := o.cls = .type "list" ∧ ∃ n, o.data = .seq items n
theorem LsObj.is {o : Obj} {items : Array Value} {h : Heap} {a : Addr} (x : LsObj o items) (e : h.get? a = some o) : h.IsList a items := ⟨o, e, x.1, x.2⟩
/-- the reader's function -/
structure RdFn (h : Heap) (rd cp ct : Addr) (fd : FuncData) : Prop where
  at_ : ∃ o, h.get? rd = some o ∧ o.data = .func fd
  body : fd.body = .stmts bRead
  scope : fd.scope = scRead
  params : fd.params = pRead
  dflt : fd.defaults = .none
  kwd : fd.kwdefaults = .none
  clp : fd.closure.lookup (S "place") = some cp
  clt : fd.closure.lookup (S "text") = some ct
  code : h.CodeRec fd.code fd.qualname
section
variable {w : World} {A : Around} {s : Shared} {E : Value → Shared → Prop} {Q : Value → Shared → Prop} {h : Heap} {tk : Nat}
theorem r_free {env : Env} {x : Str} {c : Addr} {v : Value} {pos : Pos} (hk : env.scope.kind = .function) (hl : env.kindOf x = some .free)
    (hc : env.cells.lookup x = some c) (hv : h.IsCell c (some v)) (hq : Q v (St s h tk)) (hn : (x == ("__classdict__" : Str)) = false := by decide) (hd : (x == ("__debug__" : Str)) = false := by decide) :
    wpAny (MM w) A (eval (.Name x pos) env) Q E (St s h tk) := wpAny_Name (wpAny_loadName_free hk hl hc hv hq hn) hd
theorem read_spec (X : (KK w.params).In h) (hroom : A.depth < recursionLimit) {rd cp ct pl : Addr} {fd : FuncData} {tx : Str} {u t0 t1 : Tok} {p : Int} {opl : Obj}
    (F : RdFn h rd cp ct fd) (hcp : h.IsCell cp (some (.ref pl))) (hct : h.IsCell ct (some (.str tx u))) (hpl : h.get? pl = some opl) (hol : LsObj opl #[.int p t0]) (hpc : pl ≠ cp) (hpt : pl ≠ ct)
    (htx : tx.length ≤ 1000)
    (hQ : ∀ h' tk' t2 t3 opl', Now h [pl] h' [(pl, opl')] → LsObj opl' #[.int (p + 1) t2] → Q (.str (Txt.slice tx (some p) (some (p + 1))) t3) (St s h' tk')) :
    wpAny (MM w) A (call (.ref rd) [.int 1 t1]) Q E (St s h tk) := by
  refine Classical.byContradiction fun hng => ?_
  obtain ⟨⟨o, ho, hdat⟩, e1, e2, e3, e4, e5, c1, c2, hcd⟩ := F
  refine hng ?_
  refine Classical.byContradiction fun hng => ?_
  obtain ⟨nm, qn, par, bd, sc, gl, cl, df, kd, doc, md, an, cd, ctp, bu⟩ := fd
  refine hng ?_
  simp only at e1 e2 e3 e4 e5 c1 c2 hcd
  subst e1 e2 e3 e4 e5
  refine wpAny_call (codeAny_call_def (s := St s h tk) (binds := [(S "size", .int 1 t1)]) (body := bRead) hroom ho hdat (kk_limit X) hcd rfl (@BindsTo.of_eq (St s h tk) _ _ _ (by kernel_rfl)) (fun x hx => by
      have : (scRead.names.all fun x => !decide (x.2 = .cell)) = true := by kernel_rfl
      simpa using List.all_eq_true.mp this x hx) (locs (by kernel_rfl)) (fun h₁ hns hk₁ => ?_) (by kernel_rfl) (by kernel_rfl) (by kernel_rfl))
  obtain ⟨oL, eL, nL⟩ := LCg.ns_obj hns
  have N : Now h [] h₁ [(h.objs.size, oL)] := by
    refine ⟨fun p hp => ?_, ?_, fun p hp => ?_, fun b ob e _ => hk₁ b ob e, fun _ h => (nomatch h)⟩
    · rcases List.mem_singleton.mp hp with rfl; exact eL
    · simp
    · rcases List.mem_singleton.mp hp with rfl; exact .inr (get?_size _)
  conv => arg 3; arg 1; whnf
  show wpAny _ _ _ _ _ (St s h₁ _)
  have hcell : ∀ c v, h.IsCell c (some v) → h₁.IsCell c (some v) := fun c v x => x.keeps hk₁
  have N₁ := N.more (olds := [(pl, opl)]) (fun p hp => by rcases List.mem_singleton.mp hp with rfl; exact hpl) (by simp)
  have g := N₁.get 0 rfl
  clear hns eL
  generalize h.objs.size = L at N N₁ g ⊢
  refine wpAny_execs_cons (wpAny_AugAssign_Subscript_any (r_free (by kernel_rfl) (by kernel_rfl) c1 (hcell _ _ hcp) ?_))
  refine r_int fun t2 tk2 => ?_
  refine wpAny_getItem_list (items := #[.int p t0]) (hol.is (N₁.get 1 rfl)) (by decide) (by decide) rfl ?_
  refine r_name (v := .int 1 t1) g nL (by kernel_rfl) (by kernel_rfl) (by kernel_rfl) ?_
  refine r_iadd fun t3 tk3 => ?_
  refine wpAny_setItem_list (hol.is (N₁.get 1 rfl)) (by decide) (by decide) (by simp) fun h₂ hl₂ hs₂ => ?_
  obtain ⟨o₂, e₂, il₂⟩ := hl₂
  have N₂ := N₁.same 1 rfl hs₂ e₂
  have hl₂ : LsObj o₂ #[.int (p + 1) t3] := il₂
  have hcell₂ : ∀ c v, c ≠ pl → h.IsCell c (some v) → h₂.IsCell c (some v) := fun c v hne x => (hcell c v x).sameBut hs₂ hne
  have g₂ : h₂.get? L = some oL := N₂.get 0 rfl
  have q₂ : h₂.get? pl = some o₂ := N₂.get 1 rfl
  refine wpAny_execs_cons (wpAny_Return_some (wpAny_Subscript_str_slice (r_free (s := s) (by kernel_rfl) (by kernel_rfl) c2 (hcell₂ _ _ hpt.symm hct) ?_)))
  refine evalPart_some_step (wpAny_BinOp (Subscript_ (r_free (s := s) (by kernel_rfl) (by kernel_rfl) c1 (hcell₂ _ _ hpc.symm hcp) (r_int fun t4 tk4 => ?_))))
  refine item_list (hl₂.is q₂) (by decide) (by decide) rfl ?_
  refine r_name (s := s) (v := .int 1 t1) g₂ nL (by kernel_rfl) (by kernel_rfl) (by kernel_rfl) ?_
  refine PyProof.Rows.sub_int ?_
  refine evalPart_some_step (Subscript_ (r_free (s := s) (by kernel_rfl) (by kernel_rfl) c1 (hcell₂ _ _ hpc.symm hcp) (r_int fun t5 tk5 => ?_)))
  refine item_list (hl₂.is q₂) (by decide) (by decide) rfl ?_
  refine ⟨tx, u, some (_, _), some (_, _), rfl, rfl, rfl, ?_⟩
  have e : p + 1 - 1 = p := by lia
  rw [e]
  have N₃ := (N₂.alloc { cls := .type "slice", data := .fields #[.int p tk4, .int (p + 1) t3, .none] } rfl).sub (obs' := [(pl, o₂)]) (.cons _ (.cons _ (List.Sublist.refl _)))
  unfold sliceMade
  split
  · rename_i hc
    have e' : Txt.slice tx (some p) (some (p + 1)) = tx := if_pos hc
    have := hQ _ tk5 t3 u o₂ N₃ hl₂
    rw [e'] at this
    exact this
  · rename_i hc
    have e' : Txt.slice tx (some p) (some (p + 1)) = ⟨((Builtin.Str.strSliceIndices (some p) (some (p + 1)) 1 tx.length).filterMap (tx.cps[·]?)).toArray⟩ := if_neg hc
    have hle := Txt.slice_le tx (some p) (some (p + 1))
    rw [e'] at hle hQ
    exact ⟨by rw [sizeLine_eq]; exact Nat.le_trans hle (by lia), hQ _ _ t3 _ o₂ N₃ hl₂⟩
end
end
section
open PySem PySem.W PySem.W.X PyProof.Rows PySem.Calls PySem.Spec PyProof
open LCg (NsObj)
set_option maxHeartbeats 1000000
theorem slot_fn_ga : Slot "function" "__getattribute__" "object.__getattribute__" := .of (owner := "object") (n := "__getattribute__") (by rw [typeLookup_type, builtinLookup_eq_fast]; kernel_rfl) (by decide +kernel) (by decide +kernel) (by decide +kernel)
    (by first | exact .inl (by decide +kernel) | exact .inr (by decide +kernel)) (by rw [isSubtype_type]; kernel_rfl)
theorem lk_fn_getattr : typeLookup (.type "function") "__getattr__" = pure none := by rw [typeLookup_type, builtinLookup_eq_fast]; kernel_rfl
theorem lk_fn_read : typeLookup (.type "function") "read" = pure none := by rw [typeLookup_type, builtinLookup_eq_fast]; kernel_rfl
section
variable {prog : Program} {w : World} {A : Around} {E : Value → Shared → Prop} {h : Heap} {g : Array GenState} {d : Drawn} {t : Nat} {os : OsState}
theorem fn_entry {x dx : Addr} {o : Obj} {f : FuncData} {m : Str → Option Value} {v : Value} {tk : Tok} {Q : Fin → Shared → Prop}
    (hx : h.get? x = some o) (hc : o.cls = .type "function") (hd : o.dict = some dx) (hf : o.data = .func f) (hns : h.Ns dx m) (hv : m "read" = some v) (hq : Q (.done (.ret v)) ⟨h, g, d, t, os⟩) :
    wpAny (model prog w) A (Builtin.«object.__getattribute__» ⟨[.ref x, .str "read" tk], []⟩) Q E ⟨h, g, d, t, os⟩ := by
  have hT : (⟨h, g, d, t, os⟩ : Shared).TypeIs (.ref x) "function" := ⟨o, hx, hc⟩
  have f1 := lk_fn_read
  repeat (any_goals (first | assumption | (with_reducible refine wpAny_loadPart_at hx ?_) | wp_step))
  rw [hf]
  dsimp only
  unfold instanceDict
  repeat (first | (with_reducible refine wpAny_loadPart_at hx ?_; rw [hc]) | wp_step)
  rw [hd]
  repeat (first | (with_reducible refine wpAny_nsGet hns ?_; rw [hv]) | assumption | wp_step)
theorem fn_call {x dx : Addr} {o : Obj} {f : FuncData} {m : Str → Option Value} {v : Value} {tk : Tok} {R : Result → Shared → Prop}
    (hx : h.get? x = some o) (hc : o.cls = .type "function") (hd : o.dict = some dx) (hf : o.data = .func f) (hns : h.Ns dx m) (hv : m "read" = some v) (hq : R (.ok (.ret v)) ⟨h, g, d, t, os⟩) :
    codeAny (model prog w) A (.call (.builtin "object.__getattribute__") ⟨[.ref x, .str "read" tk], []⟩) R ⟨h, g, d, t, os⟩ :=
  codeAny_call_builtin slot_fn_ga.plain F.entry_object_getattribute (slot_fn_ga.check _ _ _ _ _ _ _ _ (show (⟨h, g, d, t, os⟩ : Shared).TypeIs (.ref x) "function" from ⟨o, hx, hc⟩) (F.args_object_getattribute_2 _ _) (fn_entry hx hc hd hf hns hv hq))
theorem fn_read {pl : Sem Bool} {x dx : Addr} {o : Obj} {f : FuncData} {m : Str → Option Value} {v : Value} {Q : Value × List Value → Shared → Prop}
    (hx : h.get? x = some o) (hc : o.cls = .type "function") (hd : o.dict = some dx) (hf : o.data = .func f) (hns : h.Ns dx m) (hv : m "read" = some v) (hh : handedOut v = pure v)
    (hq : Q (v, []) ⟨h, g, d, t + 1, os⟩) :
    wpAny (model prog w) A (getMethod (.ref x) "read" pl) Q E ⟨h, g, d, t, os⟩ := by
  have hT : (⟨h, g, d, t, os⟩ : Shared).TypeIs (.ref x) "function" := ⟨o, hx, hc⟩
  have h2 := F.canon_object_ga
  have f1 := slot_fn_ga.lookup
  have f2 := slot_fn_ga.bind (.ref x)
  have f3 := lk_fn_getattr
  have f4 := lk_fn_read
  unfold getMethod
  repeat (any_goals (first | assumption | wp_step))
  rw [hc, f1]
  refine wpAny_pure ?_
  show wpAny _ _ (if (onTheHeap (.type "function") && Value.builtin "object.__getattribute__" == Value.builtin "object.__getattribute__") = true then _ else getAttrByItsOwn _ _ _ _ _ _) _ _ _
  rw [if_neg (by decide +kernel)]
  unfold getAttrByItsOwn
  refine wpAny_bind ?_
  show wpAny _ _ (pure none) _ _ _
  refine wpAny_pure (wpAny_bind (wpAny_attempt (wpAny_holding ?_)))
  show wpAny _ _ (boundAndCalled _ _ _) _ _ _
  unfold boundAndCalled
  refine wpAny_bind ?_
  rw [f2]
  refine wpAny_pure ?_
  refine wpAny_call (fn_call hx hc hd hf hns hv ?_)
  show wpAny _ _ (handedOut v) _ _ _
  rw [hh]
  exact wpAny_pure (wpAny_pure hq)
end
end
section
open PySem PySem.W PySem.W.X PyProof.Rows PySem.Calls PySem.Spec PyProof
open LCg (NsObj)
set_option maxHeartbeats 1000000
noncomputable def Ns1Obj (o : Obj) (m : Str → Option Value) : Prop := ∃ es ep, o.data = .dict es ep ∧ StrKeys es ∧ UniqKeys es ∧ ∀ name, nsFind es name = m name
theorem Ns1Obj.ns {o : Obj} {m : Str → Option Value} (x : Ns1Obj o m) : NsObj o m := let ⟨es, ep, a, b, _, c⟩ := x; ⟨es, ep, a, b, c⟩
theorem Ns1Obj.at {h : Heap} {a : Addr} {o : Obj} {m : Str → Option Value} (x : Ns1Obj o m) (e : h.get? a = some o) : h.Ns1 a m := let ⟨es, ep, r⟩ := x; ⟨o, es, ep, e, r⟩
section
variable {w : World} {A : Around} {s : Shared} {h : Heap} {tk : Nat} {E : Value → Shared → Prop} {hb : Heap} {ch : List Addr} {obs : List (Addr × Obj)} {x dl : Addr} {od : Obj} {m : Str → Option Value} {name : Str} {v : Value} {C : Addr}
theorem r_setattr {Q : Unit → Shared → Prop} {ns : List Str} (X : (KK w.params).In h) (N : Now hb ch h obs) (i : Nat) (hi : obs[i]? = some (dl, od)) (hx : h.get? x = some (instObj C dl)) (io : Ns1Obj od m) (hw : Within m ns) (hsz : ns.length ≤ 1000)
    (hs : findIn (KK w.params) (.ref C) "__setattr__" = some (some (.builtin "object.__setattr__"))) (hp : plainOver (KK w.params) C = true) (ht : takerIn (KK w.params) C name = some none) (hh : (clsIn (KK w.params) C).any (·.hasDict) = true)
    (hq : ∀ h' od' tk', Now hb ch h' (obs.set i (dl, od')) → Ns1Obj od' (up m name v) → Q () (St s h' tk')) : wpAny (MM w) A (setAttr (.ref x) name v) Q E (St s h tk) := by
  have hdl := N.get i hi
  have I : InstAt h x (instObj C dl) C (some od) := ⟨hx, rfl, rfl, hdl⟩
  refine set_plain (s := St s h tk) X I hs (osa_open (s := St s h (tk + 1)) X I hp ht fun b => ?_)
  obtain ⟨cd, hc, hd'⟩ := any_some hh
  refine wpAny_bind (wpAny_pure (wpAny_bind (wpAny_bind (wpAny_loadPart hx (wpAny_bind ((looks_clsIn X hc).here ?_))))))
  rw [hd']
  refine wpAny_pure (a := some dl) (wpAny_bind (wpAny_pure (wpAny_bind ?_)))
  refine wpAny_nsSet1 (io.at hdl) fun h' hn' hs' => ?_
  refine Classical.byContradiction fun hng => ?_
  obtain ⟨oD, esD, epD, hoD, hdD, hcD⟩ := hn'.count (Within.cons name v hw)
  refine hng ?_
  refine wpAny_bind (wpAny_lookBehind hoD (by rw [hdD]; exact pastItsLine_dict (Nat.le_trans hcD (by rw [List.length_cons, sizeLine_eq]; omega))) ?_)
  refine Classical.byContradiction fun hng => ?_
  obtain ⟨o', es, ep, e1, e2⟩ := hn'
  refine hng ?_
  exact wpAny_pure (hq h' o' _ (N.same i hi hs' e1) ⟨es, ep, e2⟩)
end
end
section
open PySem PySem.W PySem.W.X PyProof.Rows PySem.Calls PySem.Spec PyProof
open LCg (NsObj)
set_option maxHeartbeats 400000
set_option genInjectivity false
set_option genSizeOfSpec false
theorem Now.step {hb h h' : Heap} {ch cd : List Addr} {obs news obs' : List (Addr × Obj)} (N : Now hb ch h obs) (D : Now h cd h' news) (hc : ∀ a ∈ cd, a ∈ obs.map (·.1))
    (ho : ∀ p ∈ obs', p ∈ news ∨ (p ∈ obs ∧ p.1 ∉ cd)) (nd : (obs'.map (·.1)).Nodup) : Now hb ch h' obs' where
  at_ := fun p hp => by
    rcases ho p hp with z | ⟨z, z'⟩
    · exact D.at_ p z
    · exact D.keep _ _ (N.at_ p z) z'
  nd := nd
  ok := fun p hp => by
    rcases ho p hp with z | ⟨z, z'⟩
    · rcases D.ok p z with y | y
      · obtain ⟨q, hq, e⟩ := List.mem_map.mp (hc _ y)
        rw [← e]; exact N.ok q hq
      · exact .inr (N.fresh_of_le y)
    · exact N.ok p z
  keep := fun b o e hn => D.keep b o (N.keep b o e hn) fun hm => by
    obtain ⟨q, hq, e'⟩ := List.mem_map.mp (hc _ hm)
    rcases N.ok q hq with z | z
    · exact hn (e' ▸ z)
    · rw [e', e] at z; cases z
  live := fun a ha => by
    by_cases hm : a ∈ cd
    · exact D.live a hm
    · obtain ⟨o, e⟩ := N.live a ha
      exact ⟨o, D.keep a o e hm⟩
/-- the lexer's parts -/
structure Lx where
  (lx dl st ds rd cp ct cd pl q : Addr)
  (ost ods ord ocp oct ocd : Obj)
  (fl fd : FuncData)
  (tx : Str)
  (u : Tok)
  (ms : Str → Option Value)
structure Lx.Ok (l : Lx) : Prop where
  st1 : l.ost.cls = .type "function"
  st2 : l.ost.dict = some l.ds
  st3 : l.ost.data = .func l.fl
  ds : NsObj l.ods l.ms
  rd : l.ms (S "read") = some (.ref l.rd)
  rd1 : l.ord.data = .func l.fd
  body : l.fd.body = .stmts bRead
  scope : l.fd.scope = scRead
  params : l.fd.params = pRead
  dflt : l.fd.defaults = .none
  kwd : l.fd.kwdefaults = .none
  clp : l.fd.closure.lookup (S "place") = some l.cp
  clt : l.fd.closure.lookup (S "text") = some l.ct
  cp : l.ocp.data = .cell (some (.ref l.pl))
  ct : l.oct.data = .cell (some (.str l.tx l.u))
  cd : l.fd.code = .ref l.cd
  cd1 : ∃ vs t, l.ocd.data = .fields vs ∧ vs[1]? = some (.str l.fd.qualname t)
  off : ∀ a ∈ [l.lx, l.st, l.ds, l.rd, l.cp, l.ct, l.cd], a ∉ [l.dl, l.pl, l.q]
  nd : [l.dl, l.pl, l.q].Nodup
  len : l.tx.length ≤ 1000
  hi : ∀ a ∈ [l.dl, l.pl, l.q], Lo a
noncomputable def Lx.fixed (l : Lx) : List (Addr × Obj) := [(l.lx, instObj 69 l.dl), (l.st, l.ost), (l.ds, l.ods), (l.rd, l.ord), (l.cp, l.ocp), (l.ct, l.oct), (l.cd, l.ocd)]
noncomputable def Lx.In (l : Lx) (h : Heap) : Prop := ∀ p ∈ l.fixed, h.get? p.1 = some p.2
theorem Lx.In.keep {l : Lx} (k : l.Ok) {h h' : Heap} (x : l.In h) (hk : ∀ b o, h.get? b = some o → b ∉ [l.dl, l.pl, l.q] → h'.get? b = some o) : l.In h' := fun p hp =>
  hk _ _ (x p hp) (k.off p.1 (by
    have e : l.fixed.map (·.1) = [l.lx, l.st, l.ds, l.rd, l.cp, l.ct, l.cd] := rfl
    rw [← e]; exact List.mem_map_of_mem hp))
theorem Lx.In.at {l : Lx} {h : Heap} (x : l.In h) (i : Nat) {a : Addr} {o : Obj} (e : l.fixed[i]? = some (a, o)) : h.get? a = some o := x (a, o) (List.mem_of_getElem? e)
theorem Lx.rdfn {l : Lx} (k : l.Ok) {h : Heap} (x : l.In h) : RdFn h l.rd l.cp l.ct l.fd := by
  refine ⟨⟨_, x.at 3 rfl, k.rd1⟩, k.body, k.scope, k.params, k.dflt, k.kwd, k.clp, k.clt, ?_⟩
  refine Classical.byContradiction fun hng => ?_
  obtain ⟨vs, t, a, b⟩ := k.cd1
  refine hng ?_
  exact ⟨l.cd, l.ocd, vs, t, k.cd, x.at 6 rfl, a, b⟩
noncomputable abbrev lexNames : List Str := [S "lineno", S "instream", S "whitespace", S "pushback"]
structure LexMap (l : Lx) (m : Str → Option Value) (ln : Int) : Prop where
  ln : ∃ t, m (S "lineno") = some (.int ln t)
  st : m (S "instream") = some (.ref l.st)
  ws : ∃ t, m (S "whitespace") = some (.str (S "\n\t\r ") t)
  pb : m (S "pushback") = some (.ref l.q)
  only : Within m lexNames
noncomputable def bRdCh : List Stmt := defBody "_read_char" (clsBody "_netrclex" PR.main.body)
noncomputable def chAt (tx : Str) (p : Int) : Str := Txt.slice tx (some p) (some (p + 1))
noncomputable def lnUp (c : Str) (ln : Int) : Int := if c == S "\n" then ln + 1 else ln
section
variable {w : World} {A : Around} {s : Shared} {E : Value → Shared → Prop} {Q : Value → Shared → Prop} {h : Heap} {tk : Nat}
theorem read_charC {R : Result → Shared → Prop} (X : (KK w.params).In h) (hroom : A.depth + 1 < recursionLimit) {l : Lx} (k : l.Ok) (I : l.In h) {od opl : Obj} {m : Str → Option Value} {ln p : Int} {t0 : Tok}
    (hdl : h.get? l.dl = some od) (io : Ns1Obj od m) (lm : LexMap l m ln) (hpl : h.get? l.pl = some opl) (hol : LsObj opl #[.int p t0])
    (hQ : ∀ h' tk' t2 t3 od' opl' m', Now h [l.dl, l.pl] h' [(l.dl, od'), (l.pl, opl')] → Ns1Obj od' m' → LexMap l m' (lnUp (chAt l.tx p) ln) → LsObj opl' #[.int (p + 1) t2] → R (.ok (.ret (.str (chAt l.tx p) t3))) (St s h' tk')) :
    codeAny (MM w) A (.call (.ref 52) ⟨[.ref l.lx], []⟩) R (St s h tk) := by
  refine enter (s := St s h tk) X (by lia) (o := obAt (KK w.params) 52) (fd := fnAt (KK w.params) 52) (body := bRdCh) (binds := [(S "self", .ref l.lx)]) (by kernel_rfl) (by kernel_rfl) (by kernel_rfl) (by kernel_rfl) (by kernel_rfl) (by kernel_rfl) (by kernel_rfl) ?_ (by kernel_rfl) (by kernel_rfl) (by kernel_rfl)
  intro h₁ oL N nL
  conv => arg 3; arg 1; whnf
  show wpAny _ _ _ _ _ (St s h₁ _)
  generalize h.objs.size = L at N ⊢
  have hdp : l.dl ≠ l.pl := by have := k.nd; simp at this; exact this.1.1
  have N₁ := N.more (olds := [(l.dl, od), (l.pl, opl)]) (fun p hp => by
    rcases List.mem_cons.mp hp with rfl | hp
    · exact hdl
    · rcases List.mem_singleton.mp hp with rfl; exact hpl) (by simpa using hdp)
  have X₁ : (KK w.params).In h₁ := kk_keep X N (by simp)
  have I₁ : l.In h₁ := I.keep k fun b o e _ => N.keep b o e (by simp)
  have g := N₁.get 0 rfl
  refine wpAny_execs_cons (wpAny_Assign_Name (MethodCall_ ?_) (by kernel_rfl))
  refine Attribute_name (r_name (s := s) (v := .ref l.lx) g nL (by kernel_rfl) (by kernel_rfl) (by kernel_rfl) ?_)
  refine r_attr X₁ (I₁.at 0 rfl) (N₁.get 1 rfl) io.ns (by kernel_rfl) (by kernel_rfl) (by kernel_rfl) lm.st (by rfl) fun tk₂ => ?_
  refine fn_read (I₁.at 1 rfl) k.st1 k.st2 k.st3 (k.ds.ns (I₁.at 2 rfl)) k.rd (by rfl) ?_
  refine callWith_def k.rd1 ?_ (by kernel_rfl)
  refine args_cons (r_int (s := s) fun t tk₄ => ?_) (by kernel_rfl)
  refine args_nil ⟨I₁.at 3 rfl, ?_⟩
  have hpc : l.pl ≠ l.cp := fun e => k.off l.cp (by simp) (by rw [← e]; simp)
  have hpt : l.pl ≠ l.ct := fun e => k.off l.ct (by simp) (by rw [← e]; simp)
  refine read_spec X₁ (by show A.depth + 1 < _; exact hroom) (Lx.rdfn k I₁) ⟨_, I₁.at 4 rfl, k.cp⟩ ⟨_, I₁.at 5 rfl, k.ct⟩ (N₁.get 2 rfl) hol hpc hpt k.len fun h₂ tk₅ t2 t3 opl' D₂ hol₂ => ?_
  have N₂ : Now h [l.dl, l.pl] h₂ [(L, oL), (l.dl, od), (l.pl, opl')] := N₁.one 2 rfl D₂
  have hc : Txt.slice l.tx (some p) (some (p + 1)) = chAt l.tx p := rfl
  rw [hc]
  generalize hcc : chAt l.tx p = c
  rw [hcc] at hQ
  refine r_store N₂ 0 rfl nL (by kernel_rfl) (by kernel_rfl) fun h₃ o₃ tk₃ N₃ n₃ => ?_
  replace N₃ : Now h [l.dl, l.pl] h₃ [(L, o₃), (l.dl, od), (l.pl, opl')] := N₃
  have keep₃ : ∀ b o, h.get? b = some o → b ∉ [l.dl, l.pl, l.q] → h₃.get? b = some o := fun b o e hn => N₃.keep b o e fun hm => hn (by
    rcases List.mem_cons.mp hm with rfl | hm
    · simp
    · rcases List.mem_singleton.mp hm with rfl; simp)
  have X₃ : (KK w.params).In h₃ := kk_keep X N₃ fun a ha => k.hi a (by
    rcases List.mem_cons.mp ha with rfl | ha
    · simp
    · rcases List.mem_singleton.mp ha with rfl; simp)
  have I₃ : l.In h₃ := I.keep k keep₃
  have g₃ := N₃.get 0 rfl
  refine wpAny_execs_cons (wpAny_If (wpAny_isTrue_Compare1 (r_name (s := s) (v := .str c t3) g₃ n₃ (up_self _ _ _) (by kernel_rfl) (by kernel_rfl) ?_) (by kernel_rfl)))
  refine r_str (s := s) fun t4 tk4 => ?_
  refine PyProof.Rows.eq_str (wpAny_truthy_bool ?_)
  by_cases hn : (c == S "\n") = true
  · have e1 : lnUp c ln = ln + 1 := if_pos hn
    rw [e1] at hQ
    rw [show (c == Str.ofString "\n") = true from hn, if_pos rfl]
    refine wpAny_execs_cons (wpAny_AugAssign_AttributeAny (r_name (s := s) (v := .ref l.lx) g₃ n₃ ((up_ne (by kernel_rfl)).trans (by kernel_rfl)) (by kernel_rfl) (by kernel_rfl) ?_))
    obtain ⟨tl, el⟩ := lm.ln
    refine r_attr X₃ (I₃.at 0 rfl) (N₃.get 1 rfl) io.ns (by kernel_rfl) (by kernel_rfl) (by kernel_rfl) el (by rfl) fun tk₆ => ?_
    refine r_int (s := s) fun t5 tk5 => ?_
    refine r_iadd (s := s) fun t6 tk6 => ?_
    refine r_setattr X₃ N₃ 1 rfl (I₃.at 0 rfl) io lm.only (by decide) (by kernel_rfl) (by kernel_rfl) (by kernel_rfl) (by kernel_rfl) fun h₄ od₄ tk7 N₄ io₄ => ?_
    replace N₄ : Now h [l.dl, l.pl] h₄ [(L, o₃), (l.dl, od₄), (l.pl, opl')] := N₄
    refine wpAny_execs_nil ?_
    refine wpAny_execs_cons (wpAny_Return_some (r_name (s := s) (v := .str c t3) (N₄.get 0 rfl) n₃ (up_self _ _ _) (by kernel_rfl) (by kernel_rfl) ?_))
    refine hQ h₄ _ _ _ _ _ _ (N₄.sub (.cons _ (List.Sublist.refl _))) io₄ ⟨⟨t6, up_self _ _ _⟩, (up_ne (by kernel_rfl)).trans lm.st, ?_, (up_ne (by kernel_rfl)).trans lm.pb, ?_⟩ hol₂
    · obtain ⟨tw, ew⟩ := lm.ws
      exact ⟨tw, (up_ne (by kernel_rfl)).trans ew⟩
    · intro y hy
      by_cases e : y = S "lineno"
      · subst e; exact .head _
      · exact lm.only y (by unfold up at hy; rw [if_neg e] at hy; exact hy)
  · have e1 : lnUp c ln = ln := if_neg hn
    rw [e1] at hQ
    rw [Bool.not_eq_true] at hn
    rw [show (c == Str.ofString "\n") = false from hn, if_neg (by decide)]
    refine wpAny_execs_nil ?_
    refine wpAny_execs_cons (wpAny_Return_some (r_name (s := s) (v := .str c t3) g₃ n₃ (up_self _ _ _) (by kernel_rfl) (by kernel_rfl) ?_))
    exact hQ h₃ _ _ _ _ _ _ (N₃.sub (.cons _ (List.Sublist.refl _))) io lm hol₂
theorem read_char (X : (KK w.params).In h) (hroom : A.depth + 1 < recursionLimit) {l : Lx} (k : l.Ok) (I : l.In h) {od opl : Obj} {m : Str → Option Value} {ln p : Int} {t0 : Tok}
    (hdl : h.get? l.dl = some od) (io : Ns1Obj od m) (lm : LexMap l m ln) (hpl : h.get? l.pl = some opl) (hol : LsObj opl #[.int p t0])
    (hQ : ∀ h' tk' t2 t3 od' opl' m', Now h [l.dl, l.pl] h' [(l.dl, od'), (l.pl, opl')] → Ns1Obj od' m' → LexMap l m' (lnUp (chAt l.tx p) ln) → LsObj opl' #[.int (p + 1) t2] → Q (.str (chAt l.tx p) t3) (St s h' tk')) :
    wpAny (MM w) A (call (.ref 52) [.ref l.lx]) Q E (St s h tk) := wpAny_call (read_charC X hroom k I hdl io lm hpl hol hQ)
end
end
section
open PySem PySem.W PySem.W.X PyProof.Rows PySem.Calls PySem.Spec PyProof
open LCg (NsObj)
set_option maxHeartbeats 1000000
theorem Now.add {hb h : Heap} {ch : List Addr} {obs : List (Addr × Obj)} (N : Now hb ch h obs) {a : Addr} {o : Obj} (e : hb.get? a = some o) (hn : a ∉ ch) : Now hb (ch ++ [a]) h (obs ++ [(a, o)]) where
  at_ := fun p hp => by
    rcases List.mem_append.mp hp with hp | hp
    · exact N.at_ p hp
    · rcases List.mem_singleton.mp hp with rfl; exact N.keep _ _ e hn
  nd := by
    rw [List.map_append]
    refine List.nodup_append.mpr ⟨N.nd, by simp, fun x hx y hy q => ?_⟩
    subst q
    obtain ⟨p, hp, rfl⟩ := List.mem_map.mp hx
    have q : p.1 = a := by simpa using hy
    rcases N.ok p hp with z | z
    · exact hn (q ▸ z)
    · rw [q, e] at z; cases z
  ok := fun p hp => by
    rcases List.mem_append.mp hp with hp | hp
    · rcases N.ok p hp with z | z
      · exact .inl (List.mem_append_left _ z)
      · exact .inr z
    · rcases List.mem_singleton.mp hp with rfl; exact .inl (by simp)
  keep := fun b ob eb hm => N.keep b ob eb fun z => hm (List.mem_append_left _ z)
  live := fun b hb' => by
    rcases List.mem_append.mp hb' with z | z
    · exact N.live b z
    · rcases List.mem_singleton.mp z with rfl; exact ⟨o, N.keep _ _ e hn⟩
theorem slot_ci_next : Slot "callable_iterator" "__next__" "callable_iterator.__next__" := .of (owner := "callable_iterator") (n := "__next__") (by rw [typeLookup_type, builtinLookup_eq_fast]; kernel_rfl) (by decide +kernel) (by decide +kernel) (by decide +kernel)
    (by first | exact .inl (by decide +kernel) | exact .inr (by decide +kernel)) (by rw [isSubtype_type]; kernel_rfl)
theorem entry_ci_next : entryFor table "callable_iterator.__next__" = some Builtin.«callable_iterator.__next__» := entryFor_of_tree (by kernel_rfl)
theorem args_ci_next (a : Value) : argsOk "callable_iterator.__next__" ⟨[a], []⟩ := by unfold argsOk; kernel_rfl
noncomputable abbrev ciObj (mth : Addr) (t : Tok) : Obj := { cls := .type "callable_iterator", data := .fields #[.ref mth, .str (S "") t, .bool false] }
section
variable {M : Model} {A : Around} {s : Shared} {E : Value → Shared → Prop}
theorem wpAny_callBorrowed {f : Value} {pos : List Value} {Q : Value → Shared → Prop}
    (hc : codeAny M A (.call f ⟨pos, []⟩) (fun r s' => match r with | .ok (.ret v) => Q v s' | .ok _ => False | .error e => E e s') s) :
    wpAny M A (callBorrowed f pos) Q E s := fun Γ p hΓ => by
  have e := hc _ p rfl (hΓ.enter (.call f ⟨pos, []⟩) none p (by intro x; cases x))
  unfold callBorrowed
  rw [Sem.wp_call]
  refine wpCode_mono (fun r s' h' => ?_) e
  rcases r with er | (v | _ | _ | _)
  · simpa [Sem.wp] using h'
  all_goals first | exact h'.elim | simpa [Sem.wp] using h'
end
section
variable {w : World} {A : Around} {s : Shared} {E : Value → Shared → Prop} {h : Heap} {tk : Nat}
theorem ci_next {Q : Option Value → Shared → Prop} (hh : A.handled = none) (X : (KK w.params).In h) (hroom : A.depth + 1 < recursionLimit) {l : Lx} (k : l.Ok) (I : l.In h) {od opl : Obj} {m : Str → Option Value} {ln p : Int} {t0 t1 : Tok} {it mth : Addr}
    (hdl : h.get? l.dl = some od) (io : Ns1Obj od m) (lm : LexMap l m ln) (hpl : h.get? l.pl = some opl) (hol : LsObj opl #[.int p t0])
    (hit : h.get? it = some (ciObj mth t1)) (hm : h.get? mth = some (methodObj (.ref 52) (.ref l.lx))) (hi1 : it ∉ [l.dl, l.pl]) (hm1 : mth ∉ [l.dl, l.pl])
    (hQ1 : (S "" == chAt l.tx p) = false → ∀ h' tk' t2 t3 od' opl' m', Now h [l.dl, l.pl] h' [(l.dl, od'), (l.pl, opl')] → Ns1Obj od' m' → LexMap l m' (lnUp (chAt l.tx p) ln) → LsObj opl' #[.int (p + 1) t2] → Q (some (.str (chAt l.tx p) t3)) (St s h' tk'))
    (hQ2 : (S "" == chAt l.tx p) = true → ∀ h' tk' t2 od' opl' oit m', Now h [l.dl, l.pl, it] h' [(l.dl, od'), (l.pl, opl'), (it, oit)] → Ns1Obj od' m' → LexMap l m' (lnUp (chAt l.tx p) ln) → LsObj opl' #[.int (p + 1) t2] → Q none (St s h' tk')) :
    wpAny (MM w) A (pyNext (.ref it)) Q E (St s h tk) := by
  have hT : (St s h tk).TypeIs (.ref it) "callable_iterator" := ⟨_, hit, rfl⟩
  have hB : ∀ h' : Heap, (KK w.params).In h' → h'.get? mth = some (methodObj (.ref 52) (.ref l.lx)) → ∀ (A' : Around) (E' : Value → Shared → Prop) (Q' : Bool → Shared → Prop) tk', Q' true (St s h' tk') → wpAny (MM w) A' (borrowsExactly (.ref mth)) Q' E' (St s h' tk') := by
    intro h' X' hm' A' E' Q' tk' hq
    unfold borrowsExactly
    refine wpAny_bind (wpAny_load hm' ?_)
    refine wpAny_bind (wpAny_load (X' 52 (obAt (KK w.params) 52) (by kernel_rfl)) ?_)
    have e : (obAt (KK w.params) 52).data = .func (fnAt (KK w.params) 52) := by kernel_rfl
    rw [e]
    exact wpAny_pure hq
  unfold pyNext
  refine wpAny_bind (wpAny_attempt (wpAny_callSpecial?_slot (name := Str.ofString "__next__") hT slot_ci_next
    (wpAny_call_entry slot_ci_next hT entry_ci_next ?_ (args_ci_next _))))
  refine wpAny_bind (wpAny_pure ?_)
  refine wpAny_bind (wpAny_field hit rfl (x := .bool false) rfl ?_)
  rw [if_neg (by decide)]
  refine wpAny_bind (wpAny_field hit rfl (x := .ref mth) rfl ?_)
  refine wpAny_bind (wpAny_attempt ?_)
  unfold callOutOfASlot
  refine wpAny_bind (hB h X hm _ _ _ tk ?_)
  rw [if_pos rfl]
  refine wpAny_callBorrowed (ks_codeAny_call_bound hm ?_)
  refine read_charC (A := A.in1) (s := s) X hroom k I hdl io lm hpl hol fun h₂ tk₂ t2 t3 od' opl' m' N₂ io₂ lm₂ hol₂ => ?_
  have hit₂ := N₂.keep _ _ hit hi1
  have hm₂ := N₂.keep _ _ hm hm1
  have X₂ : (KK w.params).In h₂ := kk_keep X N₂ fun a ha => k.hi a (by
    rcases List.mem_cons.mp ha with rfl | ha
    · simp
    · rcases List.mem_singleton.mp ha with rfl; simp)
  refine wpAny_bind (wpAny_field hit₂ rfl (x := .bool false) rfl ?_)
  rw [if_neg (by decide)]
  refine wpAny_bind (wpAny_field hit₂ rfl (x := .str (S "") t1) rfl ?_)
  refine wpAny_bind (wpAny_holding (PyProof.Rows.eqBool_str ?_))
  cases hc : (S "" == chAt l.tx p) with
  | false =>
    rw [if_pos (by rfl)]
    exact wpAny_pure ⟨_, rfl, wpAny_pure (hQ1 hc h₂ tk₂ t2 t3 od' opl' m' N₂ io₂ lm₂ hol₂)⟩
  | true =>
    rw [if_neg (by decide)]
    refine wpAny_bind (wpAny_rule (wpAny_bind (wpAny_bind (wpAny_field hit₂ rfl (x := .ref mth) rfl ?_))))
    refine wpAny_bind ?_
    unfold slotLetsGo
    refine wpAny_bind (hB h₂ X₂ hm₂ _ _ _ tk₂ ?_)
    rw [if_pos rfl]
    refine wpAny_pure ?_
    have N₃ := N₂.add hit hi1
    have e₄ := Heap.get?_update_self (h := h₂) (Obj.mapFields (·.setIfInBounds 0 .none)) hit₂ rfl
    have N₄ := N₃.same 2 rfl (Heap.SameBut.update ..) e₄
    refine wpAny_bind (wpAny_setField hit₂ rfl (by simp) ?_)
    have e₅ := Heap.get?_update_self (Obj.mapFields (·.setIfInBounds 1 .none)) e₄ rfl
    have N₅ := N₄.same 2 rfl (Heap.SameBut.update ..) e₅
    refine wpAny_bind (wpAny_setField e₄ rfl (by simp) ?_)
    have e₆ := Heap.get?_update_self (Obj.mapFields (·.setIfInBounds 2 (.bool true))) e₅ rfl
    have N₆ := N₅.same 2 rfl (Heap.SameBut.update ..) e₆
    refine wpAny_setField e₅ rfl (by simp) ?_
    show wpAny _ _ (newExc (.type "StopIteration") [] >>= _) _ _ _
    refine wpAny_bind ?_
    simp only [newExc, newTuple]
    refine wpAny_bind (wpAny_newObj_type ?_ (by size_fits))
    refine wpAny_bind (m := firstArgMember _ _) (wpAny_of_eq (a := Value.none) (by first | rfl | (simp only [firstArgMember]; rfl)) ?_)
    refine wpAny_newObj_type ?_ (by size_fits)
    simp only [raiseNew]
    refine wpAny_bind (wpAny_handled ?_)
    rw [show A.in1.handled = none from hh]
    refine wpAny_bind (wpAny_pure (wpAny_throw ?_))
    refine wpAny_bind (wpAny_isInstance (T := "StopIteration") (b := true) ⟨_, Heap.get?_push_size _ rfl, rfl⟩ isSubtype_stop ?_)
    refine wpAny_pure (hQ2 hc _ _ t2 od' opl' _ m' (((N₆.alloc _ rfl).alloc _ rfl).sub (.cons _ (.cons _ (List.Sublist.refl _)))) io₂ lm₂ hol₂)
end
end
section
open PySem PySem.W PySem.W.X PyProof.Rows PySem.Calls PySem.Spec PyProof
open LCg (NsObj)
set_option maxHeartbeats 1000000
theorem entry_iter : entryFor table "iter" = some Builtin.«iter» := entryFor_of_fast (by kernel_rfl)
theorem args_iter2 (a b : Value) : argsOk "iter" ⟨[a, b], []⟩ := by unfold argsOk; kernel_rfl
theorem lk_method_call : ∃ id, typeLookup (.type "method") "__call__" = pure (some (.builtin id)) := ⟨"method.__call__", by rw [typeLookup_type, builtinLookup_eq_fast]; kernel_rfl⟩
theorem slot_ci_iter : Slot "callable_iterator" "__iter__" "callable_iterator.__iter__" := .of (owner := "callable_iterator") (n := "__iter__") (by rw [typeLookup_type, builtinLookup_eq_fast]; kernel_rfl) (by decide +kernel) (by decide +kernel) (by decide +kernel)
    (by first | exact .inl (by decide +kernel) | exact .inr (by decide +kernel)) (by rw [isSubtype_type]; kernel_rfl)
theorem entry_ci_iter : entryFor table "callable_iterator.__iter__" = some Builtin.«dict_keyiterator.__iter__» :=
  entryFor_alias (id' := "dict_keyiterator.__iter__") (by kernel_rfl) rfl (by decide +kernel) (by kernel_rfl)
theorem args_ci_iter (a : Value) : argsOk "callable_iterator.__iter__" ⟨[a], []⟩ := by unfold argsOk; kernel_rfl
section
variable {w : World} {A : Around} {s : Shared} {E : Value → Shared → Prop} {h : Heap} {tk : Nat} {hb : Heap} {ch : List Addr} {obs : List (Addr × Obj)} {x dl C : Addr} {od : Obj} {mL : Str → Option Value} {name : Str}
theorem r_bound {expr : Bool} {Q : Value → Shared → Prop} {f : Addr} (X : (KK w.params).In h) (N : Now hb ch h obs) (hx : h.get? x = some (instObj C dl)) (hdl : h.get? dl = some od) (io : NsObj od mL)
    (hga : findIn (KK w.params) (.ref C) "__getattribute__" = some (some (.builtin "object.__getattribute__"))) (hcd : hasDictIn (KK w.params) C = true) (hk : findIn (KK w.params) (.ref C) "__getattr__" = some none)
    (hn : findIn (KK w.params) (.ref C) name = some (some (.ref f))) (hg : specialIn (KK w.params) (.ref f) "__get__" = some (some (.builtin "function.__get__"))) (ht : takesIn (KK w.params) (.ref f) = some false)
    (hc : copiedNames.contains name = false) (hty : typeIn (KK w.params) (.ref f) = some (.type "function")) (hv : mL name = none)
    (hq : ∀ h' q tk', Now hb ch h' ((q, methodObj (.ref f) (.ref x)) :: obs) → q = h.objs.size → Q (.ref q) (St s h' tk')) : wpAny (MM w) A (getAttr (.ref x) name expr) Q E (St s h tk) := by
  have I : InstAt h x (instObj C dl) C (some od) := ⟨hx, rfl, rfl, hdl⟩
  refine get_bind (s := St s h tk) X I hga (findObj_fn hcd hn hg ht hc (by rw [lookIn_of io, hv])) hk ?_
  exact wpAny_call (fn_get (s := St s h (tk + 1)) X hty (handed_on rfl (hq _ _ _ (N.alloc _ rfl) rfl)))
theorem r_iter2 {Q : Value → Shared → Prop} {mth : Addr} {f g : Value} {t : Tok} (N : Now hb ch h obs) (hm : h.get? mth = some (methodObj f g))
    (hq : ∀ h' q tk', Now hb ch h' ((q, ciObj mth t) :: obs) → q = h.objs.size → Q (.ref q) (St s h' tk')) : wpAny (MM w) A (call (.builtin "iter") [.ref mth, .str (S "") t]) Q E (St s h tk) := by
  obtain ⟨id, e⟩ := lk_method_call
  refine Calls.call_function_entry (by decide +kernel) (by decide +kernel) entry_iter (args_iter2 _ _) ?_
  unfold Builtin.«iter»
  refine wpAny_bind (wpAny_of_eq (a := [.ref mth, .str (S "") t]) (by first | rfl | kernel_rfl) ?_)
  dsimp only
  refine wpAny_bind (wpAny_specialOf (T := "method") ⟨_, hm, rfl⟩ e ?_)
  refine wpAny_bind (wpAny_rule (wpAny_bind ?_))
  refine wpAny_newObj_type ?_ (by size_fits)
  exact wpAny_pure ⟨_, rfl, hq _ _ _ (N.alloc _ rfl) rfl⟩
theorem ci_iter {Q : Value → Shared → Prop} {it mth : Addr} {t : Tok} (hit : h.get? it = some (ciObj mth t)) (hq : Q (.ref it) (St s h tk)) : wpAny (MM w) A (pyIter (.ref it)) Q E (St s h tk) := by
  have hT : (St s h tk).TypeIs (.ref it) "callable_iterator" := ⟨_, hit, rfl⟩
  refine wpAny_pyIter_slot hT slot_ci_iter (wpAny_call_entry slot_ci_iter hT entry_ci_iter ?_ (args_ci_iter _))
  show wpAny _ _ (ret (.ref it)) _ _ _
  exact wpAny_pure ⟨_, rfl, "callable_iterator", _, hT, slot_ci_next.lookup, hq⟩
end
end
section
open PySem PySem.W PySem.W.X PyProof.Rows PySem.Calls PySem.Spec PyProof
open LCg (NsObj)
set_option maxHeartbeats 1000000
section
variable {w : World} {A : Around} {s : Shared} {E : Value → Shared → Prop} {h : Heap} {tk : Nat}
theorem forStep {R : Result → Shared → Prop} {x : Str} {px : Pos} {I : Addr} {body : List Stmt} {env : Env}
    (turn : ∀ E' : Value → Shared → Prop, wpAny (MM w) A (pyNext (.ref I)) (fun r s₁ => match r with
      | none => R (.ok .next) s₁
      | some v => wpAny (MM w) A (storeName env x v) (fun _ s₂ => wpAny (MM w) A (execs body env) (fun f s₃ => match f with
          | .next | .cont => codeAny (MM w) A (.forLoop (.Name x px) (.ref I) body [] env) R s₃
          | .brk => R (.ok .next) s₃
          | .ret v => R (.ok (.ret v)) s₃) E' s₂) E' s₁) E' s) :
    codeAny (MM w) A (.forLoop (.Name x px) (.ref I) body [] env) R s := by
  refine codeAny_of_tree ?_
  show wpAny _ A ((forTurn (.Name x px) (.ref I) body [] env).onRaise (fun x => do noteFrame x env; theTreesLotGoes x)) _ _ s
  refine wpAny_noted ?_
  simp only [forTurn]
  refine wpAny_bind (wpAny_standAt (wpAny_bind (wpAny_onRaise (wpAny_mono (turn _) (fun r s₁ h₁ => ?_) fun _ _ h' => wpAny_standAt h'))))
  cases r with
  | none => exact wpAny_pure ⟨rfl, codeAny_block (wpAny_execs_nil h₁)⟩
  | some v =>
    refine wpAny_bind (wpAny_of_eq (a := ()) rfl ?_)
    refine wpAny_bind (wpAny_assign_Name (wpAny_mono h₁ (fun _ s₂ h₂ => wpAny_bind (wpAny_mono h₂ (fun f s₃ h₃ => ?_) fun _ _ h' => h')) fun _ _ h' => h'))
    cases f with
    | next => exact wpAny_pure ⟨rfl, h₃⟩
    | cont => exact wpAny_pure ⟨rfl, h₃⟩
    | brk => exact wpAny_pure h₃
    | ret v => exact wpAny_pure h₃
theorem method_none {l : Lx} {m : Str → Option Value} {ln : Int} (lm : LexMap l m ln) {name : Str} (hn : lexNames.contains name = false) : m name = none := by
  cases e : m name with
  | none => rfl
  | some v =>
    have := lm.only name (by rw [e]; simp)
    rw [← List.contains_iff_mem] at this
    rw [hn] at this; cases this
/-- get_token at the end of the text, nothing pushed back -/
theorem get_end {Q : Value → Shared → Prop} (hh : A.handled = none) (X : (KK w.params).In h) (hroom : A.depth + 2 < recursionLimit) {l : Lx} (k : l.Ok) (I : l.In h) {od opl oq : Obj} {m : Str → Option Value} {ln p : Int} {t0 : Tok}
    (hdl : h.get? l.dl = some od) (io : Ns1Obj od m) (lm : LexMap l m ln) (hpl : h.get? l.pl = some opl) (hol : LsObj opl #[.int p t0]) (hq : h.get? l.q = some oq) (hoq : LsObj oq #[])
    (hc : chAt l.tx p = S "")
    (hQ : ∀ h' tk' t2 t3 od' opl' m', Now h [l.dl, l.pl] h' [(l.dl, od'), (l.pl, opl')] → Ns1Obj od' m' → LexMap l m' ln → LsObj opl' #[.int (p + 1) t2] → Q (.str (S "") t3) (St s h' tk')) :
    wpAny (MM w) A (call (.ref 59) [.ref l.lx]) Q E (St s h tk) := by
  refine callF (s := St s h tk) X (by omega) (o := obAt (KK w.params) 59) (fd := fnAt (KK w.params) 59) (body := bGet) (binds := [(S "self", .ref l.lx)]) (by kernel_rfl) (by kernel_rfl) (by kernel_rfl) (by kernel_rfl) (by kernel_rfl) (by kernel_rfl) (by kernel_rfl) (by kernel_rfl) (by kernel_rfl) (by kernel_rfl) ?_
  intro h₁ oL E' N nL
  conv => arg 3; arg 1; whnf
  show wpAny _ _ _ _ _ (St s h₁ _)
  have hL : ∀ a o, h.get? a = some o → a ≠ h.objs.size := fun a o e => Nat.ne_of_lt (Heap.lt_size e)
  generalize h.objs.size = L at N hL ⊢
  have hh' : (A.deeper (callEnv (fnAt (KK w.params) 59) L 59)).handled = none := hh
  have hdp : l.dl ≠ l.pl := by have := k.nd; simp at this; exact this.1.1
  have N₁ := N.more (olds := [(l.dl, od), (l.pl, opl)]) (fun p hp => by
    rcases List.mem_cons.mp hp with rfl | hp
    · exact hdl
    · rcases List.mem_singleton.mp hp with rfl; exact hpl) (by simpa using hdp)
  have hqn : l.q ∉ [l.dl, l.pl] := by
    have := k.nd; simp at this
    simp only [List.mem_cons, List.not_mem_nil, or_false, not_or]
    exact ⟨fun e => this.1.2 e.symm, fun e => this.2 e.symm⟩
  have X₁ : (KK w.params).In h₁ := kk_keep X N (by simp)
  have I₁ : l.In h₁ := I.keep k fun b o e _ => N.keep b o e (by simp)
  have g := N₁.get 0 rfl
  have cc : ∀ a ∈ [l.dl, l.pl], Lo a := fun a ha => k.hi a (by
    rcases List.mem_cons.mp ha with rfl | ha
    · simp
    · rcases List.mem_singleton.mp ha with rfl; simp)
  have kp : ∀ b, b ∉ [l.dl, l.pl, l.q] → b ∉ [l.dl, l.pl] := fun b hb hm => hb (by
    rcases List.mem_cons.mp hm with rfl | hm
    · simp
    · rcases List.mem_singleton.mp hm with rfl; simp)
  refine wpAny_execs_cons (wpAny_If (isTrue_plain (Attribute_name (r_name (v := .ref l.lx) g nL (by kernel_rfl) (by kernel_rfl) (by kernel_rfl) ?_)) (by kernel_rfl)))
  refine r_attr X₁ (I₁.at 0 rfl) (N₁.get 1 rfl) io.ns (by kernel_rfl) (by kernel_rfl) (by kernel_rfl) lm.pb (by rfl) fun tk₂ => ?_
  refine wpAny_truthy_list (items := #[]) (hoq.is (N₁.keep _ _ hq hqn)) (by simp) ?_
  rw [if_neg (by simp)]
  refine wpAny_execs_nil ?_
  refine wpAny_execs_cons (wpAny_Assign_Name (r_str (s := s) fun t tk₃ => ?_) (by kernel_rfl))
  refine r_store N₁ 0 rfl nL (by kernel_rfl) (by kernel_rfl) fun h₂ o₂ tk₄ N₂ n₂ => ?_
  replace N₂ : Now h [l.dl, l.pl] h₂ [(L, o₂), (l.dl, od), (l.pl, opl)] := N₂
  have X₂ : (KK w.params).In h₂ := kk_keep X N₂ cc
  have I₂ : l.In h₂ := I.keep k fun b o e hb => N₂.keep b o e (kp b hb)
  refine wpAny_execs_cons (wpAny_Assign_Name (r_callB (id := "iter") X₂ (by kernel_rfl) (by kernel_rfl) (by kernel_rfl) (by kernel_rfl) (by kernel_rfl) (by kernel_rfl) (by kernel_rfl) (by kernel_rfl) ?_) (by kernel_rfl))
  refine args_cons (Attribute_name (r_name (s := s) (v := .ref l.lx) (N₂.get 0 rfl) n₂ ((up_ne (by kernel_rfl)).trans (by kernel_rfl)) (by kernel_rfl) (by kernel_rfl) ?_)) (by kernel_rfl)
  refine r_bound (f := 52) X₂ N₂ (I₂.at 0 rfl) (N₂.get 1 rfl) io.ns (by kernel_rfl) (by kernel_rfl) (by kernel_rfl) (by kernel_rfl) (by kernel_rfl) (by kernel_rfl) (by kernel_rfl) (by kernel_rfl) (method_none lm (by kernel_rfl)) fun h₃ mth tk₅ N₃ e₃ => ?_
  refine args_cons (r_str (s := s) fun t4 tk₆ => ?_) (by kernel_rfl)
  refine args_nil ?_
  refine r_iter2 N₃ (N₃.get 0 rfl) fun h₄ it tk₇ N₄ e₄ => ?_
  refine r_store N₄ 2 rfl n₂ (by kernel_rfl) (by kernel_rfl) fun h₅ o₅ tk₈ N₅ n₅ => ?_
  replace N₅ : Now h [l.dl, l.pl] h₅ [(it, ciObj mth t4), (mth, methodObj (.ref 52) (.ref l.lx)), (L, o₅), (l.dl, od), (l.pl, opl)] := N₅
  have X₅ : (KK w.params).In h₅ := kk_keep X N₅ cc
  have I₅ : l.In h₅ := I.keep k fun b o e hb => N₅.keep b o e (kp b hb)
  refine wpAny_execs_cons (wpAny_For (r_name (s := s) (v := .ref it) (N₅.get 2 rfl) n₅ (up_self _ _ _) (by kernel_rfl) (by kernel_rfl) ?_) (by intro _; kernel_rfl))
  refine ci_iter (N₅.get 0 rfl) ?_
  refine forStep fun E'' => ?_
  have ni : it ∉ [l.dl, l.pl] := by
    simp only [List.mem_cons, List.not_mem_nil, or_false, not_or]
    exact ⟨N₅.ne 0 3 rfl rfl (by decide), N₅.ne 0 4 rfl rfl (by decide)⟩
  have nm : mth ∉ [l.dl, l.pl] := by
    simp only [List.mem_cons, List.not_mem_nil, or_false, not_or]
    exact ⟨N₅.ne 1 3 rfl rfl (by decide), N₅.ne 1 4 rfl rfl (by decide)⟩
  refine ci_next hh' X₅ (by show A.depth + 1 + 1 < _; omega) k I₅ (N₅.get 3 rfl) io lm (N₅.get 4 rfl) hol (N₅.get 0 rfl) (N₅.get 1 rfl) ni nm (fun hn => ?_) (fun hn h₆ tk₉ t2 od' opl' oit m' D io' lm' hol' => ?_)
  · rw [hc] at hn; cases hn
  · have N₆ : Now h [l.dl, l.pl] h₆ [(L, o₅), (l.dl, od'), (l.pl, opl')] := by
      refine N₅.step D ?_ ?_ ?_
      · simp
      · intro p hp
        rcases List.mem_cons.mp hp with rfl | hp
        · right
          refine ⟨by simp, ?_⟩
          simp only [List.mem_cons, List.not_mem_nil, or_false, not_or]
          exact ⟨N₅.ne 2 3 rfl rfl (by decide), N₅.ne 2 4 rfl rfl (by decide), N₅.ne 2 0 rfl rfl (by decide)⟩
        · left
          rcases List.mem_cons.mp hp with rfl | hp
          · simp
          · rcases List.mem_singleton.mp hp with rfl; simp
      · exact (N₅.sub (obs' := [(L, o₅), (l.dl, od), (l.pl, opl)]) (.cons _ (.cons _ (List.Sublist.refl _)))).nd
    have e1 : lnUp (chAt l.tx p) ln = ln := by rw [hc]; rfl
    rw [e1] at lm'
    refine wpAny_execs_cons (wpAny_Return_some (r_name (s := s) (v := .str (S "") t) (N₆.get 0 rfl) n₅ ((up_ne (by kernel_rfl)).trans (up_self _ _ _)) (by kernel_rfl) (by kernel_rfl) ?_))
    exact hQ h₆ _ _ _ _ _ _ (N₆.sub (.cons _ (List.Sublist.refl _))) io' lm' hol'
end
end
section
open PySem PySem.W PySem.W.X PyProof.Rows PySem.Calls PySem.Spec PyProof
open LCg (NsObj)
set_option maxHeartbeats 1000000
noncomputable abbrev eG (w : World) (L : Addr) : Env := callEnv (fnAt (KK w.params) 59) L 59
/-- the state of get_token's frame within its loops -/
structure FrSt (hb : Heap) (l : Lx) (L it mth : Addr) (t4 : Tok) (h : Heap) (mm : Str → Option Value) (ln p : Int) (o od opl : Obj) (m : Str → Option Value) (t0 : Tok) : Prop where
  N : Now hb [l.dl, l.pl] h [(it, ciObj mth t4), (mth, methodObj (.ref 52) (.ref l.lx)), (L, o), (l.dl, od), (l.pl, opl)]
  no : NsObj o mm
  io : Ns1Obj od m
  lm : LexMap l m ln
  hol : LsObj opl #[.int p t0]
section
variable {w : World} {A : Around} {s : Shared} {E : Value → Shared → Prop} {h hb : Heap} {tk : Nat} {l : Lx} {L it mth : Addr} {t4 t0 : Tok} {mm m : Str → Option Value} {ln p : Int} {o od opl : Obj}
theorem FrSt.kk (X : (KK w.params).In hb) (k : l.Ok) (F : FrSt hb l L it mth t4 h mm ln p o od opl m t0) : (KK w.params).In h := kk_keep X F.N fun a ha => k.hi a (by
    rcases List.mem_cons.mp ha with rfl | ha
    · simp
    · rcases List.mem_singleton.mp ha with rfl; simp)
theorem FrSt.lx (I : l.In hb) (k : l.Ok) (F : FrSt hb l L it mth t4 h mm ln p o od opl m t0) : l.In h := I.keep k fun b o e hb => F.N.keep b o e fun hm => hb (by
    rcases List.mem_cons.mp hm with rfl | hm
    · simp
    · rcases List.mem_singleton.mp hm with rfl; simp)
/-- what a read leaves of the frame -/
theorem FrSt.read (F : FrSt hb l L it mth t4 h mm ln p o od opl m t0) {h' : Heap} {od' opl' : Obj} {m' : Str → Option Value} {t2 : Tok} {ln' : Int} (D : Now h [l.dl, l.pl] h' [(l.dl, od'), (l.pl, opl')]) (io' : Ns1Obj od' m') (lm' : LexMap l m' ln') (hol' : LsObj opl' #[.int (p + 1) t2]) :
    FrSt hb l L it mth t4 h' mm ln' (p + 1) o od' opl' m' t2 := by
  refine ⟨F.N.step D (by simp) ?_ F.N.nd, F.no, io', lm', hol'⟩
  intro q hq
  have key : ∀ i a ob, i < 3 → [(it, ciObj mth t4), (mth, methodObj (.ref 52) (.ref l.lx)), (L, o), (l.dl, od), (l.pl, opl)][i]? = some (a, ob) → a ∉ [l.dl, l.pl] := by
    intro i a ob hi e
    simp only [List.mem_cons, List.not_mem_nil, or_false, not_or]
    exact ⟨F.N.ne i 3 e rfl (by lia), F.N.ne i 4 e rfl (by lia)⟩
  rcases List.mem_cons.mp hq with rfl | hq
  · exact .inr ⟨by simp, key 0 _ _ (by decide) rfl⟩
  rcases List.mem_cons.mp hq with rfl | hq
  · exact .inr ⟨by simp, key 1 _ _ (by decide) rfl⟩
  rcases List.mem_cons.mp hq with rfl | hq
  · exact .inr ⟨by simp, key 2 _ _ (by decide) rfl⟩
  exact .inl hq
theorem fs_store {Q : Unit → Shared → Prop} {x : Str} {v : Value} (F : FrSt hb l L it mth t4 h mm ln p o od opl m t0) (hx : (eG w L).kindOf x = some .local)
    (hq : ∀ h' o' tk', FrSt hb l L it mth t4 h' (up mm x v) ln p o' od opl m t0 → Q () (St s h' tk')) : wpAny (MM w) A (storeName (eG w L) x v) Q E (St s h tk) :=
  r_store F.N 2 rfl F.no hx (by kernel_rfl) fun h' o' tk' N' n' => hq h' o' tk' ⟨N', n', F.io, F.lm, F.hol⟩
theorem fs_name {Q : Value → Shared → Prop} {x : Str} {pos : Pos} {v : Value} (F : FrSt hb l L it mth t4 h mm ln p o od opl m t0) (hx : (eG w L).kindOf x = some .local) (hv : mm x = some v) (hq : Q v (St s h tk))
    (hd : (x == ("__debug__" : Str)) = false := by decide) : wpAny (MM w) A (eval (.Name x pos) (eG w L)) Q E (St s h tk) :=
  r_name (F.N.get 2 rfl) F.no hv (by kernel_rfl) hx hq hd
/-- one turn of a for over fiter, a char read -/
theorem fs_turn {R : Result → Shared → Prop} {x : Str} {px : Pos} {body : List Stmt} (hh : A.handled = none) (hroom : A.depth + 1 < recursionLimit) (X : (KK w.params).In hb) (k : l.Ok) (I : l.In hb) (F : FrSt hb l L it mth t4 h mm ln p o od opl m t0)
    (hx : (eG w L).kindOf x = some .local) (hc : (S "" == chAt l.tx p) = false)
    (hq : ∀ h' tk' o' od' opl' m' t2 t3 (E' : Value → Shared → Prop), FrSt hb l L it mth t4 h' (up mm x (.str (chAt l.tx p) t3)) (lnUp (chAt l.tx p) ln) (p + 1) o' od' opl' m' t2 →
      wpAny (MM w) A (execs body (eG w L)) (fun f s₃ => match f with
          | .next | .cont => codeAny (MM w) A (.forLoop (.Name x px) (.ref it) body [] (eG w L)) R s₃
          | .brk => R (.ok .next) s₃
          | .ret v => R (.ok (.ret v)) s₃) E' (St s h' tk')) :
    codeAny (MM w) A (.forLoop (.Name x px) (.ref it) body [] (eG w L)) R (St s h tk) := by
  refine forStep fun E'' => ?_
  have ni : it ∉ [l.dl, l.pl] := by
    simp only [List.mem_cons, List.not_mem_nil, or_false, not_or]
    exact ⟨F.N.ne 0 3 rfl rfl (by decide), F.N.ne 0 4 rfl rfl (by decide)⟩
  have nm : mth ∉ [l.dl, l.pl] := by
    simp only [List.mem_cons, List.not_mem_nil, or_false, not_or]
    exact ⟨F.N.ne 1 3 rfl rfl (by decide), F.N.ne 1 4 rfl rfl (by decide)⟩
  refine ci_next hh (F.kk X k) hroom k (F.lx I k) (F.N.get 3 rfl) F.io F.lm (F.N.get 4 rfl) F.hol (F.N.get 0 rfl) (F.N.get 1 rfl) ni nm (fun _ h₆ tk₉ t2 t3 od' opl' m' D io' lm' hol' => ?_) (fun hn => ?_)
  · exact fs_store (F.read D io' lm' hol') hx fun h' o' tk' F' => hq h' tk' o' od' opl' m' t2 t3 E'' F'
  · rw [hc] at hn; cases hn
/-- ch = self._read_char() -/
theorem fs_rc {Q : Value → Shared → Prop} {apos pos ps : Pos} {plm : Sem Bool} (hroom : A.depth + 1 < recursionLimit) (X : (KK w.params).In hb) (k : l.Ok) (I : l.In hb) (F : FrSt hb l L it mth t4 h mm ln p o od opl m t0) (hself : mm (S "self") = some (.ref l.lx))
    (hq : ∀ h' tk' od' opl' m' t2 t3, FrSt hb l L it mth t4 h' mm (lnUp (chAt l.tx p) ln) (p + 1) o od' opl' m' t2 → Q (.str (chAt l.tx p) t3) (St s h' tk'))
    (he : eval (.Call (.Attribute (.Name (S "self") ps) (S "_read_char") apos) [] [] pos) (eG w L) = (do
      let ov ← eval (.Name (S "self") ps) (eG w L)
      standAt apos.atName
      let (f, first) ← holding [ov] (getMethod ov (S "_read_char") plm)
      callWith pos f first (backTo pos (starEach [] (eG w L))) []) := by rfl) :
    wpAny (MM w) A (eval (.Call (.Attribute (.Name (S "self") ps) (S "_read_char") apos) [] [] pos) (eG w L)) Q E (St s h tk) := by
  refine MethodCall_ ?_ he
  refine fs_name F (by kernel_rfl) hself ?_
  refine r_method (f := 52) (F.kk X k) ((F.lx I k).at 0 rfl) (F.N.get 3 rfl) F.io.ns (by kernel_rfl) (by kernel_rfl) (by kernel_rfl) (by kernel_rfl) (method_none F.lm (by kernel_rfl)) ?_
  refine callWith_meth0 (o := obAt (KK w.params) 52) (fd := fnAt (KK w.params) 52) (by kernel_rfl) ((F.kk X k) 52 _ (by kernel_rfl)) ?_
  exact read_char (F.kk X k) hroom k (F.lx I k) (F.N.get 3 rfl) F.io F.lm (F.N.get 4 rfl) F.hol fun h' tk' t2 t3 od' opl' m' D io' lm' hol' => hq h' tk' od' opl' m' t2 t3 (F.read D io' lm' hol')
end
end
section
open PySem PySem.W PySem.W.X PyProof.Rows PySem.Calls PySem.Spec PyProof
open LCg (NsObj)
set_option maxHeartbeats 1000000
noncomputable def forB : Stmt → List Stmt | .For _ _ b _ _ => b | _ => []
noncomputable def ifT : Stmt → List Stmt | .If _ b _ _ => b | _ => []
noncomputable def ifE : Stmt → List Stmt | .If _ _ b _ => b | _ => []
noncomputable def nthS : List Stmt → Nat → List Stmt | x :: _, 0 => [x] | _ :: r, n + 1 => nthS r n | [], _ => []
noncomputable def forN (b : List Stmt) : List Stmt := match b with | [x] => forB x | _ => []
noncomputable def ifTN (b : List Stmt) : List Stmt := match b with | [x] => ifT x | _ => []
noncomputable def ifEN (b : List Stmt) : List Stmt := match b with | [x] => ifE x | _ => []
noncomputable def bodyO : List Stmt := forN (nthS bGet 3)
noncomputable def bodyQ : List Stmt := forN (nthS (ifTN (nthS bodyO 1)) 0)
noncomputable def bodyB : List Stmt := forN (nthS (ifEN (nthS bodyO 1)) 2)
structure Loc (mm : Str → Option Value) (l : Lx) (it : Addr) (T : Str) : Prop where
  self : mm (S "self") = some (.ref l.lx)
  fit : mm (S "fiter") = some (.ref it)
  tok : ∃ t, mm (S "token") = some (.str T t)
noncomputable def inWs (c : Str) : Bool := !(Builtin.Str.occurrences (S "\n\t\r ") c 0 (S "\n\t\r ").length 1).isEmpty
section
variable {w : World} {A : Around} {s : Shared} {E : Value → Shared → Prop} {h hb : Heap} {tk : Nat} {l : Lx} {L it mth : Addr} {t4 t0 : Tok} {mm m : Str → Option Value} {ln p : Int} {o od opl : Obj} {T : Str}
theorem Loc.ch (x : Loc mm l it T) (v : Value) : Loc (up mm (S "ch") v) l it T :=
  ⟨(up_ne (by kernel_rfl)).trans x.self, (up_ne (by kernel_rfl)).trans x.fit, let ⟨t, e⟩ := x.tok; ⟨t, (up_ne (by kernel_rfl)).trans e⟩⟩
theorem Loc.token (x : Loc mm l it T) (T' : Str) (t : Tok) : Loc (up mm (S "token") (.str T' t)) l it T' :=
  ⟨(up_ne (by kernel_rfl)).trans x.self, (up_ne (by kernel_rfl)).trans x.fit, t, up_self _ _ _⟩
/-- token += ch, the last line of the loops -/
theorem fs_add {Q : Flow → Shared → Prop} {p1 p2 p3 : Pos} {c : Str} {tc : Tok} (F : FrSt hb l L it mth t4 h mm ln p o od opl m t0) (x : Loc mm l it T) (hc : mm (S "ch") = some (.str c tc)) (hsz : T.length + c.length ≤ 1000)
    (hq : ∀ h' tk' o' mm', FrSt hb l L it mth t4 h' mm' ln p o' od opl m t0 → Loc mm' l it (T ++ c) → Q .next (St s h' tk')) :
    wpAny (MM w) A (exec (.AugAssign (.Name (S "token") p1) .Add (.Name (S "ch") p2) p3) (eG w L)) Q E (St s h tk) := by
  obtain ⟨tt, et⟩ := x.tok
  refine wpAny_AugAssign_Name (r_load (F.N.get 2 rfl) F.no et (by kernel_rfl) (by kernel_rfl) ?_)
  refine fs_name F (by kernel_rfl) hc ?_
  refine PyProof.Rows.iadd_str (fun t' tk' => ?_) (by rw [sizeLine_eq]; lia)
  exact fs_store F (by kernel_rfl) fun h' o' tk'' F' => hq h' tk'' o' _ F' (x.token _ _)
/-- a char within quotation marks -/
theorem q_norm {R : Result → Shared → Prop} {px : Pos} {c : Str} (hh : A.handled = none) (hroom : A.depth + 1 < recursionLimit) (X : (KK w.params).In hb) (k : l.Ok) (I : l.In hb) (F : FrSt hb l L it mth t4 h mm ln p o od opl m t0) (x : Loc mm l it T)
    (hc : chAt l.tx p = c) (c0 : (S "" == c) = false) (c1 : (c == S "\"") = false) (c2 : (c == S "\\") = false) (hsz : T.length + c.length ≤ 1000)
    (hq : ∀ h' tk' o' od' opl' m' mm' t2, FrSt hb l L it mth t4 h' mm' (lnUp c ln) (p + 1) o' od' opl' m' t2 → Loc mm' l it (T ++ c) → codeAny (MM w) A (.forLoop (.Name (S "ch") px) (.ref it) bodyQ [] (eG w L)) R (St s h' tk')) :
    codeAny (MM w) A (.forLoop (.Name (S "ch") px) (.ref it) bodyQ [] (eG w L)) R (St s h tk) := by
  refine fs_turn hh hroom X k I F (by kernel_rfl) (by rw [hc]; exact c0) fun h' tk' o' od' opl' m' t2 t3 E' F' => ?_
  rw [hc] at F'
  conv => arg 3; arg 1; whnf
  refine wpAny_execs_cons (wpAny_If (wpAny_isTrue_Compare1 (fs_name F' (by kernel_rfl) (up_self _ _ _) ?_) (by kernel_rfl)))
  refine r_str (s := s) fun t5 tk5 => PyProof.Rows.eq_str (wpAny_truthy_bool ?_)
  rw [show (c == Str.ofString "\"") = false from c1, if_neg (by decide)]
  refine wpAny_execs_cons (wpAny_If (wpAny_isTrue_Compare1 (fs_name F' (by kernel_rfl) (up_self _ _ _) ?_) (by kernel_rfl)))
  refine r_str (s := s) fun t6 tk6 => PyProof.Rows.eq_str (wpAny_truthy_bool ?_)
  rw [show (c == Str.ofString "\\") = false from c2, if_neg (by decide)]
  refine wpAny_execs_nil (wpAny_execs_nil ?_)
  refine wpAny_execs_cons (fs_add F' (x.ch _) (up_self _ _ _) hsz fun h₂ tk₂ o₂ mm₂ F₂ x₂ => wpAny_execs_nil ?_)
  exact hq h₂ tk₂ o₂ od' opl' m' mm₂ t2 F₂ x₂
/-- the closing quotation mark -/
theorem q_end {R : Result → Shared → Prop} {px : Pos} (hh : A.handled = none) (hroom : A.depth + 1 < recursionLimit) (X : (KK w.params).In hb) (k : l.Ok) (I : l.In hb) (F : FrSt hb l L it mth t4 h mm ln p o od opl m t0) (x : Loc mm l it T)
    (hc : chAt l.tx p = S "\"")
    (hq : ∀ h' tk' o' od' opl' m' mm' t2 t3, FrSt hb l L it mth t4 h' mm' ln (p + 1) o' od' opl' m' t2 → R (.ok (.ret (.str T t3))) (St s h' tk')) :
    codeAny (MM w) A (.forLoop (.Name (S "ch") px) (.ref it) bodyQ [] (eG w L)) R (St s h tk) := by
  refine fs_turn hh hroom X k I F (by kernel_rfl) (by rw [hc]; kernel_rfl) fun h' tk' o' od' opl' m' t2 t3 E' F' => ?_
  rw [hc] at F'
  conv => arg 3; arg 1; whnf
  refine wpAny_execs_cons (wpAny_If (wpAny_isTrue_Compare1 (fs_name F' (by kernel_rfl) (up_self _ _ _) ?_) (by kernel_rfl)))
  refine r_str (s := s) fun t5 tk5 => PyProof.Rows.eq_str (wpAny_truthy_bool ?_)
  rw [show (S "\"" == Str.ofString "\"") = true from by kernel_rfl, if_pos rfl]
  obtain ⟨tt, et⟩ := (x.ch (.str (S "\"") t3)).tok
  refine wpAny_execs_cons (wpAny_Return_some (fs_name F' (by kernel_rfl) et ?_))
  exact hq h' _ o' od' opl' m' _ t2 _ F'
end
end
section
open PySem PySem.W PySem.W.X PyProof.Rows PySem.Calls PySem.Spec PyProof
open LCg (NsObj)
set_option maxHeartbeats 1000000
section
variable {w : World} {A : Around} {s : Shared} {E : Value → Shared → Prop} {h hb : Heap} {tk : Nat} {l : Lx} {L it mth : Addr} {t4 t0 : Tok} {mm m : Str → Option Value} {ln p : Int} {o od opl : Obj} {T : Str}
/-- ch in self.whitespace -/
theorem fs_ws {Q : Value → Shared → Prop} {p1 p2 p3 : Pos} {c : Str} {tc : Tok} (X : (KK w.params).In hb) (k : l.Ok) (I : l.In hb) (F : FrSt hb l L it mth t4 h mm ln p o od opl m t0) (hs : mm (S "self") = some (.ref l.lx)) (hc : mm (S "ch") = some (.str c tc))
    (hq : ∀ tk', Q (.bool (inWs c)) (St s h tk')) :
    wpAny (MM w) A (eval (.Name (S "ch") p1) (eG w L)) (fun a s₁ => wpAny (MM w) A (eval (.Attribute (.Name (S "self") p2) (S "whitespace") p3) (eG w L)) (fun b s₂ => wpAny (MM w) A (compareOp .In a b) Q E s₂) E s₁) E (St s h tk) := by
  with_reducible refine fs_name F (by kernel_rfl) hc ?_
  with_reducible refine Attribute_name (fs_name F (by kernel_rfl) hs ?_)
  obtain ⟨tw, ew⟩ := F.lm.ws
  refine r_attr (F.kk X k) ((F.lx I k).at 0 rfl) (F.N.get 3 rfl) F.io.ns (by kernel_rfl) (by kernel_rfl) (by kernel_rfl) ew (by rfl) fun tk₂ => ?_
  exact PyProof.Rows.in_str (hq tk₂)
theorem b_norm {R : Result → Shared → Prop} {px : Pos} {c : Str} (hh : A.handled = none) (hroom : A.depth + 1 < recursionLimit) (X : (KK w.params).In hb) (k : l.Ok) (I : l.In hb) (F : FrSt hb l L it mth t4 h mm ln p o od opl m t0) (x : Loc mm l it T)
    (hc : chAt l.tx p = c) (c0 : (S "" == c) = false) (c1 : inWs c = false) (c2 : (c == S "\\") = false) (hsz : T.length + c.length ≤ 1000)
    (hq : ∀ h' tk' o' od' opl' m' mm' t2, FrSt hb l L it mth t4 h' mm' (lnUp c ln) (p + 1) o' od' opl' m' t2 → Loc mm' l it (T ++ c) → codeAny (MM w) A (.forLoop (.Name (S "ch") px) (.ref it) bodyB [] (eG w L)) R (St s h' tk')) :
    codeAny (MM w) A (.forLoop (.Name (S "ch") px) (.ref it) bodyB [] (eG w L)) R (St s h tk) := by
  with_reducible refine fs_turn hh hroom X k I F (by kernel_rfl) (by rw [hc]; exact c0) fun h' tk' o' od' opl' m' t2 t3 E' F' => ?_
  rw [hc] at F'
  conv => arg 3; arg 1; whnf
  with_reducible refine wpAny_execs_cons (wpAny_If (wpAny_isTrue_Compare1 (fs_ws X k I F' (x.ch _).self (up_self _ _ _) fun tk5 => wpAny_truthy_bool ?_) (by kernel_rfl)))
  rw [c1, if_neg (by decide)]
  with_reducible refine wpAny_execs_cons (wpAny_If (wpAny_isTrue_Compare1 (fs_name F' (by kernel_rfl) (up_self _ _ _) ?_) (by kernel_rfl)))
  with_reducible refine r_str (s := s) fun t6 tk6 => PyProof.Rows.eq_str (wpAny_truthy_bool ?_)
  rw [show (c == Str.ofString "\\") = false from c2, if_neg (by decide)]
  with_reducible refine wpAny_execs_nil (wpAny_execs_nil ?_)
  refine wpAny_execs_cons (fs_add F' (x.ch _) (up_self _ _ _) hsz fun h₂ tk₂ o₂ mm₂ F₂ x₂ => wpAny_execs_nil ?_)
  exact hq h₂ tk₂ o₂ od' opl' m' mm₂ t2 F₂ x₂
/-- a backslash and the char behind it -/
theorem b_esc {R : Result → Shared → Prop} {px : Pos} {c : Str} (hh : A.handled = none) (hroom : A.depth + 1 < recursionLimit) (X : (KK w.params).In hb) (k : l.Ok) (I : l.In hb) (F : FrSt hb l L it mth t4 h mm ln p o od opl m t0) (x : Loc mm l it T)
    (hc : chAt l.tx p = S "\\") (hc' : chAt l.tx (p + 1) = c) (hsz : T.length + c.length ≤ 1000)
    (hq : ∀ h' tk' o' od' opl' m' mm' t2, FrSt hb l L it mth t4 h' mm' (lnUp c ln) (p + 1 + 1) o' od' opl' m' t2 → Loc mm' l it (T ++ c) → codeAny (MM w) A (.forLoop (.Name (S "ch") px) (.ref it) bodyB [] (eG w L)) R (St s h' tk')) :
    codeAny (MM w) A (.forLoop (.Name (S "ch") px) (.ref it) bodyB [] (eG w L)) R (St s h tk) := by
  with_reducible refine fs_turn hh hroom X k I F (by kernel_rfl) (by rw [hc]; kernel_rfl) fun h' tk' o' od' opl' m' t2 t3 E' F' => ?_
  rw [hc] at F'
  replace F' : FrSt hb l L it mth t4 h' (up mm (S "ch") (.str (S "\\") t3)) ln (p + 1) o' od' opl' m' t2 := F'
  conv => arg 3; arg 1; whnf
  with_reducible refine wpAny_execs_cons (wpAny_If (wpAny_isTrue_Compare1 (fs_ws X k I F' (x.ch _).self (up_self _ _ _) fun tk5 => wpAny_truthy_bool ?_) (by kernel_rfl)))
  rw [show inWs (S "\\") = false from by kernel_rfl, if_neg (by decide)]
  with_reducible refine wpAny_execs_cons (wpAny_If (wpAny_isTrue_Compare1 (fs_name F' (by kernel_rfl) (up_self _ _ _) ?_) (by kernel_rfl)))
  with_reducible refine r_str (s := s) fun t6 tk6 => PyProof.Rows.eq_str (wpAny_truthy_bool ?_)
  rw [show (S "\\" == Str.ofString "\\") = true from by kernel_rfl, if_pos rfl]
  refine wpAny_execs_cons (wpAny_Assign_Name (fs_rc hroom X k I F' (x.ch _).self fun h₂ tk₂ od₂ opl₂ m₂ t5 t7 F₂ => ?_) (by kernel_rfl))
  rw [hc'] at F₂ ⊢
  with_reducible refine fs_store F₂ (by kernel_rfl) fun h₃ o₃ tk₃ F₃ => wpAny_execs_nil (wpAny_execs_nil ?_)
  with_reducible refine wpAny_execs_cons (fs_add F₃ ((x.ch _).ch _) (up_self _ _ _) hsz fun h₄ tk₄ o₄ mm₄ F₄ x₄ => wpAny_execs_nil ?_)
  exact hq h₄ tk₄ o₄ od₂ opl₂ m₂ mm₄ t5 F₄ x₄
theorem b_end {R : Result → Shared → Prop} {px : Pos} {c : Str} (hh : A.handled = none) (hroom : A.depth + 1 < recursionLimit) (X : (KK w.params).In hb) (k : l.Ok) (I : l.In hb) (F : FrSt hb l L it mth t4 h mm ln p o od opl m t0) (x : Loc mm l it T)
    (hc : chAt l.tx p = c) (c0 : (S "" == c) = false) (c1 : inWs c = true)
    (hq : ∀ h' tk' o' od' opl' m' mm' t2 t3, FrSt hb l L it mth t4 h' mm' (lnUp c ln) (p + 1) o' od' opl' m' t2 → R (.ok (.ret (.str T t3))) (St s h' tk')) :
    codeAny (MM w) A (.forLoop (.Name (S "ch") px) (.ref it) bodyB [] (eG w L)) R (St s h tk) := by
  with_reducible refine fs_turn hh hroom X k I F (by kernel_rfl) (by rw [hc]; exact c0) fun h' tk' o' od' opl' m' t2 t3 E' F' => ?_
  rw [hc] at F'
  conv => arg 3; arg 1; whnf
  with_reducible refine wpAny_execs_cons (wpAny_If (wpAny_isTrue_Compare1 (fs_ws X k I F' (x.ch _).self (up_self _ _ _) fun tk5 => wpAny_truthy_bool ?_) (by kernel_rfl)))
  rw [c1, if_pos rfl]
  obtain ⟨tt, et⟩ := (x.ch (.str c t3)).tok
  with_reducible refine wpAny_execs_cons (wpAny_Return_some (fs_name F' (by kernel_rfl) et ?_))
  exact hq h' _ o' od' opl' m' _ t2 _ F'
end
end
section
open PySem PySem.W PySem.W.X PyProof.Rows PySem.Calls PySem.Spec PyProof
open LCg (NsObj)
set_option maxHeartbeats 1000000
section
variable {w : World} {A : Around} {s : Shared} {E : Value → Shared → Prop} {h hb : Heap} {tk : Nat} {l : Lx} {L it mth : Addr} {t4 t0 : Tok} {mm m : Str → Option Value} {ln p : Int} {o od opl : Obj} {T : Str}
theorem o_skip {R : Result → Shared → Prop} {px : Pos} {c : Str} (hh : A.handled = none) (hroom : A.depth + 1 < recursionLimit) (X : (KK w.params).In hb) (k : l.Ok) (I : l.In hb) (F : FrSt hb l L it mth t4 h mm ln p o od opl m t0) (x : Loc mm l it T)
    (hc : chAt l.tx p = c) (c0 : (S "" == c) = false) (c1 : inWs c = true)
    (hq : ∀ h' tk' o' od' opl' m' mm' t2, FrSt hb l L it mth t4 h' mm' (lnUp c ln) (p + 1) o' od' opl' m' t2 → Loc mm' l it T → codeAny (MM w) A (.forLoop (.Name (S "ch") px) (.ref it) bodyO [] (eG w L)) R (St s h' tk')) :
    codeAny (MM w) A (.forLoop (.Name (S "ch") px) (.ref it) bodyO [] (eG w L)) R (St s h tk) := by
  refine fs_turn hh hroom X k I F (by kernel_rfl) (by rw [hc]; exact c0) fun h' tk' o' od' opl' m' t2 t3 E' F' => ?_
  rw [hc] at F'
  conv => arg 3; arg 1; whnf
  refine wpAny_execs_cons (wpAny_If (wpAny_isTrue_Compare1 (fs_ws X k I F' (x.ch _).self (up_self _ _ _) fun tk5 => wpAny_truthy_bool ?_) (by kernel_rfl)))
  rw [c1, if_pos rfl]
  refine wpAny_execs_cons (wpAny_Continue ?_)
  exact hq h' _ o' od' opl' m' _ t2 F' (x.ch _)
theorem o_quote {R : Result → Shared → Prop} {px : Pos} (hh : A.handled = none) (hroom : A.depth + 1 < recursionLimit) (X : (KK w.params).In hb) (k : l.Ok) (I : l.In hb) (F : FrSt hb l L it mth t4 h mm ln p o od opl m t0) (x : Loc mm l it T)
    (hc : chAt l.tx p = S "\"")
    (hq : ∀ h' tk' o' od' opl' m' mm' t2 py (R' : Result → Shared → Prop), FrSt hb l L it mth t4 h' mm' ln (p + 1) o' od' opl' m' t2 → Loc mm' l it T → (∀ v s', R (.ok (.ret v)) s' → R' (.ok (.ret v)) s') →
      codeAny (MM w) A (.forLoop (.Name (S "ch") py) (.ref it) bodyQ [] (eG w L)) R' (St s h' tk')) :
    codeAny (MM w) A (.forLoop (.Name (S "ch") px) (.ref it) bodyO [] (eG w L)) R (St s h tk) := by
  refine fs_turn hh hroom X k I F (by kernel_rfl) (by rw [hc]; kernel_rfl) fun h' tk' o' od' opl' m' t2 t3 E' F' => ?_
  rw [hc] at F'
  replace F' : FrSt hb l L it mth t4 h' (up mm (S "ch") (.str (S "\"") t3)) ln (p + 1) o' od' opl' m' t2 := F'
  conv => arg 3; arg 1; whnf
  refine wpAny_execs_cons (wpAny_If (wpAny_isTrue_Compare1 (fs_ws X k I F' (x.ch _).self (up_self _ _ _) fun tk5 => wpAny_truthy_bool ?_) (by kernel_rfl)))
  rw [show inWs (S "\"") = false from by kernel_rfl, if_neg (by decide)]
  refine wpAny_execs_nil ?_
  refine wpAny_execs_cons (wpAny_If (wpAny_isTrue_Compare1 (fs_name F' (by kernel_rfl) (up_self _ _ _) ?_) (by kernel_rfl)))
  refine r_str (s := s) fun t6 tk6 => PyProof.Rows.eq_str (wpAny_truthy_bool ?_)
  rw [show (S "\"" == Str.ofString "\"") = true from by kernel_rfl, if_pos rfl]
  refine wpAny_execs_cons (wpAny_For (fs_name F' (by kernel_rfl) (x.ch _).fit ?_) (by intro _; kernel_rfl))
  refine ci_iter (F'.N.get 0 rfl) ?_
  exact hq h' _ o' od' opl' m' _ t2 _ _ F' (x.ch _) fun v s' z => z
theorem o_bare {R : Result → Shared → Prop} {px : Pos} {c : Str} (hh : A.handled = none) (hroom : A.depth + 1 < recursionLimit) (X : (KK w.params).In hb) (k : l.Ok) (I : l.In hb) (F : FrSt hb l L it mth t4 h mm ln p o od opl m t0) (x : Loc mm l it T)
    (hc : chAt l.tx p = c) (c0 : (S "" == c) = false) (c1 : inWs c = false) (c2 : (c == S "\"") = false) (c3 : (c == S "\\") = false) (hsz : T.length + c.length ≤ 1000)
    (hq : ∀ h' tk' o' od' opl' m' mm' t2 py (R' : Result → Shared → Prop), FrSt hb l L it mth t4 h' mm' (lnUp c ln) (p + 1) o' od' opl' m' t2 → Loc mm' l it (T ++ c) → (∀ v s', R (.ok (.ret v)) s' → R' (.ok (.ret v)) s') →
      codeAny (MM w) A (.forLoop (.Name (S "ch") py) (.ref it) bodyB [] (eG w L)) R' (St s h' tk')) :
    codeAny (MM w) A (.forLoop (.Name (S "ch") px) (.ref it) bodyO [] (eG w L)) R (St s h tk) := by
  refine fs_turn hh hroom X k I F (by kernel_rfl) (by rw [hc]; exact c0) fun h' tk' o' od' opl' m' t2 t3 E' F' => ?_
  rw [hc] at F'
  conv => arg 3; arg 1; whnf
  refine wpAny_execs_cons (wpAny_If (wpAny_isTrue_Compare1 (fs_ws X k I F' (x.ch _).self (up_self _ _ _) fun tk5 => wpAny_truthy_bool ?_) (by kernel_rfl)))
  rw [c1, if_neg (by decide)]
  refine wpAny_execs_nil ?_
  refine wpAny_execs_cons (wpAny_If (wpAny_isTrue_Compare1 (fs_name F' (by kernel_rfl) (up_self _ _ _) ?_) (by kernel_rfl)))
  refine r_str (s := s) fun t6 tk6 => PyProof.Rows.eq_str (wpAny_truthy_bool ?_)
  rw [show (c == Str.ofString "\"") = false from c2, if_neg (by decide)]
  refine wpAny_execs_cons (wpAny_If (wpAny_isTrue_Compare1 (fs_name F' (by kernel_rfl) (up_self _ _ _) ?_) (by kernel_rfl)))
  refine r_str (s := s) fun t7 tk7 => PyProof.Rows.eq_str (wpAny_truthy_bool ?_)
  rw [show (c == Str.ofString "\\") = false from c3, if_neg (by decide)]
  refine wpAny_execs_nil ?_
  refine wpAny_execs_cons (fs_add F' (x.ch _) (up_self _ _ _) hsz fun h₂ tk₂ o₂ mm₂ F₂ x₂ => ?_)
  refine wpAny_execs_cons (wpAny_For (fs_name F₂ (by kernel_rfl) x₂.fit ?_) (by intro _; kernel_rfl))
  refine ci_iter (F₂.N.get 0 rfl) ?_
  exact hq h₂ _ o₂ od' opl' m' mm₂ t2 _ _ F₂ x₂ fun v s' z => z
end
end
section
open PySem PySem.W PySem.W.X PyProof.Rows PySem.Calls PySem.Spec PyProof
open LCg (NsObj)
set_option maxHeartbeats 1000000
section
variable {w : World} {A : Around} {s : Shared} {E : Value → Shared → Prop} {h : Heap} {tk : Nat}
/-- get_token with nothing pushed back, as far as its loop -/
theorem get_lex {Q : Value → Shared → Prop} (X : (KK w.params).In h) (hroom : A.depth + 2 < recursionLimit) {l : Lx} (k : l.Ok) (I : l.In h) {od opl oq : Obj} {m : Str → Option Value} {ln p : Int} {t0 : Tok}
    (hdl : h.get? l.dl = some od) (io : Ns1Obj od m) (lm : LexMap l m ln) (hpl : h.get? l.pl = some opl) (hol : LsObj opl #[.int p t0]) (hq : h.get? l.q = some oq) (hoq : LsObj oq #[])
    (hG : ∀ L it mth t4 h' tk' o mm px (R : Result → Shared → Prop), FrSt h l L it mth t4 h' mm ln p o od opl m t0 → Loc mm l it (S "") → (∀ v s', Q v s' → R (.ok (.ret v)) s') →
      (∀ h' o' tk' obs mm' v, Now h [l.dl, l.pl] h' ((L, o') :: obs) → NsObj o' mm' → mm' (S "token") = some v → Q v (St s h' tk') → R (.ok .next) (St s h' tk')) →
      codeAny (MM w) (A.deeper (eG w L)) (.forLoop (.Name (S "ch") px) (.ref it) bodyO [] (eG w L)) R (St s h' tk')) :
    wpAny (MM w) A (call (.ref 59) [.ref l.lx]) Q E (St s h tk) := by
  refine callF (s := St s h tk) X (by lia) (o := obAt (KK w.params) 59) (fd := fnAt (KK w.params) 59) (body := bGet) (binds := [(S "self", .ref l.lx)]) (by kernel_rfl) (by kernel_rfl) (by kernel_rfl) (by kernel_rfl) (by kernel_rfl) (by kernel_rfl) (by kernel_rfl) (by kernel_rfl) (by kernel_rfl) (by kernel_rfl) ?_
  intro h₁ oL E' N nL
  conv => arg 3; arg 1; whnf
  show wpAny _ _ _ _ _ (St s h₁ _)
  have hL : ∀ a o, h.get? a = some o → a ≠ h.objs.size := fun a o e => Nat.ne_of_lt (Heap.lt_size e)
  generalize h.objs.size = L at N hL ⊢
  have hdp : l.dl ≠ l.pl := by have := k.nd; simp at this; exact this.1.1
  have N₁ := N.more (olds := [(l.dl, od), (l.pl, opl)]) (fun p hp => by
    rcases List.mem_cons.mp hp with rfl | hp
    · exact hdl
    · rcases List.mem_singleton.mp hp with rfl; exact hpl) (by simpa using hdp)
  have hqn : l.q ∉ [l.dl, l.pl] := by
    have := k.nd; simp at this
    simp only [List.mem_cons, List.not_mem_nil, or_false, not_or]
    exact ⟨fun e => this.1.2 e.symm, fun e => this.2 e.symm⟩
  have X₁ : (KK w.params).In h₁ := kk_keep X N (by simp)
  have I₁ : l.In h₁ := I.keep k fun b o e _ => N.keep b o e (by simp)
  have g := N₁.get 0 rfl
  have cc : ∀ a ∈ [l.dl, l.pl], Lo a := fun a ha => k.hi a (by
    rcases List.mem_cons.mp ha with rfl | ha
    · simp
    · rcases List.mem_singleton.mp ha with rfl; simp)
  have kp : ∀ b, b ∉ [l.dl, l.pl, l.q] → b ∉ [l.dl, l.pl] := fun b hb hm => hb (by
    rcases List.mem_cons.mp hm with rfl | hm
    · simp
    · rcases List.mem_singleton.mp hm with rfl; simp)
  refine wpAny_execs_cons (wpAny_If (isTrue_plain (Attribute_name (r_name (v := .ref l.lx) g nL (by kernel_rfl) (by kernel_rfl) (by kernel_rfl) ?_)) (by kernel_rfl)))
  refine r_attr X₁ (I₁.at 0 rfl) (N₁.get 1 rfl) io.ns (by kernel_rfl) (by kernel_rfl) (by kernel_rfl) lm.pb (by rfl) fun tk₂ => ?_
  refine wpAny_truthy_list (items := #[]) (hoq.is (N₁.keep _ _ hq hqn)) (by simp) ?_
  rw [if_neg (by simp)]
  refine wpAny_execs_nil ?_
  refine wpAny_execs_cons (wpAny_Assign_Name (r_str (s := s) fun t tk₃ => ?_) (by kernel_rfl))
  refine r_store N₁ 0 rfl nL (by kernel_rfl) (by kernel_rfl) fun h₂ o₂ tk₄ N₂ n₂ => ?_
  replace N₂ : Now h [l.dl, l.pl] h₂ [(L, o₂), (l.dl, od), (l.pl, opl)] := N₂
  have X₂ : (KK w.params).In h₂ := kk_keep X N₂ cc
  have I₂ : l.In h₂ := I.keep k fun b o e hb => N₂.keep b o e (kp b hb)
  refine wpAny_execs_cons (wpAny_Assign_Name (r_callB (id := "iter") X₂ (by kernel_rfl) (by kernel_rfl) (by kernel_rfl) (by kernel_rfl) (by kernel_rfl) (by kernel_rfl) (by kernel_rfl) (by kernel_rfl) ?_) (by kernel_rfl))
  refine args_cons (Attribute_name (r_name (s := s) (v := .ref l.lx) (N₂.get 0 rfl) n₂ ((up_ne (by kernel_rfl)).trans (by kernel_rfl)) (by kernel_rfl) (by kernel_rfl) ?_)) (by kernel_rfl)
  refine r_bound (f := 52) X₂ N₂ (I₂.at 0 rfl) (N₂.get 1 rfl) io.ns (by kernel_rfl) (by kernel_rfl) (by kernel_rfl) (by kernel_rfl) (by kernel_rfl) (by kernel_rfl) (by kernel_rfl) (by kernel_rfl) (method_none lm (by kernel_rfl)) fun h₃ mth tk₅ N₃ e₃ => ?_
  refine args_cons (r_str (s := s) fun t4 tk₆ => ?_) (by kernel_rfl)
  refine args_nil ?_
  refine r_iter2 N₃ (N₃.get 0 rfl) fun h₄ it tk₇ N₄ e₄ => ?_
  refine r_store N₄ 2 rfl n₂ (by kernel_rfl) (by kernel_rfl) fun h₅ o₅ tk₈ N₅ n₅ => ?_
  let R73 : List (Addr × Obj) := [(it, ciObj mth t4), (mth, methodObj (.ref 52) (.ref l.lx)), (L, o₅), (l.dl, od), (l.pl, opl)]
  replace N₅ : Now h [l.dl, l.pl] h₅ R73 := N₅
  have X₅ : (KK w.params).In h₅ := kk_keep X N₅ cc
  have I₅ : l.In h₅ := I.keep k fun b o e hb => N₅.keep b o e (kp b hb)
  refine wpAny_execs_cons (wpAny_For (r_name (s := s) (v := .ref it) (N₅.get 2 rfl) n₅ (up_self _ _ _) (by kernel_rfl) (by kernel_rfl) ?_) (by intro _; kernel_rfl))
  refine ci_iter (N₅.get 0 rfl) ?_
  refine hG L it mth t4 h₅ _ o₅ _ _ _ ⟨N₅, n₅, io, lm, hol⟩ ⟨?_, up_self _ _ _, t, ?_⟩ (fun v s' z => z) ?_
  · exact (up_ne (by kernel_rfl)).trans ((up_ne (by kernel_rfl)).trans (by kernel_rfl))
  · exact (up_ne (by kernel_rfl)).trans (up_self _ _ _)
  · intro h' o' tk' obs mm' v N' n' hv hq
    exact wpAny_execs_cons (wpAny_Return_some (r_name (s := s) (N'.get 0 rfl) n' hv (by kernel_rfl) (by kernel_rfl) hq))
end
end
section
open PySem PySem.W PySem.W.X PyProof.Rows PySem.Calls PySem.Spec PyProof
open LCg (NsObj)
set_option maxHeartbeats 1000000
section
variable {w : World} {A : Around} {s : Shared} {E : Value → Shared → Prop} {h hb : Heap} {tk : Nat} {l : Lx} {L it mth : Addr} {t4 t0 : Tok} {mm m : Str → Option Value} {ln p : Int} {o od opl : Obj}
structure Plain (c : Str) : Prop where
  ne : (S "" == c) = false
  q : (c == S "\"") = false
  b : (c == S "\\") = false
  len : c.length ≤ 1
theorem lex_quoted {R : Result → Shared → Prop} {px : Pos} {c1 c2 c3 : Str} (hh : A.handled = none) (hroom : A.depth + 1 < recursionLimit) (X : (KK w.params).In hb) (k : l.Ok) (I : l.In hb) (F : FrSt hb l L it mth t4 h mm ln p o od opl m t0) (x : Loc mm l it (S ""))
    (h0 : chAt l.tx p = S "\"") (h1 : chAt l.tx (p + 1) = c1) (h2 : chAt l.tx (p + 1 + 1) = c2) (h3 : chAt l.tx (p + 1 + 1 + 1) = c3) (h4 : chAt l.tx (p + 1 + 1 + 1 + 1) = S "\"") (k1 : Plain c1) (k2 : Plain c2) (k3 : Plain c3)
    (hq : ∀ h' tk' o' od' opl' m' mm' t2 t3, FrSt hb l L it mth t4 h' mm' (lnUp c3 (lnUp c2 (lnUp c1 ln))) (p + 1 + 1 + 1 + 1 + 1) o' od' opl' m' t2 → R (.ok (.ret (.str (S "" ++ c1 ++ c2 ++ c3) t3))) (St s h' tk')) :
    codeAny (MM w) A (.forLoop (.Name (S "ch") px) (.ref it) bodyO [] (eG w L)) R (St s h tk) := by
  have e0 : (S "").length = 0 := rfl
  have e1 : (S "" ++ c1).length ≤ 1 := by have := k1.len; have : (S "" ++ c1).length = (S "").length + c1.length := Array.size_append; lia
  have e2 : (S "" ++ c1 ++ c2).length ≤ 2 := by have := k2.len; have : (S "" ++ c1 ++ c2).length = (S "" ++ c1).length + c2.length := Array.size_append; lia
  refine o_quote hh hroom X k I F x h0 fun h₁ tk₁ o₁ od₁ opl₁ m₁ mm₁ u₁ py R' F₁ x₁ hR => ?_
  refine q_norm hh hroom X k I F₁ x₁ h1 k1.ne k1.q k1.b (by have := k1.len; lia) fun h₂ tk₂ o₂ od₂ opl₂ m₂ mm₂ u₂ F₂ x₂ => ?_
  refine q_norm hh hroom X k I F₂ x₂ h2 k2.ne k2.q k2.b (by have := k2.len; lia) fun h₃ tk₃ o₃ od₃ opl₃ m₃ mm₃ u₃ F₃ x₃ => ?_
  refine q_norm hh hroom X k I F₃ x₃ h3 k3.ne k3.q k3.b (by have := k3.len; lia) fun h₄ tk₄ o₄ od₄ opl₄ m₄ mm₄ u₄ F₄ x₄ => ?_
  exact q_end hh hroom X k I F₄ x₄ h4 fun h₅ tk₅ o₅ od₅ opl₅ m₅ mm₅ u₅ t₅ F₅ => hR _ _ (hq h₅ tk₅ o₅ od₅ opl₅ m₅ mm₅ u₅ t₅ F₅)
theorem lex_bare {R : Result → Shared → Prop} {px : Pos} {c1 c2 c3 : Str} (hh : A.handled = none) (hroom : A.depth + 1 < recursionLimit) (X : (KK w.params).In hb) (k : l.Ok) (I : l.In hb) (F : FrSt hb l L it mth t4 h mm ln p o od opl m t0) (x : Loc mm l it (S ""))
    (h1 : chAt l.tx p = c1) (h2 : chAt l.tx (p + 1) = c2) (h3 : chAt l.tx (p + 1 + 1) = S "\\") (h4 : chAt l.tx (p + 1 + 1 + 1) = c3) (h5 : chAt l.tx (p + 1 + 1 + 1 + 1) = S "\t") (k1 : Plain c1) (k2 : Plain c2) (k3 : Plain c3) (w1 : inWs c1 = false) (w2 : inWs c2 = false)
    (hq : ∀ h' tk' o' od' opl' m' mm' t2 t3, FrSt hb l L it mth t4 h' mm' (lnUp c3 (lnUp c2 (lnUp c1 ln))) (p + 1 + 1 + 1 + 1 + 1) o' od' opl' m' t2 → R (.ok (.ret (.str (S "" ++ c1 ++ c2 ++ c3) t3))) (St s h' tk')) :
    codeAny (MM w) A (.forLoop (.Name (S "ch") px) (.ref it) bodyO [] (eG w L)) R (St s h tk) := by
  have e0 : (S "").length = 0 := rfl
  have e1 : (S "" ++ c1).length ≤ 1 := by have := k1.len; have : (S "" ++ c1).length = (S "").length + c1.length := Array.size_append; lia
  have e2 : (S "" ++ c1 ++ c2).length ≤ 2 := by have := k2.len; have : (S "" ++ c1 ++ c2).length = (S "" ++ c1).length + c2.length := Array.size_append; lia
  refine o_bare hh hroom X k I F x h1 k1.ne w1 k1.q k1.b (by have := k1.len; lia) fun h₁ tk₁ o₁ od₁ opl₁ m₁ mm₁ u₁ py R' F₁ x₁ hR => ?_
  refine b_norm hh hroom X k I F₁ x₁ h2 k2.ne w2 k2.b (by have := k2.len; lia) fun h₂ tk₂ o₂ od₂ opl₂ m₂ mm₂ u₂ F₂ x₂ => ?_
  refine b_esc hh hroom X k I F₂ x₂ h3 h4 (by have := k3.len; lia) fun h₄ tk₄ o₄ od₄ opl₄ m₄ mm₄ u₄ F₄ x₄ => ?_
  exact b_end hh hroom X k I F₄ x₄ h5 (by kernel_rfl) (by kernel_rfl) fun h₅ tk₅ o₅ od₅ opl₅ m₅ mm₅ u₅ t₅ F₅ => hR _ _ (hq h₅ tk₅ o₅ od₅ opl₅ m₅ mm₅ u₅ t₅ F₅)
end
end
section
open PySem PySem.W PySem.W.X PyProof.Rows PySem.Calls PySem.Spec PyProof
open LCg (NsObj)
set_option maxHeartbeats 1000000
section
variable {w : World} {A : Around} {s : Shared} {E : Value → Shared → Prop} {h : Heap} {tk : Nat}
/-- get_token with nothing pushed back, a tab skipped if one is left over -/
theorem get_tok {Q : Value → Shared → Prop} (hh : A.handled = none) (X : (KK w.params).In h) (hroom : A.depth + 2 < recursionLimit) {l : Lx} (k : l.Ok) (I : l.In h) {od opl oq : Obj} {m : Str → Option Value} {ln p p' : Int} {t0 : Tok}
    (hdl : h.get? l.dl = some od) (io : Ns1Obj od m) (lm : LexMap l m ln) (hpl : h.get? l.pl = some opl) (hol : LsObj opl #[.int p t0]) (hq : h.get? l.q = some oq) (hoq : LsObj oq #[])
    (hp : p' = p ∨ (p' = p + 1 ∧ chAt l.tx p = S "\t"))
    (hG : ∀ L it mth t4 h' tk' o od' opl' m' t1 mm px (R : Result → Shared → Prop), FrSt h l L it mth t4 h' mm ln p' o od' opl' m' t1 → Loc mm l it (S "") → (∀ v s', Q v s' → R (.ok (.ret v)) s') →
      codeAny (MM w) (A.deeper (eG w L)) (.forLoop (.Name (S "ch") px) (.ref it) bodyO [] (eG w L)) R (St s h' tk')) :
    wpAny (MM w) A (call (.ref 59) [.ref l.lx]) Q E (St s h tk) := by
  refine get_lex X hroom k I hdl io lm hpl hol hq hoq fun L it mth t4 h' tk' o mm px R F x hR _ => ?_
  rcases hp with rfl | ⟨rfl, hc⟩
  · exact hG L it mth t4 h' tk' o od opl m t0 mm px R F x hR
  · refine o_skip (A := A.deeper (eG w L)) hh (by show A.depth + 1 + 1 < _; omega) X k I F x hc (by kernel_rfl) (by kernel_rfl) fun h₁ tk₁ o₁ od₁ opl₁ m₁ mm₁ t2 F₁ x₁ => ?_
    exact hG L it mth t4 h₁ tk₁ o₁ od₁ opl₁ m₁ t2 mm₁ px R F₁ x₁ hR
/-- get_token reads a word: c1 c2 c3, in quotation marks or bare -/
theorem get_word {Q : Value → Shared → Prop} (hh : A.handled = none) (X : (KK w.params).In h) (hroom : A.depth + 2 < recursionLimit) {l : Lx} (k : l.Ok) (I : l.In h) {od opl oq : Obj} {m : Str → Option Value} {ln p p' : Int} {t0 : Tok} {c1 c2 c3 : Str}
    (hdl : h.get? l.dl = some od) (io : Ns1Obj od m) (lm : LexMap l m ln) (hpl : h.get? l.pl = some opl) (hol : LsObj opl #[.int p t0]) (hq : h.get? l.q = some oq) (hoq : LsObj oq #[])
    (hp : p' = p ∨ (p' = p + 1 ∧ chAt l.tx p = S "\t")) (k1 : Plain c1) (k2 : Plain c2) (k3 : Plain c3) (w1 : inWs c1 = false) (w2 : inWs c2 = false)
    (hw : (chAt l.tx p' = S "\"" ∧ chAt l.tx (p' + 1) = c1 ∧ chAt l.tx (p' + 1 + 1) = c2 ∧ chAt l.tx (p' + 1 + 1 + 1) = c3 ∧ chAt l.tx (p' + 1 + 1 + 1 + 1) = S "\"") ∨
      (chAt l.tx p' = c1 ∧ chAt l.tx (p' + 1) = c2 ∧ chAt l.tx (p' + 1 + 1) = S "\\" ∧ chAt l.tx (p' + 1 + 1 + 1) = c3 ∧ chAt l.tx (p' + 1 + 1 + 1 + 1) = S "\t"))
    (hQ : ∀ h' tk' t2 t3 od' opl' m', Now h [l.dl, l.pl] h' [(l.dl, od'), (l.pl, opl')] → Ns1Obj od' m' → LexMap l m' (lnUp c3 (lnUp c2 (lnUp c1 ln))) → LsObj opl' #[.int (p' + 1 + 1 + 1 + 1 + 1) t2] → Q (.str (S "" ++ c1 ++ c2 ++ c3) t3) (St s h' tk')) :
    wpAny (MM w) A (call (.ref 59) [.ref l.lx]) Q E (St s h tk) := by
  refine get_tok hh X hroom k I hdl io lm hpl hol hq hoq hp fun L it mth t4 h' tk' o od' opl' m' t1 mm px R F x hR => ?_
  rcases hw with ⟨a0, a1, a2, a3, a4⟩ | ⟨a0, a1, a2, a3, a4⟩
  · exact lex_quoted (A := A.deeper (eG w L)) hh (by show A.depth + 1 + 1 < _; omega) X k I F x a0 a1 a2 a3 a4 k1 k2 k3 fun h₁ tk₁ o₁ od₁ opl₁ m₁ mm₁ t2 t3 F₁ => hR _ _ (hQ h₁ tk₁ t2 t3 od₁ opl₁ m₁ (F₁.N.sub (.cons _ (.cons _ (.cons _ (List.Sublist.refl _))))) F₁.io F₁.lm F₁.hol)
  · exact lex_bare (A := A.deeper (eG w L)) hh (by show A.depth + 1 + 1 < _; omega) X k I F x a0 a1 a2 a3 a4 k1 k2 k3 w1 w2 fun h₁ tk₁ o₁ od₁ opl₁ m₁ mm₁ t2 t3 F₁ => hR _ _ (hQ h₁ tk₁ t2 t3 od₁ opl₁ m₁ (F₁.N.sub (.cons _ (.cons _ (.cons _ (List.Sublist.refl _))))) F₁.io F₁.lm F₁.hol)
/-- get_token at the end of the text, a tab left over -/
theorem get_tab {Q : Value → Shared → Prop} (hh : A.handled = none) (X : (KK w.params).In h) (hroom : A.depth + 2 < recursionLimit) {l : Lx} (k : l.Ok) (I : l.In h) {od opl oq : Obj} {m : Str → Option Value} {ln p : Int} {t0 : Tok}
    (hdl : h.get? l.dl = some od) (io : Ns1Obj od m) (lm : LexMap l m ln) (hpl : h.get? l.pl = some opl) (hol : LsObj opl #[.int p t0]) (hq : h.get? l.q = some oq) (hoq : LsObj oq #[])
    (hp : chAt l.tx p = S "\t") (hc : chAt l.tx (p + 1) = S "")
    (hQ : ∀ h' tk' t2 t3 od' opl' m', Now h [l.dl, l.pl] h' [(l.dl, od'), (l.pl, opl')] → Ns1Obj od' m' → LexMap l m' ln → LsObj opl' #[.int (p + 1 + 1) t2] → Q (.str (S "") t3) (St s h' tk')) :
    wpAny (MM w) A (call (.ref 59) [.ref l.lx]) Q E (St s h tk) := by
  refine get_lex X hroom k I hdl io lm hpl hol hq hoq fun L it mth t4 h' tk' o mm px R F x hR hR2 => ?_
  have hh' : (A.deeper (eG w L)).handled = none := hh
  refine o_skip (A := A.deeper (eG w L)) hh (by show A.depth + 1 + 1 < _; omega) X k I F x hp (by kernel_rfl) (by kernel_rfl) fun h₁ tk₁ o₁ od₁ opl₁ m₁ mm₁ t2 F₁ x₁ => ?_
  refine forStep fun E'' => ?_
  have ni : it ∉ [l.dl, l.pl] := by
    simp only [List.mem_cons, List.not_mem_nil, or_false, not_or]
    exact ⟨F₁.N.ne 0 3 rfl rfl (by decide), F₁.N.ne 0 4 rfl rfl (by decide)⟩
  have nm : mth ∉ [l.dl, l.pl] := by
    simp only [List.mem_cons, List.not_mem_nil, or_false, not_or]
    exact ⟨F₁.N.ne 1 3 rfl rfl (by decide), F₁.N.ne 1 4 rfl rfl (by decide)⟩
  refine ci_next hh' (F₁.kk X k) (by show A.depth + 1 + 1 < _; omega) k (F₁.lx I k) (F₁.N.get 3 rfl) F₁.io F₁.lm (F₁.N.get 4 rfl) F₁.hol (F₁.N.get 0 rfl) (F₁.N.get 1 rfl) ni nm (fun hn => ?_) (fun hn h₆ tk₉ t5 od' opl' oit m' D io' lm' hol' => ?_)
  · rw [hc] at hn; cases hn
  · have N₆ : Now h [l.dl, l.pl] h₆ [(L, o₁), (l.dl, od'), (l.pl, opl')] := by
      refine F₁.N.step D ?_ ?_ ?_
      · simp
      · intro p hp
        rcases List.mem_cons.mp hp with rfl | hp
        · right
          refine ⟨by simp, ?_⟩
          simp only [List.mem_cons, List.not_mem_nil, or_false, not_or]
          exact ⟨F₁.N.ne 2 3 rfl rfl (by decide), F₁.N.ne 2 4 rfl rfl (by decide), F₁.N.ne 2 0 rfl rfl (by decide)⟩
        · left
          rcases List.mem_cons.mp hp with rfl | hp
          · simp
          · rcases List.mem_singleton.mp hp with rfl; simp
      · exact (F₁.N.sub (obs' := [(L, o₁), (l.dl, od₁), (l.pl, opl₁)]) (.cons _ (.cons _ (List.Sublist.refl _)))).nd
    have e1 : lnUp (chAt l.tx (p + 1)) (lnUp (S "\t") ln) = ln := by rw [hc]; rfl
    rw [e1] at lm'
    obtain ⟨t, ht⟩ := x₁.tok
    exact hR2 h₆ o₁ tk₉ _ mm₁ _ N₆ F₁.no ht (hQ h₆ _ _ _ _ _ _ (N₆.sub (.cons _ (List.Sublist.refl _))) io' lm' hol')
end
end
section
open PySem PySem.W PySem.W.X PyProof.Rows PySem.Calls PySem.Spec PyProof
open LCg (NsObj lst)
set_option maxHeartbeats 1000000
section
variable {hb h h' : Heap} {ch : List Addr} {obs : List (Addr × Obj)}
theorem Now.perm {obs' : List (Addr × Obj)} (N : Now hb ch h obs) (p : obs'.Perm obs) : Now hb ch h obs' :=
  ⟨fun q hq => N.at_ q (p.subset hq), (p.map _).nodup_iff.mpr N.nd, fun q hq => N.ok q (p.subset hq), N.keep, N.live⟩
theorem Now.allocE (N : Now hb ch h obs) (o : Obj) (hf : o.isFreed = false) : Now hb ch (h.push o) (obs ++ [(h.objs.size, o)]) :=
  (N.alloc o hf).perm (List.perm_append_singleton _ _)
/-- a new object moved behind three others -/
theorem Now.swap3 {t n : List (Addr × Obj)} (N : Now hb ch h ((obs ++ t) ++ n)) : Now hb ch h ((obs ++ n) ++ t) :=
  N.perm (by rw [List.append_assoc, List.append_assoc]; exact List.Perm.append_left _ List.perm_append_comm)
theorem Now.front {t : List (Addr × Obj)} (N : Now hb ch h (obs ++ t)) : Now hb ch h (t ++ obs) := N.perm List.perm_append_comm
theorem Now.drop {t : List (Addr × Obj)} (N : Now hb ch h (obs ++ t)) : Now hb ch h obs := N.sub (List.sublist_append_left _ _)
/-- a place that is not in ch is changed: it is not known any more -/
theorem Now.forget {a : Addr} {o : Obj} (hac : a ∉ ch) (N : Now hb ch h (obs ++ [(a, o)])) (hk : ∀ b o, b ≠ a → h.get? b = some o → h'.get? b = some o) : Now hb ch h' obs :=
  (N.front : Now hb ch h ((a, o) :: obs)).off hac hk
/-- after a call that changes nothing old -/
theorem Now.pureE {news : List (Addr × Obj)} (N : Now hb ch h obs) (D : Now h [] h' news) : Now hb ch h' (obs ++ news) := (N.pure D).front
end
noncomputable abbrev cellO (v : Option Value) : Obj := { cls := .type "cell", data := .cell v }
/-- the cells that a frame makes -/
noncomputable def cellObs (n : Nat) : List (Str × NameKind) → List (Addr × Obj)
  | [] => []
  | (_, k) :: r => if k == .cell then (n, cellO none) :: cellObs (n + 1) r else cellObs n r
theorem Now.cells {hb : Heap} {ch : List Addr} : ∀ (names : List (Str × NameKind)) (h : Heap) (obs : List (Addr × Obj)), Now hb ch h obs → Now hb ch (pushCells h names) (obs ++ cellObs h.objs.size names)
  | [], h, obs, N => by simpa [pushCells, cellObs] using N
  | (n, k) :: r, h, obs, N => by
    unfold pushCells cellObs
    split
    · have := Now.cells r _ _ (N.allocE (cellO none) rfl)
      rw [Heap.size_push, List.append_assoc] at this
      exact this
    · exact Now.cells r h obs N
section
variable {w : World} {A : Around} {s : Shared} {h : Heap} {tk : Nat} {E : Value → Shared → Prop} {env : Env} {hb : Heap} {ch : List Addr} {obs : List (Addr × Obj)}
  {x : Str} {pos pos' : Pos} {v : Value} {m : Str → Option Value} {oL : Obj} {Q : Value → Shared → Prop} {k : Nat}
theorem r_cell {c : Addr} (hk : env.scope.kind = .function) (hl : env.kindOf x = some .cell) (hc : env.cells.lookup x = some c) (hv : h.get? c = some (cellO (some v))) (hq : Q v (St s h tk))
    (hd : (x == ("__debug__" : Str)) = false := by decide) : wpAny (MM w) A (eval (.Name x pos) env) Q E (St s h tk) := wpAny_Name (wpAny_loadName_cell hk hl hc ⟨_, hv, rfl⟩ hq) hd
theorem r_storeC {Q : Unit → Shared → Prop} {c : Addr} {v₀ : Option Value} (N : Now hb ch h obs) (i : Nat) (hi : obs[i]? = some (c, cellO v₀)) (hk : env.scope.kind = .function) (hl : env.kindOf x = some .cell) (hc : env.cells.lookup x = some c)
    (hq : ∀ h', Now hb ch h' (obs.set i (c, cellO (some v))) → Q () (St s h' tk)) : wpAny (MM w) A (storeName env x v) Q E (St s h tk) := by
  have hg := N.get i hi
  unfold storeName
  simp only [hl, hk]
  refine wpAny_bind (wpAny_cellOf hc ?_)
  unfold cellSet
  refine wpAny_bind (wpAny_load (s := St s h tk) hg ?_)
  exact wpAny_update hg (hq _ (N.same i hi (Heap.SameBut.update ..) (Heap.get?_update_self _ hg rfl)))
end
section
variable {w : World} {A : Around} {s : Shared} {E : Value → Shared → Prop} {Q : Value → Shared → Prop}
/-- a call of a def whose frame makes cells; its arguments are bound by the walk itself -/
theorem enterC {R : Result → Shared → Prop} {f : Addr} {o : Obj} {fd : FuncData} {body : List Stmt} {args : Args} {binds : List (Str × Value)} (X : (KK w.params).In s.heap) (hroom : A.depth < recursionLimit)
    (ho : s.heap.get? f = some o) (hdata : o.data = .func fd) (hcd : s.heap.CodeRec fd.code fd.qualname) (hbody : fd.body = .stmts body) (hbind : bindArgs fd args = pure binds) (hclo : fd.closure = [])
    (hco : fd.scope.isCoroutine = false) (hgen : fd.scope.isGenerator = false)
    (h : ∀ (env : Env) h₁ oL (E' E'' : Value → Shared → Prop), env = newEnv fd.scope s.heap.objs.size fd.globals (cellsFrom (s.heap.objs.size + 1) fd.scope.names []) (fd.qualname ++ ".<locals>.") (some f) fd.code none fd.builtins →
      Now s.heap [] h₁ ((s.heap.objs.size, oL) :: cellObs (s.heap.objs.size + 1) fd.scope.names) → NsObj oL (fun _ => none) →
      wpAny (MM w) A.in1 (forIn binds PUnit.unit fun p _ => do storeName env p.1 p.2; pure (ForInStep.yield PUnit.unit)) (fun _ s₂ => (KK w.params).In s₂.heap ∧
        wpAny (MM w) (A.deeper env) (execs body env) (fun fl s' => R (.ok (.ret (match fl with | .ret v => v | _ => .none))) s') E'' s₂) E' { s with heap := h₁ }) :
    codeAny (MM w) A (.call (.ref f) args) R s := by
  refine codeAny_call_function hroom ho hdata hco hgen hbody hcd ?_
  refine wpAny_of_eq hbind ?_
  rw [hclo]
  simp only [newFunctionEnv, Option.isSome_none, Bool.false_eq_true, if_false]
  refine wpAny_bind (wpAny_alloc ?_)
  refine wpAny_bind (wpAny_layCells _ (fun name kind cells => by cases hkc : kind == NameKind.cell <;> simp [hkc]) _ _ _ _ ?_)
  rw [show ({ s with heap := s.heap.push { cls := .type "frame", data := .dict #[] } } : Shared).heap.objs.size = s.heap.objs.size + 1 from Heap.size_push ..]
  have N0 := (Now.refl (hb := s.heap)).allocE { cls := .type "frame", data := .dict #[] } rfl
  have N1 := N0.cells fd.scope.names
  rw [Heap.size_push] at N1
  have nL : NsObj { cls := .type "frame", data := .dict #[] } (fun _ => none) := by
    obtain ⟨o', e', r⟩ := LCg.ns_obj (Heap.Ns.new s.heap (.type "frame"))
    rw [Heap.get?_push_size _ rfl] at e'
    cases e'
    exact r
  let ENV := newEnv fd.scope s.heap.objs.size fd.globals (cellsFrom (s.heap.objs.size + 1) fd.scope.names []) (fd.qualname ++ ".<locals>.") (some f) fd.code none fd.builtins
  refine wpAny_bind (wpAny_mono (h ENV _ _ _ (fun e s' => wpAny (MM w) (A.deeper ENV) (leaving ENV e) (fun _ s'' => R (.error e) s'') (fun e' s'' => R (.error e') s'') s') rfl N1 nL) (fun _ s₂ h₂ => wpAny_pure ⟨?_, ?_⟩) fun _ _ e => e)
  · exact kk_limit h₂.1
  · exact codeAny_func h₂.2
end
end
section
open PySem PySem.W PySem.W.X PyProof.Rows PySem.Calls PySem.Spec PyProof
open LCg (NsObj lst)
set_option maxHeartbeats 1000000
/-- the tests of a comprehension's clause -/
noncomputable abbrev tests (ifs : List Expr) (env : Env) : Sem Bool := forIn ifs true fun c r => if r = true then do let ok ← isTrue c env (eval c env); pure (ForInStep.yield ok) else pure (ForInStep.yield r)
/-- one turn of a comprehension's clause, its work B -/
noncomputable def TurnOf (e : Expr) (d : Nat) (it acc : Value) (env : Env) (x : Str) (px : Pos) (iter : Expr) (ifs : List Expr) (B : Sem Unit) : Prop :=
  compTurn e d it acc env = (standAt iter.pos >>= fun _ => pyNext it >>= fun r => match r with
    | none => pure (.done .next)
    | some v => letOwnedTupleGo (.Name x px) it v >>= fun _ => assign (.Name x px) env v >>= fun _ => tests ifs env >>= fun ok =>
      (if ok = true then B >>= fun _ => again (.compLoop e d it acc env) else again (.compLoop e d it acc env)))
section
variable {w : World} {A : Around} {s : Shared} {h : Heap} {tk : Nat} {E : Value → Shared → Prop} {env : Env} {hb : Heap} {ch : List Addr} {obs : List (Addr × Obj)}
theorem compJ {R : Result → Shared → Prop} {e : Expr} {d : Nat} {acc : Value} {x : Str} {px : Pos} {iter : Expr} {ifs : List Expr} {B : Sem Unit} {I : Addr} {oI : Obj} {fp : List Addr} {n : Nat} {P : Nat → Value → Prop} {Sh : Nat → Heap → Prop}
    (hT : TurnOf e d (.ref I) acc env x px iter ifs B) (hfr : (Code.compLoop e d (.ref I) acc env).isFrame = false) (hU : A.under (Code.compLoop e d (.ref I) acc env) = A)
    (W : Walks PR w A I fp [I] n P Sh) (hI : ∀ i h, Sh i h → ∃ o, h.get? I = some o) (hIc : I ∉ ch) (J : Nat → List (Addr × Obj) → Prop)
    (hSh : ∀ i h h' o obs', Sh i h → h.get? I = some o → h'.get? I = some o → J i obs' → Now hb ch h' (obs' ++ [(I, o)]) → Sh i h')
    (N : Now hb ch h (obs ++ [(I, oI)])) (h0 : Sh 0 h) (hJ : J 0 obs)
    (turn : ∀ i v h' tk' oI' obs' (E' : Value → Shared → Prop), i < n → P i v → J i obs' → Now hb ch h' (obs' ++ [(I, oI')]) →
      wpAny (MM w) A (storeName env x v) (fun _ s₂ => wpAny (MM w) A (tests ifs env) (fun ok s₃ =>
        if ok = true then wpAny (MM w) A B (fun _ s₄ => ∃ h'' tk'' obs'', s₄ = St s h'' tk'' ∧ J (i + 1) obs'' ∧ Now hb ch h'' (obs'' ++ [(I, oI')])) E' s₃
        else ∃ h'' tk'' obs'', s₃ = St s h'' tk'' ∧ J (i + 1) obs'' ∧ Now hb ch h'' (obs'' ++ [(I, oI')])) E' s₂) E' (St s h' tk'))
    (done : ∀ h' tk' obs', J n obs' → Now hb ch h' obs' → R (.ok .next) (St s h' tk')) :
    codeAny (MM w) A (.compLoop e d (.ref I) acc env) R (St s h tk) := by
  refine codeAny_loop rfl (fun k s' => ∃ i h' tk' oI' obs', s' = St s h' tk' ∧ i ≤ n ∧ k = n + 1 - i ∧ Sh i h' ∧ J i obs' ∧ Now hb ch h' (obs' ++ [(I, oI')])) ?_ (n + 1) ⟨0, h, tk, oI, obs, rfl, Nat.zero_le _, rfl, h0, hJ, N⟩
  intro k _ hz1
  refine Classical.byContradiction fun hng => ?_
  obtain ⟨i, h', tk', oI', obs', rfl, hi, rfl, st, j, N'⟩ := hz1
  refine hng ?_
  have e1 : denote table (.compLoop e d (.ref I) acc env) = (compTurn e d (.ref I) acc env).onRaise (fun x => do noteFrame x env; theTreesLotGoes x) := by
    show (if (Code.compLoop e d (.ref I) acc env).isFrame = true then _ else _) = _
    rw [if_neg (by rw [hfr]; decide)]
  rw [hU]
  show wpAny _ A (denote table (.compLoop e d (.ref I) acc env)) _ _ _
  rw [e1]
  refine wpAny_noted ?_
  rw [hT]
  refine wpAny_bind (wpAny_standAt (wpAny_bind ?_))
  have upI : ∀ {h₁ : Heap} {o₁ : Obj}, (∀ b o, b ∉ [I] → h'.get? b = some o → h₁.get? b = some o) → h₁.get? I = some o₁ → Now hb ch h₁ (obs' ++ [(I, o₁)]) := fun hk e₁ =>
    ((N'.front : Now hb ch h' ((I, oI') :: obs')).but (fun b o hne e => hk b o (by simpa using hne) e) e₁).perm (List.perm_append_singleton _ _)
  by_cases hlt : i < n
  · refine W.item i _ _ _ hlt st fun v h₁ tk₁ hP st₁ hk => ?_
    obtain ⟨o₁, e₁⟩ := hI _ _ st₁
    have N₁ := upI hk e₁
    refine wpAny_bind (wpAny_of_eq (a := ()) rfl ?_)
    refine wpAny_bind (wpAny_assign_Name (wpAny_mono (turn i v h₁ tk₁ o₁ obs' _ hlt hP j N₁) (fun _ s₂ h₂ => wpAny_bind (wpAny_mono h₂ (fun ok s₃ h₃ => ?_) fun _ _ e => e)) fun _ _ e => e))
    have fin : ∀ s₄, (∃ h'' tk'' obs'', s₄ = St s h'' tk'' ∧ J (i + 1) obs'' ∧ Now hb ch h'' (obs'' ++ [(I, o₁)])) → ∃ m, m < n + 1 - i ∧ ∃ i h' tk' oI' obs', s₄ = St s h' tk' ∧ i ≤ n ∧ m = n + 1 - i ∧ Sh i h' ∧ J i obs' ∧ Now hb ch h' (obs' ++ [(I, oI')]) := by
      intro _ hz2
      refine Classical.byContradiction fun hng => ?_
      obtain ⟨h₂, tk₂, obs₂, rfl, j₂, N₂⟩ := hz2
      refine hng ?_
      have eI : h₂.get? I = some o₁ := N₂.at_ (I, o₁) (by simp)
      exact ⟨n + 1 - (i + 1), by lia, i + 1, h₂, tk₂, o₁, obs₂, rfl, hlt, rfl, hSh _ _ _ _ _ st₁ e₁ eI j₂ N₂, j₂, N₂⟩
    cases ok with
    | true =>
      simp only [if_true] at h₃ ⊢
      exact wpAny_bind (wpAny_mono h₃ (fun _ s₄ h₄ => wpAny_pure ⟨rfl, fin s₄ h₄⟩) fun _ _ e => e)
    | false =>
      simp only [Bool.false_eq_true, if_false] at h₃ ⊢
      exact wpAny_pure ⟨rfl, fin s₃ h₃⟩
  · obtain rfl : i = n := Nat.le_antisymm hi (Nat.not_lt.mp hlt)
    refine W.done _ _ _ st fun h₁ tk₁ hk => ?_
    exact wpAny_pure (done h₁ tk₁ obs' j (N'.forget hIc fun b o hne e => hk b o (by simpa using hne) e))
/-- the end of a comprehension in an expression -/
theorem compEnd {Q : Value → Shared → Prop} {acc : Value} {C : Addr} {oC : Obj} {m : Str → Option Value} (N : Now hb ch h (obs ++ [(C, oC)])) (hC : C ∉ ch) (nC : NsObj oC m) (hq : ∀ h', Now hb ch h' obs → Q acc (St s h' tk)) :
    compPost (MM w) A E none Q acc C (.ok .next) (St s h tk) :=
  ⟨m, nC.ns (N.at_ (C, oC) (by simp)), fun h' hs => hq h' (N.forget hC fun b o hne e => (hs.2 b hne).trans e)⟩
/-- the end of a comprehension that is stored under a local name -/
theorem compEndA {Q : Value → Shared → Prop} {D C : Addr} {oC oL : Obj} {mC m : Str → Option Value} {y : Str} {py : Pos} {j : Nat} (N : Now hb ch h (obs ++ [(C, oC)])) (hC : C ∉ ch) (nC : NsObj oC mC)
    (hj : obs[j]? = some (env.locals, oL)) (hm : NsObj oL m) (hy : env.kindOf y = some .local) (hp : (env.scope.kind == .class || (env.scope.kind == .module && env.locals != env.globals)) = false)
    (hq : ∀ h' oL' tk', Now hb ch h' (obs.set j (env.locals, oL')) → NsObj oL' (up m y (.ref D)) → Q .none (St s h' tk')) :
    compPost (MM w) A E (some (assign (.Name y py) env)) Q (.ref D) C (.ok .next) (St s h tk) := by
  have hlt : j < obs.length := (List.getElem?_eq_some_iff.mp hj).1
  have hj' : (obs ++ [(C, oC)])[j]? = some (env.locals, oL) := by rw [List.getElem?_append_left hlt]; exact hj
  refine wpAny_assign_Name (r_store N j hj' hm hy hp fun h₁ oL₁ tk₁ N₁ n₁ => ?_)
  rw [List.set_append_left _ _ hlt] at N₁
  exact ⟨mC, nC.ns (N₁.at_ (C, oC) (by simp)), fun h' hs => hq h' oL₁ tk₁ (N₁.forget hC fun b o hne e => (hs.2 b hne).trans e) n₁⟩
/-- the rest of a comprehension, from its iterator on -/
noncomputable def CompG (w : World) (A : Around) (env : Env) (E : Value → Shared → Prop) (e : Expr) (scope : Scope) (cl : List (Str × Addr)) (newAcc : Sem Value) (use : Option (Value → Sem Unit)) (Q : Value → Shared → Prop) (it : Value) (s₂ : Shared) : Prop :=
  wpAny (MM w) A newAcc (fun acc s₃ => wpAny (MM w) A (newFunctionEnv scope env.globals cl [] env.qual none .none (some env)) (fun cenv s₄ =>
    codeAny (MM w) A (.compStart e 0 it acc { cenv with scope := relabel scope env }) (compPost (MM w) A E use Q acc cenv.locals) s₄) E s₃) E s₂
/-- a list comprehension in an expression -/
theorem r_lc {elt : Expr} {x : Str} {px : Pos} {iter : Expr} {ifs : List Expr} {rest : List Comprehension} {scope : Scope} {cl : List (Str × Addr)} {pos : Pos} {Q : Value → Shared → Prop}
    (hclos : closureFor scope env = pure cl) (hkind : scope.kind = .function) (hnames : (scope.names.all fun y => !decide (y.2 = .local) || decide (scope.names.lookup y.1 = some .local)) = true) (hs : ∀ x, foldedSetIterable iter env x = pure x)
    (hq : wpAny (MM w) A (eval iter env) (fun xv s₁ => wpAny (MM w) A (pyIter xv) (CompG w A env E (.ListComp elt (⟨.Name x px, iter, ifs, 0⟩ :: rest) scope pos) scope cl (newList []) none Q) E s₁) E s) :
    wpAny (MM w) A (eval (.ListComp elt (⟨.Name x px, iter, ifs, 0⟩ :: rest) scope pos) env) Q E s := by
  rw [eval_ListComp]
  exact wpAny_comprehension_free (use := none) rfl hs hclos hkind (fun y hy hl => by have := List.all_eq_true.mp hnames y hy; simpa [hl] using this) hq
/-- a dict comprehension in an expression -/
theorem r_dc {kx vx : Expr} {x : Str} {px : Pos} {iter : Expr} {ifs : List Expr} {rest : List Comprehension} {scope : Scope} {cl : List (Str × Addr)} {pos : Pos} {Q : Value → Shared → Prop}
    (hclos : closureFor scope env = pure cl) (hkind : scope.kind = .function) (hnames : (scope.names.all fun y => !decide (y.2 = .local) || decide (scope.names.lookup y.1 = some .local)) = true) (hs : ∀ x, foldedSetIterable iter env x = pure x)
    (hq : wpAny (MM w) A (eval iter env) (fun xv s₁ => wpAny (MM w) A (pyIter xv) (CompG w A env E (.DictComp kx vx (⟨.Name x px, iter, ifs, 0⟩ :: rest) scope pos) scope cl newDict none Q) E s₁) E s) :
    wpAny (MM w) A (eval (.DictComp kx vx (⟨.Name x px, iter, ifs, 0⟩ :: rest) scope pos) env) Q E s := by
  show wpAny (MM w) A (comprehension _ scope env (firstIterPos (⟨.Name x px, iter, ifs, 0⟩ :: rest) pos) newDict (firstAsync (⟨.Name x px, iter, ifs, 0⟩ :: rest)) (firstIter (⟨.Name x px, iter, ifs, 0⟩ :: rest) env)) _ _ _
  exact wpAny_comprehension_free (use := none) rfl hs hclos hkind (fun y hy hl => by have := List.all_eq_true.mp hnames y hy; simpa [hl] using this) hq
/-- y = [..], y a local -/
theorem r_lcA {elt : Expr} {x y : Str} {px py : Pos} {iter : Expr} {ifs : List Expr} {rest : List Comprehension} {scope : Scope} {cl : List (Str × Addr)} {pos spos : Pos} {Q : Flow → Shared → Prop}
    (hsw : swapsWith (.ListComp elt (⟨.Name x px, iter, ifs, 0⟩ :: rest) scope pos) (some (.Name y py)) spos.line env = pure true)
    (hclos : closureFor scope env = pure cl) (hkind : scope.kind = .function) (hnames : (scope.names.all fun y => !decide (y.2 = .local) || decide (scope.names.lookup y.1 = some .local)) = true) (hs : ∀ x, foldedSetIterable iter env x = pure x)
    (hq : wpAny (MM w) A (eval iter env) (fun xv s₁ => wpAny (MM w) A (pyIter xv) (CompG w A env E (.ListComp elt (⟨.Name x px, iter, ifs, 0⟩ :: rest) scope pos) scope cl (newList []) (some (assign (.Name y py) env)) (fun _ s' => Q .next s')) E s₁) E s) :
    wpAny (MM w) A (exec (.Assign [.Name y py] (.ListComp elt (⟨.Name x px, iter, ifs, 0⟩ :: rest) scope pos) spos) env) Q E s := by
  rw [exec_Assign_Name_used _ _ _ _ hsw]
  refine wpAny_bind (wpAny_standAt (wpAny_bind ?_))
  show wpAny _ A (do let _ ← comprehension (.ListComp elt (⟨.Name x px, iter, ifs, 0⟩ :: rest) scope pos) scope env _ (newList []) false (eval iter env) (some (assign (.Name y py) env))) _ _ s
  exact wpAny_bind (wpAny_mono (wpAny_comprehension_free (use := some (assign (.Name y py) env)) (Q := fun _ s' => Q .next s') rfl hs hclos hkind (fun y hy hl => by have := List.all_eq_true.mp hnames y hy; simpa [hl] using this) hq) (fun _ s' hq => wpAny_pure (wpAny_pure hq)) fun _ _ e => e)
/-- y = {..}, y a local -/
theorem r_dcA {kx vx : Expr} {x y : Str} {px py : Pos} {iter : Expr} {ifs : List Expr} {rest : List Comprehension} {scope : Scope} {cl : List (Str × Addr)} {pos spos : Pos} {Q : Flow → Shared → Prop}
    (hsw : swapsWith (.DictComp kx vx (⟨.Name x px, iter, ifs, 0⟩ :: rest) scope pos) (some (.Name y py)) spos.line env = pure true)
    (hclos : closureFor scope env = pure cl) (hkind : scope.kind = .function) (hnames : (scope.names.all fun y => !decide (y.2 = .local) || decide (scope.names.lookup y.1 = some .local)) = true) (hs : ∀ x, foldedSetIterable iter env x = pure x)
    (hq : wpAny (MM w) A (eval iter env) (fun xv s₁ => wpAny (MM w) A (pyIter xv) (CompG w A env E (.DictComp kx vx (⟨.Name x px, iter, ifs, 0⟩ :: rest) scope pos) scope cl newDict (some (assign (.Name y py) env)) (fun _ s' => Q .next s')) E s₁) E s) :
    wpAny (MM w) A (exec (.Assign [.Name y py] (.DictComp kx vx (⟨.Name x px, iter, ifs, 0⟩ :: rest) scope pos) spos) env) Q E s := by
  rw [exec_Assign_Name_used _ _ _ _ hsw]
  refine wpAny_bind (wpAny_standAt (wpAny_bind ?_))
  show wpAny _ A (do let _ ← comprehension (.DictComp kx vx (⟨.Name x px, iter, ifs, 0⟩ :: rest) scope pos) scope env _ newDict false (eval iter env) (some (assign (.Name y py) env))) _ _ s
  exact wpAny_bind (wpAny_mono (wpAny_comprehension_free (use := some (assign (.Name y py) env)) (Q := fun _ s' => Q .next s') rfl hs hclos hkind (fun y hy hl => by have := List.all_eq_true.mp hnames y hy; simpa [hl] using this) hq) (fun _ s' hq => wpAny_pure (wpAny_pure hq)) fun _ _ e => e)
/-- the list and the frame of a list comprehension -/
theorem lcFront {elt : Expr} {x : Str} {px : Pos} {iter : Expr} {ifs : List Expr} {rest : List Comprehension} {scope : Scope} {cl : List (Str × Addr)} {pos : Pos} {use : Option (Value → Sem Unit)} {Q : Value → Shared → Prop} {I : Addr} {oI : Obj} {fp : List Addr} {n : Nat} {P : Nat → Value → Prop} {Sh : Nat → Heap → Prop}
    (W : Walks PR w A I fp [I] n P Sh) (N : Now hb ch h (obs ++ [(I, oI)])) (h0 : Sh 0 h) (hcell : (scope.names.all fun y => !decide (y.2 = .cell)) = true) (hkind : scope.kind = .function)
    (hq : ∀ C D oC h' tk', C ∉ ch → NsObj oC (fun _ => none) → Now hb ch h' ((obs ++ [(D, lst []), (C, oC)]) ++ [(I, oI)]) → Sh 0 h' →
      codeAny (MM w) A (.compLoop (.ListComp elt (⟨.Name x px, iter, ifs, 0⟩ :: rest) scope pos) 0 (.ref I) (.ref D) (compEnvC scope cl C env)) (compPost (MM w) A E use Q (.ref D) C) (St s h' tk')) :
    CompG w A env E (.ListComp elt (⟨.Name x px, iter, ifs, 0⟩ :: rest) scope pos) scope cl (newList []) use Q (.ref I) (St s h tk) := by
  have N1 := N.allocE (lst []) rfl
  refine wpAny_newObj_type (wpAny_newFunctionEnv (fun y hy => by simpa using List.all_eq_true.mp hcell y hy) (by intro y hy; simp at hy) (fun h₁ hns₁ hsb₁ => ?_) hkind)
  dsimp only at hns₁ hsb₁ ⊢
  obtain ⟨oC, eC, nC⟩ := LCg.ns_obj hns₁
  have N2 := N1.allocE { cls := .type (if (some env).isSome then "dict" else "frame"), data := .dict #[] } rfl
  have N3 := (N2.front : Now hb ch _ ((_, _) :: _)).same 0 rfl hsb₁ eC
  have N4 : Now hb ch h₁ ((obs ++ [(h.objs.size, lst []), ((h.push (lst [])).objs.size, oC)]) ++ [(I, oI)]) := by
    refine N3.perm ?_
    simp only [List.append_assoc]
    refine List.Perm.trans ?_ (List.perm_append_comm (l₁ := obs ++ ([(I, oI)] ++ [(h.objs.size, lst [])])) (l₂ := [((h.push (lst [])).objs.size, oC)]))
    simp only [List.append_assoc]
    refine List.Perm.append_left _ ?_
    exact List.perm_append_comm (l₁ := [(h.objs.size, lst []), ((h.push (lst [])).objs.size, oC)]) (l₂ := [(I, oI)])
  have hC : (h.push (lst [])).objs.size ∉ ch := N1.size_ch
  have keep : ∀ b o, h.get? b = some o → h₁.get? b = some o := fun b o e => by
    have e1 : (h.push (lst [])).get? b = some o := Heap.get?_push_of_some _ e
    exact hsb₁.extBut b o (Nat.ne_of_lt (Heap.lt_size e1)) (Heap.get?_push_of_some _ e1)
  have h0' : Sh 0 h₁ := W.frame _ _ _ h0 fun b _ o e => keep b o e
  have loop : ∀ tk', codeAny (MM w) A (.compLoop (.ListComp elt (⟨.Name x px, iter, ifs, 0⟩ :: rest) scope pos) 0 (.ref I) (.ref h.objs.size) (compEnvC scope cl (h.push (lst [])).objs.size env)) (compPost (MM w) A E use Q (.ref h.objs.size) (h.push (lst [])).objs.size) (St s h₁ tk') := fun tk' =>
    hq _ _ oC h₁ tk' hC nC N4 h0'
  exact codeAny_compStart_list (loop _) (W.self 0 _ _ _ h0' (loop _))
/-- the dict and the frame of a dict comprehension -/
theorem dcFront {kx vx : Expr} {x : Str} {px : Pos} {iter : Expr} {ifs : List Expr} {rest : List Comprehension} {scope : Scope} {cl : List (Str × Addr)} {pos : Pos} {use : Option (Value → Sem Unit)} {Q : Value → Shared → Prop} {I : Addr} {oI : Obj} {fp : List Addr} {n : Nat} {P : Nat → Value → Prop} {Sh : Nat → Heap → Prop}
    (W : Walks PR w A I fp [I] n P Sh) (N : Now hb ch h (obs ++ [(I, oI)])) (h0 : Sh 0 h) (hcell : (scope.names.all fun y => !decide (y.2 = .cell)) = true) (hkind : scope.kind = .function)
    (hq : ∀ C D oD oC h' tk', C ∉ ch → NsObj oC (fun _ => none) → oD.IsDictOf (SK w) [] → D = h.objs.size → Now hb ch h' ((obs ++ [(D, oD), (C, oC)]) ++ [(I, oI)]) → Sh 0 h' →
      codeAny (MM w) A (.compLoop (.DictComp kx vx (⟨.Name x px, iter, ifs, 0⟩ :: rest) scope pos) 0 (.ref I) (.ref D) (compEnvC scope cl C env)) (compPost (MM w) A E use Q (.ref D) C) (St s h' tk')) :
    CompG w A env E (.DictComp kx vx (⟨.Name x px, iter, ifs, 0⟩ :: rest) scope pos) scope cl newDict use Q (.ref I) (St s h tk) := by
  obtain ⟨oa, ea, ia⟩ := Heap.dictOf_iff.mp (Heap.DictOf.new (knd := SK w) h)
  have e := ea
  rw [Heap.get?_push_size _ rfl] at e
  cases e
  have N1 := N.allocE { cls := .type "dict", data := .dict #[] } rfl
  refine wpAny_newObj_type (wpAny_newFunctionEnv (fun y hy => by simpa using List.all_eq_true.mp hcell y hy) (by intro y hy; simp at hy) (fun h₁ hns₁ hsb₁ => ?_) hkind)
  dsimp only at hns₁ hsb₁ ⊢
  obtain ⟨oC, eC, nC⟩ := LCg.ns_obj hns₁
  have N2 := N1.allocE { cls := .type (if (some env).isSome then "dict" else "frame"), data := .dict #[] } rfl
  have N3 := (N2.front : Now hb ch _ ((_, _) :: _)).same 0 rfl hsb₁ eC
  have N4 : Now hb ch h₁ ((obs ++ [(h.objs.size, { cls := .type "dict", data := .dict #[] }), ((h.push { cls := .type "dict", data := .dict #[] }).objs.size, oC)]) ++ [(I, oI)]) := by
    refine N3.perm ?_
    simp only [List.append_assoc]
    refine List.Perm.trans ?_ (List.perm_append_comm (l₁ := obs ++ ([(I, oI)] ++ [(h.objs.size, { cls := .type "dict", data := .dict #[] })])) (l₂ := [((h.push { cls := .type "dict", data := .dict #[] }).objs.size, oC)]))
    simp only [List.append_assoc]
    refine List.Perm.append_left _ ?_
    exact List.perm_append_comm (l₁ := [(h.objs.size, { cls := .type "dict", data := .dict #[] }), ((h.push { cls := .type "dict", data := .dict #[] }).objs.size, oC)]) (l₂ := [(I, oI)])
  have hC : (h.push { cls := .type "dict", data := .dict #[] }).objs.size ∉ ch := N1.size_ch
  have keep : ∀ b o, h.get? b = some o → h₁.get? b = some o := fun b o e => by
    have e1 : (h.push { cls := .type "dict", data := .dict #[] }).get? b = some o := Heap.get?_push_of_some _ e
    exact hsb₁.extBut b o (Nat.ne_of_lt (Heap.lt_size e1)) (Heap.get?_push_of_some _ e1)
  have h0' : Sh 0 h₁ := W.frame _ _ _ h0 fun b _ o e => keep b o e
  have loop : ∀ tk', codeAny (MM w) A (.compLoop (.DictComp kx vx (⟨.Name x px, iter, ifs, 0⟩ :: rest) scope pos) 0 (.ref I) (.ref h.objs.size) (compEnvC scope cl (h.push { cls := .type "dict", data := .dict #[] }).objs.size env)) (compPost (MM w) A E use Q (.ref h.objs.size) (h.push { cls := .type "dict", data := .dict #[] }).objs.size) (St s h₁ tk') := fun tk' =>
    hq _ _ _ oC h₁ tk' hC nC ia rfl N4 h0'
  exact codeAny_compStart_dict (loop _) (W.self 0 _ _ _ h0' (loop _))
end
end
section
open PySem PySem.W PySem.W.X PyProof.Rows PySem.Calls PySem.Spec PyProof
open LCg (NsObj)
set_option maxHeartbeats 1000000
section
variable {w : World} {A : Around} {s : Shared} {E : Value → Shared → Prop} {h hb : Heap} {tk : Nat} {ch : List Addr} {obs : List (Addr × Obj)} {env : Env}
/-- one turn of «for x, y in l», l a list -/
theorem forStep2 {R : Result → Shared → Prop} {xk xv : Str} {pk pv pt : Pos} {n1 : Nat} {I l t : Addr} {i : Nat} {items : Array Value} {body : List Stmt} {oI : Obj} {v1 v2 : Value} {oL : Obj} {m : Str → Option Value} {j : Nat}
    (hh : A.handled = none) (N : Now hb ch h ((I, oI) :: obs)) (hit : h.IsListIter I l i) (hl : h.IsList l items) (hx : items[i]? = some (.ref t)) (ht : ∀ h' : Heap, (∀ b o, b ≠ I → h.get? b = some o → h'.get? b = some o) → h'.IsTuple t #[v1, v2])
    (hj : obs[j]? = some (env.locals, oL)) (hm : NsObj oL m) (k1 : env.kindOf xk = some .local) (k2 : env.kindOf xv = some .local)
    (hp : (env.scope.kind == .class || (env.scope.kind == .module && env.locals != env.globals)) = false)
    (turn : ∀ h' oI' oL' tk' (E' : Value → Shared → Prop), Now hb ch h' ((I, oI') :: obs.set j (env.locals, oL')) → h'.IsListIter I l (i + 1) → NsObj oL' (up (up m xk v1) xv v2) →
      wpAny (MM w) A (execs body env) (fun f s₃ => match f with
          | .next | .cont => codeAny (MM w) A (.forLoop (.Tuple [.Name xk pk, .Name xv pv] n1 pt) (.ref I) body [] env) R s₃
          | .brk => R (.ok .next) s₃
          | .ret v => R (.ok (.ret v)) s₃) E' (St s h' tk')) :
    codeAny (MM w) A (.forLoop (.Tuple [.Name xk pk, .Name xv pv] n1 pt) (.ref I) body [] env) R (St s h tk) := by
  refine codeAny_of_tree ?_
  show wpAny _ A ((forTurn (.Tuple [.Name xk pk, .Name xv pv] n1 pt) (.ref I) body [] env).onRaise (fun x => do noteFrame x env; theTreesLotGoes x)) _ _ _
  refine wpAny_noted ?_
  simp only [forTurn]
  refine wpAny_bind (wpAny_standAt (wpAny_bind (wpAny_onRaise ?_)))
  refine wpAny_pyNext_list_item (s := St s h tk) hit hl hx fun h₁ hit₁ hs₁ => ?_
  obtain ⟨o₁, e₁, i₁⟩ := id hit₁
  have N₁ := N.same 0 rfl hs₁ e₁
  refine wpAny_bind (wpAny_letOwnedTupleGo_listiter hit₁ ?_)
  refine wpAny_bind (r_assign2 (s := s) hh N₁ (j + 1) hj hm (ht h₁ fun b o hne e => (hs₁.2 b hne).trans e) k1 k2 hp fun h₂ oL₂ tk₂ N₂ n₂ => ?_)
  refine wpAny_bind (wpAny_mono (turn h₂ o₁ oL₂ tk₂ _ N₂ ⟨o₁, N₂.get 0 rfl, i₁⟩ n₂) (fun f s₃ h₃ => ?_) fun _ _ e => e)
  cases f with
  | next => exact wpAny_pure ⟨rfl, h₃⟩
  | cont => exact wpAny_pure ⟨rfl, h₃⟩
  | brk => exact wpAny_pure h₃
  | ret v => exact wpAny_pure h₃
/-- a for over a list ends -/
theorem forEndL {R : Result → Shared → Prop} {target : Expr} {I l : Addr} {i : Nat} {items : Array Value} {body : List Stmt} {oI : Obj}
    (hh : A.handled = none) (hIc : I ∉ ch) (N : Now hb ch h ((I, oI) :: obs)) (hit : h.IsListIter I l i) (hl : h.IsList l items) (hx : items[i]? = none)
    (done : ∀ h', Now hb ch h' obs → R (.ok .next) (St s h' tk)) :
    codeAny (MM w) A (.forLoop target (.ref I) body [] env) R (St s h tk) := by
  refine codeAny_of_tree ?_
  show wpAny _ A ((forTurn target (.ref I) body [] env).onRaise (fun x => do noteFrame x env; theTreesLotGoes x)) _ _ _
  refine wpAny_noted ?_
  simp only [forTurn]
  refine wpAny_bind (wpAny_standAt (wpAny_bind (wpAny_onRaise ?_)))
  refine wpAny_pyNext_list_end (s := St s h tk) hh hit hl hx fun h₁ hk => ?_
  exact wpAny_pure ⟨rfl, codeAny_block (wpAny_execs_nil (done h₁ (N.off hIc fun b o hne e => hk b o hne e)))⟩
end
noncomputable def bCmp : List Stmt := defBody "compare" (clsBody "TupleComp" PR.main.body)
section
variable {w : World} {A : Around} {s : Shared} {E : Value → Shared → Prop} {h : Heap} {tk : Nat}
noncomputable def bCmpF : List Stmt := forN (nthS bCmp 0)
noncomputable abbrev eC (w : World) (L : Addr) : Env := callEnv (fnAt (KK w.params) 94) L 94
/-- the body of compare's loop -/
theorem cmp_body {hb : Heap} {I L a b : Addr} {oI oL : Obj} {m : Str → Option Value} {Q : Flow → Shared → Prop} {i di : Int} {ti td tl tr : Tok} {va vb : Array Value} {la lb : Int} {j : Nat}
    (N : Now hb [] h [(I, oI), (L, oL)]) (nL : NsObj oL m) (m1 : m (S "left") = some (.ref a)) (m2 : m (S "right") = some (.ref b)) (m3 : m (S "index") = some (.int i ti)) (m4 : m (S "direction") = some (.int di td))
    (ha : IsTup hb a va) (hbb : IsTup hb b vb) (hi0 : 0 ≤ i) (hi : i < 3) (ja : seqIndex? i va.size = some j) (jb : seqIndex? i vb.size = some j) (xa : va[j]? = some (.int la tl)) (xb : vb[j]? = some (.int lb tr))
    (hlt : la < lb → ∀ h' tk' t, Now hb [] h' [] → Q (.ret (.int (-di) t)) (St s h' tk'))
    (hgt : lb < la → ∀ h' tk' t, Now hb [] h' [] → Q (.ret (.int di t)) (St s h' tk'))
    (heq : la = lb → ∀ h' tk' oI' oL' m', Now hb [] h' [(I, oI'), (L, oL')] → oI' = oI → NsObj oL' m' → m' (S "left") = some (.ref a) → m' (S "right") = some (.ref b) → Q .next (St s h' tk')) :
    wpAny (MM w) A (execs bCmpF (eC w L)) Q E (St s h tk) := by
  conv => arg 3; arg 1; whnf
  have tup : ∀ {h' : Heap} {c : Addr} {v : Array Value} {obs : List (Addr × Obj)}, Now hb [] h' obs → IsTup hb c v → IsTup h' c v := fun N' x => let ⟨o, e, r⟩ := x; ⟨o, N'.keep _ _ e (by simp), r⟩
  refine wpAny_execs_cons (wpAny_Assign_Name (Subscript_ (r_name (s := s) (v := .ref a) (N.get 1 rfl) nL m1 (by kernel_rfl) (by kernel_rfl) (r_name (s := s) (v := .int i ti) (N.get 1 rfl) nL m3 (by kernel_rfl) (by kernel_rfl) ?_))) (by kernel_rfl))
  refine item_tuple (tup N ha) (by lia) (by lia) ja xa ?_
  refine r_store N 1 rfl nL (by kernel_rfl) (by kernel_rfl) fun h₂ o₂ tk₂ N₂ n₂ => ?_
  replace N₂ : Now hb [] h₂ [(I, oI), (L, o₂)] := N₂
  have q2 : ∀ {x v}, ((x == S "l") = false) → m x = some v → up m (S "l") (.int la tl) x = some v := fun e z => (up_ne e).trans z
  refine wpAny_execs_cons (wpAny_Assign_Name (Subscript_ (r_name (s := s) (v := .ref b) (N₂.get 1 rfl) n₂ (q2 (by kernel_rfl) m2) (by kernel_rfl) (by kernel_rfl) (r_name (s := s) (v := .int i ti) (N₂.get 1 rfl) n₂ (q2 (by kernel_rfl) m3) (by kernel_rfl) (by kernel_rfl) ?_))) (by kernel_rfl))
  refine item_tuple (tup N₂ hbb) (by lia) (by lia) jb xb ?_
  refine r_store N₂ 1 rfl n₂ (by kernel_rfl) (by kernel_rfl) fun h₃ o₃ tk₃ N₃ n₃ => ?_
  replace N₃ : Now hb [] h₃ [(I, oI), (L, o₃)] := N₃
  have q3 : ∀ {x v}, ((x == S "l") = false) → ((x == S "r") = false) → m x = some v → up (up m (S "l") (.int la tl)) (S "r") (.int lb tr) x = some v := fun e e' z => (up_ne e').trans ((up_ne e).trans z)
  have ql : up (up m (S "l") (.int la tl)) (S "r") (.int lb tr) (S "l") = some (.int la tl) := (up_ne (by kernel_rfl)).trans (up_self _ _ _)
  have qr : up (up m (S "l") (.int la tl)) (S "r") (.int lb tr) (S "r") = some (.int lb tr) := up_self _ _ _
  refine wpAny_execs_cons (wpAny_If (wpAny_isTrue_Compare1 (r_name (s := s) (N₃.get 1 rfl) n₃ ql (by kernel_rfl) (by kernel_rfl) (r_name (s := s) (N₃.get 1 rfl) n₃ qr (by kernel_rfl) (by kernel_rfl) (PyProof.Rows.lt_int (wpAny_truthy_bool ?_)))) (by kernel_rfl)))
  by_cases c1 : la < lb
  · rw [decide_eq_true c1, if_pos rfl]
    refine wpAny_execs_cons (wpAny_Return_some (wpAny_UnaryOp (r_name (s := s) (N₃.get 1 rfl) n₃ (q3 (by kernel_rfl) (by kernel_rfl) m4) (by kernel_rfl) (by kernel_rfl) (neg_int ?_))))
    exact hlt c1 h₃ _ _ (N₃.sub (List.nil_sublist _))
  · rw [decide_eq_false c1, if_neg (by decide)]
    refine wpAny_execs_nil ?_
    refine wpAny_execs_cons (wpAny_If (wpAny_isTrue_Compare1 (r_name (s := s) (N₃.get 1 rfl) n₃ ql (by kernel_rfl) (by kernel_rfl) (r_name (s := s) (N₃.get 1 rfl) n₃ qr (by kernel_rfl) (by kernel_rfl) (PyProof.Rows.gt_int (wpAny_truthy_bool ?_)))) (by kernel_rfl)))
    by_cases c2 : lb < la
    · rw [decide_eq_true c2, if_pos rfl]
      refine wpAny_execs_cons (wpAny_Return_some (r_name (s := s) (N₃.get 1 rfl) n₃ (q3 (by kernel_rfl) (by kernel_rfl) m4) (by kernel_rfl) (by kernel_rfl) ?_))
      exact hgt c2 h₃ _ _ (N₃.sub (List.nil_sublist _))
    · rw [decide_eq_false c2, if_neg (by decide)]
      refine wpAny_execs_nil (wpAny_execs_nil ?_)
      exact heq (by lia) h₃ _ _ _ _ N₃ rfl n₃ (q3 (by kernel_rfl) (by kernel_rfl) m1) (q3 (by kernel_rfl) (by kernel_rfl) m2)
theorem compare_spec {Q : Value → Shared → Prop} (hh : A.handled = none) (X : (KK w.params).In h) (hroom : A.depth < recursionLimit) {tc dt cl e0 e1 a b : Addr} {od : Obj} {mT : Str → Option Value} {pa ca pb cb way : Int} {na nb : Value} {t2 t3 t5 t6 t7 t8 t9 t10 : Tok}
    (hx : h.get? tc = some (instObj 97 dt)) (hdt : h.get? dt = some od) (io : NsObj od mT) (hm : mT (S "comp_select_list") = some (.ref cl)) (hcl : h.IsList cl #[.ref e0, .ref e1])
    (he0 : h.IsTuple e0 #[.int 0 t2, .int 1 t3]) (he1 : h.IsTuple e1 #[.int 1 t5, .int way t6]) (ha : IsTup h a #[.int pa t7, .int ca t8, na]) (hb : IsTup h b #[.int pb t9, .int cb t10, nb]) (hw : way = 1 ∨ way = -1)
    (hQ : ∀ h' tk' c t, Now h [] h' [] → (c ≤ 0 ↔ pa < pb ∨ (pa = pb ∧ way * ca ≤ way * cb)) → Q (.int c t) (St s h' tk')) :
    wpAny (MM w) A (call (.ref 94) [.ref tc, .ref a, .ref b]) Q E (St s h tk) := by
  refine callF (s := St s h tk) X hroom (o := obAt (KK w.params) 94) (fd := fnAt (KK w.params) 94) (body := bCmp) (binds := [(S "self", .ref tc), (S "left", .ref a), (S "right", .ref b)]) (by kernel_rfl) (by kernel_rfl) (by kernel_rfl) (by kernel_rfl) (by kernel_rfl) (by kernel_rfl) (by kernel_rfl) (by kernel_rfl) (by kernel_rfl) (by kernel_rfl) ?_
  intro h₁ oL E' N nL
  conv => arg 3; arg 1; whnf
  show wpAny _ _ _ _ _ (St s h₁ _)
  generalize h.objs.size = L at N ⊢
  have X₁ : (KK w.params).In h₁ := kk_keep X N (by simp)
  have g := N.get 0 rfl
  have hh' : (A.deeper (eC w L)).handled = none := hh
  refine wpAny_execs_cons (wpAny_For (Attribute_name (r_name (s := s) (v := .ref tc) g nL (by kernel_rfl) (by kernel_rfl) (by kernel_rfl) ?_)) (by intro _; kernel_rfl))
  refine r_attr X₁ (N.old hx (by simp)) (N.old hdt (by simp)) io (by kernel_rfl) (by kernel_rfl) (by kernel_rfl) hm (by rfl) fun tk₂ => ?_
  have lst : ∀ {h' : Heap} {obs : List (Addr × Obj)}, Now h [] h' obs → h'.IsList cl #[.ref e0, .ref e1] := fun N' => let ⟨o, e, r⟩ := hcl; ⟨o, N'.keep _ _ e (by simp), r⟩
  refine wpAny_pyIter_list (lst N) ?_
  have N₂ := N.alloc { cls := .type "list_iterator", data := .fields #[.ref cl, .int 0 0] } rfl
  have hI : (h₁.push { cls := .type "list_iterator", data := .fields #[.ref cl, .int 0 0] }).IsListIter h₁.objs.size cl 0 := ⟨_, N₂.get 0 rfl, rfl, rfl⟩
  generalize h₁.push { cls := .type "list_iterator", data := .fields #[.ref cl, .int 0 0] } = h₂ at N₂ hI ⊢
  generalize h₁.objs.size = I at N₂ hI ⊢
  have tupE : ∀ {h' : Heap} {obs : List (Addr × Obj)} {e : Addr} {vs : Array Value}, Now h [] h' obs → h.IsTuple e vs → h'.IsTuple e vs := fun N' x => let ⟨o, e, r⟩ := x; ⟨o, N'.keep _ _ e (by simp), r⟩
  have stay : ∀ {h' : Heap} {e : Addr} {vs : Array Value} {hx : Heap} {obs}, Now h [] hx obs → (hx.get? I).isSome → h.get? I = none → (∀ b o, b ≠ I → hx.get? b = some o → h'.get? b = some o) → h.IsTuple e vs → h'.IsTuple e vs := by
    intro h' e vs hx obs N' _ hn hk x
    obtain ⟨o, eo, r⟩ := x
    exact ⟨o, hk _ _ (fun q => by rw [q, hn] at eo; cases eo) (N'.keep _ _ eo (by simp)), r⟩
  have hIn : h.get? I = none := by rcases N₂.ok _ (.head _) with z | z; · cases z
                                   · exact z
  refine forStep2 (j := 0) hh' N₂ hI (lst N₂) rfl (fun h' hk => stay N₂ (by rw [N₂.get 0 rfl]; rfl) hIn hk he0) rfl nL (by kernel_rfl) (by kernel_rfl) (by kernel_rfl) fun h₃ oI₃ oL₃ tk₃ E₃ N₃ hI₃ n₃ => ?_
  refine cmp_body (i := 0) (di := 1) (la := pa) (lb := pb) (j := 0) N₃ n₃ ((up_ne (by kernel_rfl)).trans ((up_ne (by kernel_rfl)).trans (by kernel_rfl))) ((up_ne (by kernel_rfl)).trans ((up_ne (by kernel_rfl)).trans (by kernel_rfl))) ((up_ne (by kernel_rfl)).trans (up_self _ _ _)) (up_self _ _ _) ha hb (by lia) (by lia) rfl rfl rfl rfl ?_ ?_ ?_
  · intro hlt h' tk' t N'
    exact hQ h' tk' _ t N' (by constructor <;> intro _ <;> lia)
  · intro hlt h' tk' t N'
    exact hQ h' tk' _ t N' (by constructor <;> intro _ <;> lia)
  · rintro heq h₄ tk₄ oI₄ oL₄ m₄ N₄ rfl n₄ hl hr
    have hI₄ : h₄.IsListIter I cl 1 := by obtain ⟨o, e, r⟩ := hI₃; rw [N₃.get 0 rfl] at e; cases e; exact ⟨_, N₄.get 0 rfl, r⟩
    refine forStep2 (j := 0) hh' N₄ hI₄ (lst N₄) rfl (fun h' hk => stay N₄ (by rw [N₄.get 0 rfl]; rfl) hIn hk he1) rfl n₄ (by kernel_rfl) (by kernel_rfl) (by kernel_rfl) fun h₅ oI₅ oL₅ tk₅ E₅ N₅ hI₅ n₅ => ?_
    refine cmp_body (i := 1) (di := way) (la := ca) (lb := cb) (j := 1) N₅ n₅ ((up_ne (by kernel_rfl)).trans ((up_ne (by kernel_rfl)).trans hl)) ((up_ne (by kernel_rfl)).trans ((up_ne (by kernel_rfl)).trans hr)) ((up_ne (by kernel_rfl)).trans (up_self _ _ _)) (up_self _ _ _) ha hb (by lia) (by lia) rfl rfl rfl rfl ?_ ?_ ?_
    · intro hlt h' tk' t N'
      exact hQ h' tk' _ t N' (by rcases hw with rfl | rfl <;> constructor <;> intro _ <;> lia)
    · intro hlt h' tk' t N'
      exact hQ h' tk' _ t N' (by rcases hw with rfl | rfl <;> constructor <;> intro _ <;> lia)
    · rintro heq' h₆ tk₆ oI₆ oL₆ m₆ N₆ rfl n₆ hl₆ hr₆
      have hI₆ : h₆.IsListIter I cl 2 := by obtain ⟨o, e, r⟩ := hI₅; rw [N₅.get 0 rfl] at e; cases e; exact ⟨_, N₆.get 0 rfl, r⟩
      refine forEndL hh' (by simp) N₆ hI₆ (lst N₆) rfl fun h₇ N₇ => ?_
      refine wpAny_execs_cons (wpAny_Return_some (r_int (s := s) fun t tk₇ => ?_))
      exact hQ h₇ tk₇ _ t (N₇.sub (List.nil_sublist _)) (by subst heq heq'; simp)
end
end
section
open PySem PySem.W PySem.W.X PyProof.Rows PySem.Calls PySem.Spec PyProof
open LCg (NsObj lst)
set_option maxHeartbeats 1000000
theorem get_app {α : Type} (l m : List α) (i : Nat) : (l ++ m)[l.length + i]? = m[i]? := by rw [List.getElem?_append_right (Nat.le_add_right _ _), Nat.add_sub_cancel_left]
theorem set_app {α : Type} (l m : List α) (i : Nat) (x : α) : (l ++ m).set (l.length + i) x = l ++ m.set i x := by rw [List.set_append_right _ _ (Nat.le_add_right _ _), Nat.add_sub_cancel_left]
theorem get_app0 {α : Type} (l m : List α) : (l ++ m)[l.length]? = m[0]? := get_app l m 0
theorem set_app0 {α : Type} (l m : List α) (x : α) : (l ++ m).set l.length x = l ++ m.set 0 x := set_app l m 0 x
section
variable {w : World} {A : Around} {s : Shared} {h : Heap} {tk : Nat} {E : Value → Shared → Prop} {env : Env} {hb : Heap} {ch : List Addr} {obs : List (Addr × Obj)}
/-- what a walk asks of the places that it does not write -/
noncomputable def Stays (hb : Heap) (ch : List Addr) (I : Addr) (Sh : Nat → Heap → Prop) (J : Nat → List (Addr × Obj) → Prop) : Prop :=
  ∀ i h h' o obs', Sh i h → h.get? I = some o → h'.get? I = some o → J i obs' → (∀ p ∈ obs', h'.get? p.1 = some p.2) → (∀ b o, hb.get? b = some o → b ∉ ch → h'.get? b = some o) → Sh i h'
theorem lcAll {elt : Expr} {x : Str} {px : Pos} {iter : Expr} {ifs : List Expr} {scope : Scope} {cl : List (Str × Addr)} {pos : Pos} {use : Option (Value → Sem Unit)} {Q : Value → Shared → Prop} {I : Addr} {oI : Obj} {fp : List Addr} {n : Nat} {P : Nat → Value → Prop} {Sh : Nat → Heap → Prop}
    (Jt : Nat → List (Addr × Obj) → List Value → Prop) (W : Walks PR w A I fp [I] n P Sh) (hI : ∀ i h, Sh i h → ∃ o, h.get? I = some o) (hIc : I ∉ ch)
    (hcell : (scope.names.all fun y => !decide (y.2 = .cell)) = true) (hkind : scope.kind = .function) (hx : ∀ C, (compEnvC scope cl C env).kindOf x = some .local)
    (hn : n ≤ 1000) (hSh : Stays hb ch I Sh fun i obs' => ∃ items, Jt i obs' items)
    (N : Now hb ch h (obs ++ [(I, oI)])) (h0 : Sh 0 h) (hJ : Jt 0 obs [])
    (turn : ∀ i v h' tk' C D oC mC oI' obs' items (E' : Value → Shared → Prop), i < n → P i v → Jt i obs' items → NsObj oC mC → mC x = some v → Now hb ch h' (obs' ++ [(D, lst items), (C, oC), (I, oI')]) →
      wpAny (MM w) A (tests ifs (compEnvC scope cl C env)) (fun ok s₃ =>
        if ok = true then wpAny (MM w) A (eval elt (compEnvC scope cl C env)) (fun val s₄ => ∃ h'' tk'' obs'', s₄ = St s h'' tk'' ∧ Jt (i + 1) obs'' (items ++ [val]) ∧ Now hb ch h'' (obs'' ++ [(D, lst items), (C, oC), (I, oI')])) E' s₃
        else ∃ h'' tk'' obs'', s₃ = St s h'' tk'' ∧ Jt (i + 1) obs'' items ∧ Now hb ch h'' (obs'' ++ [(D, lst items), (C, oC), (I, oI')])) E' (St s h' tk'))
    (done : ∀ h' tk' C D oC mC obs' items, Jt n obs' items → NsObj oC mC → C ∉ ch → Now hb ch h' ((obs' ++ [(D, lst items)]) ++ [(C, oC)]) → compPost (MM w) A E use Q (.ref D) C (.ok .next) (St s h' tk')) :
    CompG w A env E (.ListComp elt [⟨.Name x px, iter, ifs, 0⟩] scope pos) scope cl (newList []) use Q (.ref I) (St s h tk) := by
  refine lcFront W N h0 hcell hkind fun C D oC h₁ tk₁ hC nC N₁ h₁0 => ?_
  refine compJ (B := do let _ ← call (.builtin "list.append") [.ref D, ← eval elt (compEnvC scope cl C env)]) rfl rfl rfl W hI hIc
    (fun i obsJ => ∃ obs' items oC mC, obsJ = obs' ++ [(D, lst items), (C, oC)] ∧ NsObj oC mC ∧ Jt i obs' items ∧ items.length ≤ i) ?_ N₁ h₁0 ⟨obs, [], oC, _, rfl, nC, hJ, Nat.le_refl _⟩ ?_ ?_
  · intro i h h' o _ hs e e' hz1 N'
    refine Classical.byContradiction fun hng => ?_
    obtain ⟨obs', items, oC', mC', rfl, _, j, _⟩ := hz1
    refine hng ?_
    exact hSh i h h' o obs' hs e e' ⟨items, j⟩ (fun p hp => N'.at_ p (by simp [hp])) N'.keep
  · intro i v h' tk' oI' _ E' hi hP hz2 N'
    refine Classical.byContradiction fun hng => ?_
    obtain ⟨obs', items, oC', mC', rfl, nC', j, hlen⟩ := hz2
    refine hng ?_
    have hk2 : ∀ C, ((compEnvC scope cl C env).scope.kind == .class || ((compEnvC scope cl C env).scope.kind == .module && (compEnvC scope cl C env).locals != (compEnvC scope cl C env).globals)) = false := fun C => by
      have : (compEnvC scope cl C env).scope.kind = .function := hkind
      rw [this]; rfl
    have hidx : ((obs' ++ [(D, lst items), (C, oC')]) ++ [(I, oI')])[obs'.length + 1]? = some ((compEnvC scope cl C env).locals, oC') := by
      rw [List.append_assoc, get_app]; rfl
    refine r_store N' _ hidx nC' (hx C) (hk2 C) fun h₂ o₂ tk₂ N₂ n₂ => ?_
    have N₃ : Now hb ch h₂ (obs' ++ [(D, lst items), (C, o₂), (I, oI')]) := by
      have e : ((obs' ++ [(D, lst items), (C, oC')]) ++ [(I, oI')]).set (obs'.length + 1) (C, o₂) = obs' ++ [(D, lst items), (C, o₂), (I, oI')] := by
        rw [List.append_assoc, set_app]; rfl
      rw [← e]; exact N₂
    refine wpAny_mono (turn i v h₂ tk₂ C D o₂ _ oI' obs' items E' hi hP j n₂ (up_self _ _ _) N₃) (fun ok s₃ h₃ => ?_) fun _ _ e => e
    cases ok with
    | false =>
      simp only [Bool.false_eq_true, if_false] at h₃ ⊢
      refine Classical.byContradiction fun hng => ?_
      obtain ⟨h'', tk'', obs'', rfl, j', N''⟩ := h₃
      refine hng ?_
      exact ⟨h'', tk'', _, rfl, ⟨obs'', items, o₂, _, rfl, n₂, j', by lia⟩, by rw [List.append_assoc]; exact N''⟩
    | true =>
      simp only [if_true] at h₃ ⊢
      refine wpAny_bind (wpAny_mono h₃ (fun val s₄ h₄ => ?_) fun _ _ e => e)
      refine Classical.byContradiction fun hng => ?_
      obtain ⟨h'', tk'', obs'', rfl, j', N''⟩ := h₄
      refine hng ?_
      have hD : (obs'' ++ [(D, lst items), (C, o₂), (I, oI')])[obs''.length]? = some (D, lst items) := by
        rw [get_app0]; rfl
      refine wpAny_bind (append_at (N''.get _ hD) (fun h₅ hs₅ e₅ => ?_) (by rw [sizeLine_eq, List.size_toArray]; lia))
      have e₅' : h₅.get? D = some (lst (items ++ [val])) := by rw [e₅]; simp [lst]
      have N₅ := N''.same _ hD hs₅ e₅'
      have e : (obs'' ++ [(D, lst items), (C, o₂), (I, oI')]).set obs''.length (D, lst (items ++ [val])) = (obs'' ++ [(D, lst (items ++ [val])), (C, o₂)]) ++ [(I, oI')] := by
        rw [set_app0, List.append_assoc]; rfl
      rw [e] at N₅
      exact wpAny_pure ⟨h₅, tk'', _, rfl, ⟨obs'', items ++ [val], o₂, _, rfl, n₂, j', by rw [List.length_append, List.length_singleton]; lia⟩, N₅⟩
  · intro h' tk' _ hz3 N'
    refine Classical.byContradiction fun hng => ?_
    obtain ⟨obs', items, oC', mC', rfl, nC', j, hlen⟩ := hz3
    refine hng ?_
    exact done h' tk' C D oC' mC' obs' items j nC' hC (by rw [List.append_assoc]; exact N')
theorem dcAll {kx vx : Expr} {x : Str} {px : Pos} {iter : Expr} {ifs : List Expr} {scope : Scope} {cl : List (Str × Addr)} {pos : Pos} {use : Option (Value → Sem Unit)} {Q : Value → Shared → Prop} {I : Addr} {oI : Obj} {fp : List Addr} {n : Nat} {P : Nat → Value → Prop} {Sh : Nat → Heap → Prop}
    (Jt : Nat → List (Addr × Obj) → List (Str × Value) → Prop) (W : Walks PR w A I fp [I] n P Sh) (hI : ∀ i h, Sh i h → ∃ o, h.get? I = some o) (hIc : I ∉ ch)
    (hcell : (scope.names.all fun y => !decide (y.2 = .cell)) = true) (hkind : scope.kind = .function) (hx : ∀ C, (compEnvC scope cl C env).kindOf x = some .local)
    (hn : n ≤ 1000) (hSh : Stays hb ch I Sh fun i obs' => ∃ items, Jt i obs' items)
    (N : Now hb ch h (obs ++ [(I, oI)])) (h0 : Sh 0 h) (hJ : Jt 0 obs [])
    (turn : ∀ i v h' tk' C D oC mC oI' oD obs' kvs (E' : Value → Shared → Prop), i < n → P i v → Jt i obs' kvs → NsObj oC mC → mC x = some v → Now hb ch h' (obs' ++ [(D, oD), (C, oC), (I, oI')]) →
      wpAny (MM w) A (tests ifs (compEnvC scope cl C env)) (fun ok s₃ =>
        if ok = true then wpAny (MM w) A (eval kx (compEnvC scope cl C env)) (fun kv s₄ => wpAny (MM w) A (eval vx (compEnvC scope cl C env)) (fun vv s₅ => ∃ k h'' tk'' obs'', s₅ = St s h'' tk'' ∧ (SK w).is k kv = true ∧ Jt (i + 1) obs'' (stored kvs k vv) ∧ Now hb ch h'' (obs'' ++ [(D, oD), (C, oC), (I, oI')])) E' s₄) E' s₃
        else ∃ h'' tk'' obs'', s₃ = St s h'' tk'' ∧ Jt (i + 1) obs'' kvs ∧ Now hb ch h'' (obs'' ++ [(D, oD), (C, oC), (I, oI')])) E' (St s h' tk'))
    (done : ∀ h' tk' C D oC oD mC obs' kvs, Jt n obs' kvs → NsObj oC mC → oD.IsDictOf (SK w) kvs → h.objs.size ≤ D → C ∉ ch → Now hb ch h' ((obs' ++ [(D, oD)]) ++ [(C, oC)]) → compPost (MM w) A E use Q (.ref D) C (.ok .next) (St s h' tk')) :
    CompG w A env E (.DictComp kx vx [⟨.Name x px, iter, ifs, 0⟩] scope pos) scope cl newDict use Q (.ref I) (St s h tk) := by
  refine dcFront W N h0 hcell hkind fun C D oD oC h₁ tk₁ hC nC iD eD N₁ h₁0 => ?_
  refine compJ (B := do
      let kv ← eval kx (compEnvC scope cl C env)
      let vv ← holding [kv] (eval vx (compEnvC scope cl C env))
      standAt { kx.pos with endLine := vx.pos.endLine, endCol := vx.pos.endCol }
      holding [kv, vv] (dictSet D kv vv)) rfl rfl rfl W hI hIc
    (fun i obsJ => ∃ obs' kvs oC oD mC, obsJ = obs' ++ [(D, oD), (C, oC)] ∧ NsObj oC mC ∧ oD.IsDictOf (SK w) kvs ∧ Jt i obs' kvs ∧ kvs.length ≤ i) ?_ N₁ h₁0 ⟨obs, [], oC, oD, _, rfl, nC, iD, hJ, Nat.le_refl _⟩ ?_ ?_
  · intro i h h' o _ hs e e' hz4 N'
    refine Classical.byContradiction fun hng => ?_
    obtain ⟨obs', items, oC', oD', mC', rfl, _, _, j, _⟩ := hz4
    refine hng ?_
    exact hSh i h h' o obs' hs e e' ⟨items, j⟩ (fun p hp => N'.at_ p (by simp [hp])) N'.keep
  · intro i v h' tk' oI' _ E' hi hP hz5 N'
    refine Classical.byContradiction fun hng => ?_
    obtain ⟨obs', kvs, oC', oD', mC', rfl, nC', iD', j, hlen⟩ := hz5
    refine hng ?_
    have hk2 : ∀ C, ((compEnvC scope cl C env).scope.kind == .class || ((compEnvC scope cl C env).scope.kind == .module && (compEnvC scope cl C env).locals != (compEnvC scope cl C env).globals)) = false := fun C => by
      have : (compEnvC scope cl C env).scope.kind = .function := hkind
      rw [this]; rfl
    have hidx : ((obs' ++ [(D, oD'), (C, oC')]) ++ [(I, oI')])[obs'.length + 1]? = some ((compEnvC scope cl C env).locals, oC') := by
      rw [List.append_assoc, get_app]; rfl
    refine r_store N' _ hidx nC' (hx C) (hk2 C) fun h₂ o₂ tk₂ N₂ n₂ => ?_
    have N₃ : Now hb ch h₂ (obs' ++ [(D, oD'), (C, o₂), (I, oI')]) := by
      have e : ((obs' ++ [(D, oD'), (C, oC')]) ++ [(I, oI')]).set (obs'.length + 1) (C, o₂) = obs' ++ [(D, oD'), (C, o₂), (I, oI')] := by
        rw [List.append_assoc, set_app]; rfl
      rw [← e]; exact N₂
    refine wpAny_mono (turn i v h₂ tk₂ C D o₂ _ oI' oD' obs' kvs E' hi hP j n₂ (up_self _ _ _) N₃) (fun ok s₃ h₃ => ?_) fun _ _ e => e
    cases ok with
    | false =>
      simp only [Bool.false_eq_true, if_false] at h₃ ⊢
      refine Classical.byContradiction fun hng => ?_
      obtain ⟨h'', tk'', obs'', rfl, j', N''⟩ := h₃
      refine hng ?_
      exact ⟨h'', tk'', _, rfl, ⟨obs'', kvs, o₂, oD', _, rfl, n₂, iD', j', by lia⟩, by rw [List.append_assoc]; exact N''⟩
    | true =>
      simp only [if_true] at h₃ ⊢
      refine wpAny_bind (wpAny_mono h₃ (fun kv s₄ h₄ => wpAny_bind (wpAny_holding (wpAny_mono h₄ (fun vv s₅ h₅ => wpAny_bind (wpAny_standAt (wpAny_holding ?_))) fun _ _ e => e))) fun _ _ e => e)
      refine Classical.byContradiction fun hng => ?_
      obtain ⟨k, h'', tk'', obs'', rfl, hkey, j', N''⟩ := h₅
      refine hng ?_
      have hD : (obs'' ++ [(D, oD'), (C, o₂), (I, oI')])[obs''.length]? = some (D, oD') := by
        rw [get_app0]; rfl
      refine wpAny_dictSet_pairs (knd := SK w) (s := St s h'' tk'') (hsz := by rw [sizeLine_eq]; lia) hkey (dictOf_at (N''.get _ hD) iD') fun h₆ hl₆ hs₆ => ?_
      obtain ⟨o₆, e₆, i₆⟩ := Heap.dictOf_iff.mp hl₆
      have N₅ := N''.same _ hD hs₆ e₆
      have e : (obs'' ++ [(D, oD'), (C, o₂), (I, oI')]).set obs''.length (D, o₆) = (obs'' ++ [(D, o₆), (C, o₂)]) ++ [(I, oI')] := by
        rw [set_app0, List.append_assoc]; rfl
      rw [e] at N₅
      exact ⟨h₆, _, _, rfl, ⟨obs'', stored kvs k vv, o₂, o₆, _, rfl, n₂, i₆, j', by have := stored_length_le kvs k vv; lia⟩, N₅⟩
  · intro h' tk' _ hz6 N'
    refine Classical.byContradiction fun hng => ?_
    obtain ⟨obs', items, oC', oD', mC', rfl, nC', iD', j, hlen⟩ := hz6
    refine hng ?_
    exact done h' tk' C D oC' oD' mC' obs' items j nC' iD' (by rw [eD]; exact Nat.le_refl _) hC (by rw [List.append_assoc]; exact N')
end
end
section
open PySem PySem.W PySem.W.X PyProof.Rows PySem.Calls PySem.Spec PyProof
open LCg (NsObj lst)
set_option maxHeartbeats 1000000
theorem slice_post {x : Str} {t : Tok} {l u : Option (Int × Tok)} {Q : Value → Shared → Prop} {s : Shared} (hsz : x.length ≤ 100000) (h : ∀ t' k, Q (.str (Txt.slice x (l.map (·.1)) (u.map (·.1))) t') { s with toks := k }) : (sliceMade x t l u none).post Q s := by
  have hle := Txt.slice_le x (l.map (·.1)) (u.map (·.1))
  unfold sliceMade
  split
  · rename_i hc
    have e' : Txt.slice x (l.map (·.1)) (u.map (·.1)) = x := if_pos hc
    rw [e'] at h
    exact h t s.toks
  · rename_i hc
    have e' : Txt.slice x (l.map (·.1)) (u.map (·.1)) = ⟨((Builtin.Str.strSliceIndices (l.map (·.1)) (u.map (·.1)) 1 x.length).filterMap (x.cps[·]?)).toArray⟩ := if_neg hc
    rw [e'] at hle h
    exact ⟨by rw [sizeLine_eq]; exact Nat.le_trans hle (by lia), h _ _⟩
noncomputable def spelled (wd : Str) (b : Bool) : Str := if b then Txt.slice wd none (some (-1)) ++ S "\\" ++ Txt.item wd (-1) ++ S "\t" else S "\"" ++ wd ++ S "\"\t"
noncomputable def bSpell : List Stmt := defBody "_law_spelled" PR.main.body
section
variable {w : World} {A : Around} {s : Shared} {E : Value → Shared → Prop} {Q : Value → Shared → Prop} {h : Heap} {tk : Nat}
theorem law_spelled (X : (KK w.params).In h) (hroom : A.depth < recursionLimit) {wd : Str} {u : Tok} {b : Bool} (hl : 1 ≤ wd.length) (hl2 : wd.length ≤ 1000)
    (hQ : ∀ h' tk' t, Now h [] h' [] → Q (.str (spelled wd b) t) (St s h' tk')) : wpAny (MM w) A (call (.ref 153) [.str wd u, .bool b]) Q E (St s h tk) := by
  refine callF (s := St s h tk) X hroom (o := obAt (KK w.params) 153) (fd := fnAt (KK w.params) 153) (body := bSpell) (binds := [(S "word", .str wd u), (S "bare", .bool b)]) (by kernel_rfl) (by kernel_rfl) (by kernel_rfl) (by kernel_rfl) (by kernel_rfl) (by kernel_rfl) (by kernel_rfl) (by kernel_rfl) (by kernel_rfl) (by kernel_rfl) ?_
  intro h₁ oL E' N nL
  conv => arg 3; arg 1; whnf
  show wpAny _ _ _ _ _ (St s h₁ _)
  generalize h.objs.size = L at N ⊢
  have g := N.get 0 rfl
  have vw : ∀ {p : Pos} {Q' : Value → Shared → Prop} {E' : Value → Shared → Prop} {hx : Heap} {tkx : Nat}, hx.get? L = some oL → Q' (.str wd u) (St s hx tkx) → wpAny (MM w) (A.deeper (callEnv (fnAt (KK w.params) 153) L 153)) (eval (.Name (S "word") p) (callEnv (fnAt (KK w.params) 153) L 153)) Q' E' (St s hx tkx) :=
    fun e q => r_name e nL (by kernel_rfl) (by kernel_rfl) (by kernel_rfl) q
  with_reducible refine wpAny_execs_cons ?_
  with_reducible refine wpAny_If ?_
  with_reducible refine isTrue_plain ?_ (by kernel_rfl)
  refine r_name (v := .bool b) g nL (by kernel_rfl) (by kernel_rfl) (by kernel_rfl) ?_
  with_reducible refine wpAny_truthy_bool ?_
  cases b with
  | true =>
    rw [if_pos rfl]
    with_reducible refine wpAny_execs_cons ?_
    with_reducible refine wpAny_Return_some ?_
    with_reducible refine wpAny_BinOp ?_
    with_reducible refine wpAny_BinOp ?_
    with_reducible refine wpAny_BinOp ?_
    refine wpAny_Subscript_str_slice ?_ (by intro _ _; kernel_rfl)
    with_reducible refine vw g ?_
    rw [evalPart_none]
    refine wpAny_pure ?_
    refine evalPart_some_step ?_
    with_reducible refine wpAny_UnaryOp ?_
    with_reducible refine r_int (s := s) fun t2 tk2 => ?_
    with_reducible refine neg_int ?_
    refine ⟨wd, u, none, some (_, _), rfl, rfl, rfl, slice_post (by lia) fun t3 tk3 => ?_⟩
    with_reducible refine r_str (s := s) fun t4 tk4 => ?_
    refine PyProof.Rows.add_str (fun t5 tk5 => ?_) (by
      have := Txt.slice_le wd none (some (-1)); have e : (Str.ofString "\\").length = 1 := rfl
      rw [sizeLine_eq]; dsimp only [Option.map]; lia)
    have N₂ := N.allocE { cls := .type "slice", data := .fields #[.none, .int (-1) tk2, .none] } rfl
    with_reducible refine Subscript_ ?_
    with_reducible refine vw (N₂.get 0 rfl) ?_
    with_reducible refine wpAny_UnaryOp ?_
    with_reducible refine r_int (s := s) fun t6 tk6 => ?_
    with_reducible refine neg_int ?_
    refine item_str (by decide) (by lia) (by lia) (fun hlen => ?_) (by kernel_rfl) (by intro _; kernel_rfl)
    refine PyProof.Rows.add_str (fun t7 tk7 => ?_) (by
      have := Txt.slice_le wd none (some (-1))
      rw [sizeLine_eq]; dsimp only [Option.map]
      refine Nat.le_trans (Nat.add_le_add (Nat.le_of_eq (Str.length_append _ _)) (Nat.le_refl _)) ?_
      have e : (Str.ofString "\\").length = 1 := rfl
      lia)
    with_reducible refine r_str (s := s) fun t8 tk8 => ?_
    refine PyProof.Rows.add_str (fun t9 tk9 => ?_) (by
      have := Txt.slice_le wd none (some (-1))
      rw [sizeLine_eq]; dsimp only [Option.map]
      rw [Str.length_append, Str.length_append]
      have e : (Str.ofString "\\").length = 1 := rfl
      have e : (Str.ofString "\t").length = 1 := rfl
      lia)
    exact hQ _ _ _ (N₂.sub (List.nil_sublist _))
  | false =>
    rw [if_neg (by decide)]
    with_reducible refine wpAny_execs_nil ?_
    with_reducible refine wpAny_execs_cons ?_
    with_reducible refine wpAny_Return_some ?_
    with_reducible refine wpAny_BinOp ?_
    with_reducible refine wpAny_BinOp ?_
    with_reducible refine r_str (s := s) fun t2 tk2 => ?_
    with_reducible refine vw g ?_
    refine PyProof.Rows.add_str (fun t3 tk3 => ?_) (by
      have e : (Str.ofString "\"").length = 1 := rfl
      rw [sizeLine_eq]; lia)
    with_reducible refine r_str (s := s) fun t8 tk8 => ?_
    refine PyProof.Rows.add_str (fun t9 tk9 => ?_) (by
      rw [sizeLine_eq, Str.length_append]
      have e : (Str.ofString "\"").length = 1 := rfl
      have e : (Str.ofString "\"\t").length = 2 := rfl
      lia)
    exact hQ _ _ _ (N.sub (List.nil_sublist _))
end
end
section
open PySem PySem.W PySem.W.X PyProof.Rows PySem.Calls PySem.Spec PyProof
open LCg (NsObj lst)
set_option maxHeartbeats 1000000
theorem kk_keep2 {w : World} {hb h : Heap} {ch : List Addr} {obs : List (Addr × Obj)} (X : (KK w.params).In hb) (N : Now hb ch h obs) (hc : ∀ a ∈ ch, 183 ≤ a ∨ (KK w.params).lookup a = none) : (KK w.params).In h :=
  fun a o e => N.keep a o (X a o e) fun hm => by
    rcases hc a hm with z | z
    · exact absurd (kk_low _ a o e) (Nat.not_lt.mpr z)
    · rw [e] at z; cases z
section
variable {w : World} {A : Around} {s : Shared} {h : Heap} {tk : Nat} {E : Value → Shared → Prop} {env : Env} {hb : Heap} {ch : List Addr} {obs : List (Addr × Obj)} {Q : Value → Shared → Prop}
theorem walks_range {I : Addr} (hh : A.handled = none) (n : Nat) : Walks PR w A I [I] [I] n (fun i v => ∃ t, v = .int (i : Nat) t) (fun i h => IsRangeIter h I ((i : Nat) : Int) ((n : Int) - (i : Nat)) 1) := by
  have := Walks.range (prog := PR) (w := w) hh I 0 1 n
  simpa using this
theorem stays_range {I : Addr} {n : Nat} {J : Nat → List (Addr × Obj) → Prop} : Stays hb ch I (fun i h => IsRangeIter h I ((i : Nat) : Int) ((n : Int) - (i : Nat)) 1) J := by
  intro i h h' o obs' hs e e' _ _ _
  rw [hs] at e; cases e; exact e'
theorem stays_list {I l : Addr} {items : Array Value} {J : Nat → List (Addr × Obj) → Prop} (hl : ∀ i obs' (h' : Heap), J i obs' → (∀ p ∈ obs', h'.get? p.1 = some p.2) → (∀ b o, hb.get? b = some o → b ∉ ch → h'.get? b = some o) → h'.IsList l items) :
    Stays hb ch I (fun i h => h.IsListIter I l i ∧ h.IsList l items) J := by
  intro i h h' o obs' hs e e' j ho hk
  exact ⟨hs.1.at (carry e e'), hl i obs' h' j ho hk⟩
theorem stays_keys {I d : Addr} {kvs : List (Str × Value)} {ep : Nat} {J : Nat → List (Addr × Obj) → Prop} (hl : ∀ i obs' (h' : Heap), J i obs' → (∀ p ∈ obs', h'.get? p.1 = some p.2) → (∀ b o, hb.get? b = some o → b ∉ ch → h'.get? b = some o) → h'.DictAt (SK w) d kvs ep) :
    Stays hb ch I (fun i h => h.IsKeyIter I d i kvs.length ep ∧ h.DictAt (SK w) d kvs ep) J := by
  intro i h h' o obs' hs e e' j ho hk
  exact ⟨hs.1.at (carry e e'), hl i obs' h' j ho hk⟩
/-- statements -/
theorem x_ret {e : Expr} {p : Pos} {rest : List Stmt} {Q : Flow → Shared → Prop} {s : Shared} (h : wpAny (MM w) A (eval e env) (fun v => Q (.ret v)) E s) : wpAny (MM w) A (execs (.Return (some e) p :: rest) env) Q E s :=
  wpAny_execs_cons (wpAny_Return_some h)
theorem x_assign {x : Str} {p p' : Pos} {e : Expr} {rest : List Stmt} {Q : Flow → Shared → Prop} {s : Shared} (h : wpAny (MM w) A (eval e env) (fun v s₁ => wpAny (MM w) A (storeName env x v) (fun _ s₂ => wpAny (MM w) A (execs rest env) Q E s₂) E s₁) E s)
    (hs : swapsWith e (some (.Name x p')) p.line env = pure false) : wpAny (MM w) A (execs (.Assign [.Name x p'] e p :: rest) env) Q E s :=
  wpAny_execs_cons (wpAny_Assign_Name h hs)
/-- range(e) and its iterator -/
theorem r_rangeC {n : Nat} {t : Tok} {K : Value → Shared → Prop} 
    (N : Now hb ch h obs) (hn : n ≤ 1000) 
    (hq : ∀ h' tk' I oI, Now hb ch h' (obs ++ [(I, oI)]) → IsRangeIter h' I 0 n 1 → I ∉ ch → K (.ref I) (St s h' tk')) :
    wpAny (MM w) A (call (.type "range") [.int n t]) (fun xv s₁ => wpAny (MM w) A (pyIter xv) K E s₁) E (St s h tk) := by
  refine call_range_1 (s := St s h tk) ?_
  have N₁ := (N.allocE { cls := .type "range", data := .fields #[.int 0 tk, .int n t, .int 1 (tk + 1)] } rfl)
  have hsm : Builtin.Range.small 0 (n : Int) 1 = true := small_one (by decide) (by decide) (by lia) (by lia)
  refine wpAny_pyIter_range (s := St s (h.push { cls := .type "range", data := .fields #[.int 0 tk, .int n t, .int 1 (tk + 1)] }) (tk + 1 + 1)) (a := 0) (b := n) (c := 1) (t := tk) (u := t) (v := tk + 1) (Heap.get?_push_size _ rfl) hsm ?_
  have hz : Builtin.Range.rangeSize 0 n 1 = n := by
    rw [rangeSize_one]; split <;> lia
  rw [hz]
  have N₂ := N₁.allocE { cls := .type "range_iterator", data := .fields #[rawInt 0, rawInt n, rawInt 1] } rfl
  have hsub : List.Sublist (obs ++ [((h.push { cls := .type "range", data := .fields #[.int 0 tk, .int n t, .int 1 (tk + 1)] }).objs.size, ({ cls := .type "range_iterator", data := .fields #[rawInt 0, rawInt n, rawInt 1] } : Obj))])
      ((obs ++ [(h.objs.size, ({ cls := .type "range", data := .fields #[.int 0 tk, .int n t, .int 1 (tk + 1)] } : Obj))]) ++ [((h.push { cls := .type "range", data := .fields #[.int 0 tk, .int n t, .int 1 (tk + 1)] }).objs.size, { cls := .type "range_iterator", data := .fields #[rawInt 0, rawInt n, rawInt 1] })]) := by
    rw [List.append_assoc]
    exact List.Sublist.append (List.Sublist.refl _) (.cons _ (List.Sublist.refl _))
  exact hq _ _ _ _ (N₂.sub hsub) (Heap.get?_push_size _ rfl) N₁.size_ch
theorem r_range {n : Nat} {e : Expr} {p pos : Pos} {K : Value → Shared → Prop} (X : (KK w.params).In h) (hk : env.scope.kind = .function) (hx : env.kindOf (S "range") = some .globalImplicit) (hg : env.globals = mainGlobals) (hbn : env.builtins = builtinsNs)
    (N : Now hb ch h obs) (hn : n ≤ 1000) (he : starEach [e] env = [(false, eval e env)])
    (ha : ∀ (Q' : Value → Shared → Prop), (∀ t tk', Q' (.int n t) (St s h tk')) → wpAny (MM w) A (eval e env) Q' E (St s h tk))
    (hq : ∀ h' tk' I oI, Now hb ch h' (obs ++ [(I, oI)]) → IsRangeIter h' I 0 n 1 → I ∉ ch → K (.ref I) (St s h' tk')) :
    wpAny (MM w) A (eval (.Call (.Name (S "range") p) [e] [] pos) env) (fun xv s₁ => wpAny (MM w) A (pyIter xv) K E s₁) E (St s h tk) := by
  refine Call_Name rfl ?_
  refine r_builtin (v := .type "range") X (by kernel_rfl) (by kernel_rfl) hk hx hg hbn ?_ (by kernel_rfl)
  refine PyProof.Rows.callWith_type1 ?_ he rfl
  refine args_cons ?_ he
  refine ha _ fun t tk₁ => ?_
  refine args_nil ?_
  exact r_rangeC N hn hq
/-- iter(l), l a list -/
theorem r_iterL {l : Addr} {items : Array Value} {K : Value → Shared → Prop} (N : Now hb ch h obs) (hl : h.IsList l items) (hq : ∀ (h' : Heap) I oI, Now hb ch h' (obs ++ [(I, oI)]) → h'.IsListIter I l 0 → h'.IsList l items → I ∉ ch → l ≠ I → K (.ref I) (St s h' tk)) :
    wpAny (MM w) A (pyIter (.ref l)) K E (St s h tk) := by
  refine wpAny_pyIter_list (s := St s h tk) hl ?_
  have hl' := id hl
  obtain ⟨o, e, r⟩ := hl'
  exact hq _ _ _ (N.allocE { cls := .type "list_iterator", data := .fields #[.ref l, .int 0 0] } rfl) ⟨_, Heap.get?_push_size _ rfl, rfl, rfl⟩ ⟨o, Heap.get?_push_of_some _ e, r⟩ N.size_ch (Nat.ne_of_lt (Heap.lt_size e))
theorem r_list {elts : List Expr} {pos : Pos} {s : Shared}
    (hq : wpAny (MM w) A (spliced (backTo pos (starEach elts env))) (fun vs s₁ => vs.length ≤ sizeLine ∧ Q (.ref s₁.heap.objs.size) { s₁ with heap := s₁.heap.push { cls := .type "list", data := .seq vs.toArray } }) E s) :
    wpAny (MM w) A (eval (.List elts pos) env) Q E s := PySem.wpAny_List_spliced hq
/-- arguments of a def's own frame -/
theorem binds_cons {p : Str × Value} {rest : List (Str × Value)} {Q : PUnit → Shared → Prop} {s : Shared} (h : wpAny (MM w) A (storeName env p.1 p.2) (fun _ s₂ => wpAny (MM w) A (forIn rest PUnit.unit fun p _ => do storeName env p.1 p.2; pure (ForInStep.yield PUnit.unit)) Q E s₂) E s) :
    wpAny (MM w) A (forIn (p :: rest) PUnit.unit fun p _ => do storeName env p.1 p.2; pure (ForInStep.yield PUnit.unit)) Q E s := by
  simp only [List.forIn_cons]
  exact wpAny_bind (wpAny_bind (wpAny_mono h (fun _ s₂ h₂ => wpAny_pure h₂) fun _ _ e => e))
theorem binds_nil {Q : PUnit → Shared → Prop} {s : Shared} (h : Q PUnit.unit s) : wpAny (MM w) A (forIn ([] : List (Str × Value)) PUnit.unit fun p _ => do storeName env p.1 p.2; pure (ForInStep.yield PUnit.unit)) Q E s := wpAny_pure h
theorem r_len {l : Addr} {items : Array Value} (hl : h.IsList l items) (hz : items.size ≤ 1000) (hq : ∀ t tk', Q (.int (items.size : Nat) t) (St s h tk')) : wpAny (MM w) A (call (.builtin "len") [.ref l]) Q E (St s h tk) :=
  call_len_list (s := St s h tk) hl (by lia) (hq _ _)
/-- a for over a walk -/
theorem r_forW {Q : Flow → Shared → Prop} {x : Str} {px : Pos} {body : List Stmt} {I : Addr} {oI : Obj} {fp : List Addr} {n : Nat} {P : Nat → Value → Prop} {Sh : Nat → Heap → Prop} (J : Nat → List (Addr × Obj) → Prop)
    (W : Walks PR w A I fp [I] n P Sh) (hI : ∀ i h, Sh i h → ∃ o, h.get? I = some o) (hIc : I ∉ ch) (hS : Stays hb ch I Sh J) (N : Now hb ch h (obs ++ [(I, oI)])) (h0 : Sh 0 h) (hJ : J 0 obs)
    (turn : ∀ i v h' tk' oI' obs' (E' : Value → Shared → Prop), i < n → P i v → J i obs' → Now hb ch h' (obs' ++ [(I, oI')]) →
      wpAny (MM w) A (storeName env x v) (fun _ s₂ => wpAny (MM w) A (execs body env) (fun f s₃ => (f = .next ∨ f = .cont) ∧ ∃ h'' tk'' obs'', s₃ = St s h'' tk'' ∧ J (i + 1) obs'' ∧ Now hb ch h'' (obs'' ++ [(I, oI')])) E' s₂) E' (St s h' tk'))
    (done : ∀ h' tk' obs', J n obs' → Now hb ch h' obs' → Q .next (St s h' tk')) :
    codeAny (MM w) A (.forLoop (.Name x px) (.ref I) body [] env) (fun r s' => match r with | .ok f => Q f s' | .error e => cameBackBy (MM w) A env E e s') (St s h tk) := by
  refine forNow (s := s) W hI hIc (h := h) N.front h0 J hJ ?_ done
  intro i v h' tk' oI' obs' hi hP j N' st
  refine wpAny_mono (turn i v h' tk' oI' obs' _ hi hP j (N'.perm (List.perm_append_singleton _ _))) (fun _ s₂ h₂ => wpAny_mono h₂ (fun f s₃ h₃ => ?_) fun _ _ e => e) fun _ _ e => e
  refine Classical.byContradiction fun hng => ?_
  obtain ⟨hf, h'', tk'', obs'', rfl, j', N''⟩ := h₃
  refine hng ?_
  have st'' : Sh (i + 1) h'' := hS _ _ _ oI' obs'' st (N'.get 0 rfl) (N''.at_ (I, oI') (by simp)) j' (fun p hp => N''.at_ p (by simp [hp])) N''.keep
  rcases hf with rfl | rfl
  · exact ⟨h'', tk'', obs'', rfl, j', N''.front, st''⟩
  · exact ⟨h'', tk'', obs'', rfl, j', N''.front, st''⟩
/-- a bound def, with arguments -/
theorem callWith_methN {pos : Pos} {f : Addr} {o : Obj} {fd : FuncData} {first : List Value} {e : Expr} {rest : List Expr} {s : Shared} (hdat : o.data = .func fd)
    (h : wpAny (MM w) A (spliced (backTo pos (starEach (e :: rest) env))) (fun vs s₁ => s₁.heap.get? f = some o ∧ wpAny (MM w) A (call (.ref f) (first ++ vs)) Q E s₁) E s)
    (he : starEach (e :: rest) env = (false, eval e env) :: starEach rest env) :
    wpAny (MM w) A (callWith pos (.ref f) first (backTo pos (starEach (e :: rest) env)) []) Q E s := by
  rw [he] at h ⊢
  exact Calls.callWith_function (o := o) (fd := fd) (Calls.evalArgs_plain (wpAny_mono h (fun vs s₁ h₁ => ⟨⟨h₁.1, hdat⟩, h₁.2⟩) fun _ _ x => x))
theorem r_insert {l : Addr} {items : List Value} {n k : Nat} {t : Tok} {v : Value} (e : h.get? l = some (listObj items.toArray n)) (hk : k ≤ items.length) (hn : items.length ≤ 1000)
    (hq : ∀ h' tk' n', Heap.SameBut l h h' → h'.get? l = some (listObj (items.take k ++ v :: items.drop k).toArray n') → Q .none (St s h' tk')) :
    wpAny (MM w) A (call (.builtin "list.insert") [.ref l, .int k t, v]) Q E (St s h tk) := by
  generalize hx : (k : Int) = x
  have hf : Builtin.List.listFitsIndex x = true := by
    unfold Builtin.List.listFitsIndex
    simp; lia
  have hz : items.toArray.size ≤ sizeLine := by rw [List.size_toArray, sizeLine_eq]; lia
  refine call_meets (s := St s h tk) PySem.F.slot_list_insert ⟨_, e, rfl⟩ PySem.F.entry_list_insert (PySem.F.args_list_insert_3 _ _ _) (PySem.AutoSeq1.list_insert_list_int_val_1 l _ n x t v (by simp [hf]) hz) ⟨e, ?_⟩
  refine hq _ _ (n + 1) (Heap.SameBut.update ..) ?_
  rw [Heap.get?_update_self _ e rfl]
  have hi : (if x < 0 then (x + (items.toArray.size : Int)).toNat else min x.toNat items.toArray.size) = k := by
    rw [if_neg (by lia), List.size_toArray]; lia
  unfold Obj.mapSeq
  dsimp only [listObj]
  rw [hi, kl_ins_eq]
  have hs : ((items.take k ++ v :: items.drop k).toArray.size == items.toArray.size) = false := by
    simp; lia
  rw [hs]; rfl
end
end
section
open PySem PySem.W PySem.W.X PyProof.Rows PySem.Calls PySem.Spec PyProof
open LCg (NsObj lst)
set_option maxHeartbeats 1000000
section
variable {w : World} {A : Around} {s : Shared} {h : Heap} {tk : Nat} {E : Value → Shared → Prop} {env : Env} {hb : Heap} {ch : List Addr} {obs : List (Addr × Obj)}
/-- a for over a walk -/
theorem r_forW2 {Q : Flow → Shared → Prop} {x : Str} {px : Pos} {body : List Stmt} {I : Addr} {oI : Obj} {fp : List Addr} {n : Nat} {P : Nat → Value → Prop} {Sh : Nat → Heap → Prop} (J : Nat → List (Addr × Obj) → Prop)
    (W : Walks PR w A I fp [I] n P Sh) (hI : ∀ i h, Sh i h → ∃ o, h.get? I = some o) (hIc : I ∉ ch) (hS : Stays hb ch I Sh J) (N : Now hb ch h (obs ++ [(I, oI)])) (h0 : Sh 0 h) (hJ : J 0 obs)
    (turn : ∀ i v h' tk' oI' obs' (E' : Value → Shared → Prop) (Pz : Flow → Shared → Prop), i < n → P i v → J i obs' → Now hb ch h' (obs' ++ [(I, oI')]) →
      (∀ f s₃, ((f = .next ∨ f = .cont) ∧ ∃ h'' tk'' obs'', s₃ = St s h'' tk'' ∧ J (i + 1) obs'' ∧ Now hb ch h'' (obs'' ++ [(I, oI')])) → Pz f s₃) →
      wpAny (MM w) A (storeName env x v) (fun _ s₂ => wpAny (MM w) A (execs body env) Pz E' s₂) E' (St s h' tk'))
    (done : ∀ h' tk' obs', J n obs' → Now hb ch h' obs' → Q .next (St s h' tk')) :
    codeAny (MM w) A (.forLoop (.Name x px) (.ref I) body [] env) (fun r s' => match r with | .ok f => Q f s' | .error e => cameBackBy (MM w) A env E e s') (St s h tk) := by
  refine forNow (s := s) W hI hIc (h := h) N.front h0 J hJ ?_ done
  intro i v h' tk' oI' obs' hi hP j N' st
  refine wpAny_mono (turn i v h' tk' oI' obs' _ _ hi hP j (N'.perm (List.perm_append_singleton _ _)) fun _ _ z => z) (fun _ s₂ h₂ => wpAny_mono h₂ (fun f s₃ h₃ => ?_) fun _ _ e => e) fun _ _ e => e
  refine Classical.byContradiction fun hng => ?_
  obtain ⟨hf, h'', tk'', obs'', rfl, j', N''⟩ := h₃
  refine hng ?_
  have st'' : Sh (i + 1) h'' := hS _ _ _ oI' obs'' st (N'.get 0 rfl) (N''.at_ (I, oI') (by simp)) j' (fun p hp => N''.at_ p (by simp [hp])) N''.keep
  rcases hf with rfl | rfl
  · exact ⟨h'', tk'', obs'', rfl, j', N''.front, st''⟩
  · exact ⟨h'', tk'', obs'', rfl, j', N''.front, st''⟩
end
end
section
open PySem PySem.W PySem.W.X PyProof.Rows PySem.Calls PySem.Spec PyProof
open LCg (NsObj lst)
set_option maxHeartbeats 1000000
noncomputable def bOrder : List Stmt := defBody "_law_order" PR.main.body
/-- where a row comes to stand -/
noncomputable def insAt (le : Nat → Nat → Bool) (line : List Nat) (k : Nat) : List Nat := (line.take (line.filter (le · k)).length) ++ k :: line.drop (line.filter (le · k)).length
noncomputable def orderOf (le : Nat → Nat → Bool) (n : Nat) : List Nat := (List.range n).foldl (insAt le) []
noncomputable def leRow (p c : Nat → Int) (way : Int) (i j : Nat) : Bool := decide (p i < p j ∨ (p i = p j ∧ way * c i ≤ way * c j))
theorem insAt_length (le : Nat → Nat → Bool) (line : List Nat) (k : Nat) : (insAt le line k).length = line.length + 1 := by
  unfold insAt
  have : (line.filter (le · k)).length ≤ line.length := List.length_filter_le _ _
  rw [List.length_append, List.length_cons, List.length_take, List.length_drop]
  lia
theorem orderOf_succ (le : Nat → Nat → Bool) (n : Nat) : orderOf le (n + 1) = insAt le (orderOf le n) n := by
  unfold orderOf
  rw [List.range_succ, List.foldl_append]; rfl
theorem orderOf_length (le : Nat → Nat → Bool) (n : Nat) : (orderOf le n).length = n := by
  induction n with
  | zero => rfl
  | succ n ih => rw [orderOf_succ, insAt_length, ih]
theorem insAt_lt {le : Nat → Nat → Bool} {line : List Nat} {k : Nat} (hl : ∀ j ∈ line, j < k) : ∀ j ∈ insAt le line k, j < k + 1 := by
  intro j hj
  unfold insAt at hj
  rcases List.mem_append.mp hj with z | z
  · exact Nat.lt_succ_of_lt (hl j (List.mem_of_mem_take z))
  · rcases List.mem_cons.mp z with rfl | z
    · exact Nat.lt_succ_self _
    · exact Nat.lt_succ_of_lt (hl j (List.mem_of_mem_drop z))
theorem orderOf_lt (le : Nat → Nat → Bool) (n : Nat) : ∀ j ∈ orderOf le n, j < n := by
  induction n with
  | zero => intro j hj; cases hj
  | succ n ih => rw [orderOf_succ]; exact insAt_lt ih
section
variable {w : World} {A : Around} {s : Shared} {E : Value → Shared → Prop} {Q : Value → Shared → Prop} {h : Heap} {tk : Nat}
noncomputable abbrev eO (w : World) (L : Addr) : Env := newEnv (fnAt (KK w.params) 158).scope L (fnAt (KK w.params) 158).globals (cellsFrom (L + 1) (fnAt (KK w.params) 158).scope.names []) ((fnAt (KK w.params) 158).qualname ++ ".<locals>.") (some 158) (fnAt (KK w.params) 158).code none (fnAt (KK w.params) 158).builtins
theorem law_order (X : (KK w.params).In h) (hroom : A.depth + 1 < recursionLimit) (hh : A.handled = none) {la tc dt cl e0 e1 : Addr} {od : Obj} {mT : Str → Option Value} {n : Nat} {ra : Nat → Addr} {p c : Nat → Int} {nm : Nat → Str} {tp tq tn : Nat → Tok} {way : Int} {t2 t3 t5 t6 : Tok}
    (hla : h.IsList la ((List.range n).map fun i => Value.ref (ra i)).toArray) (hn : n ≤ 100) (hrow : ∀ i, i < n → IsTup h (ra i) #[.int (p i) (tp i), .int (c i) (tq i), .str (nm i) (tn i)])
    (hx : h.get? tc = some (instObj 97 dt)) (hdt : h.get? dt = some od) (io : NsObj od mT) (hm : mT (S "comp_select_list") = some (.ref cl)) (hmc : mT (S "compare") = none) (hcl : h.IsList cl #[.ref e0, .ref e1])
    (he0 : h.IsTuple e0 #[.int 0 t2, .int 1 t3]) (he1 : h.IsTuple e1 #[.int 1 t5, .int way t6]) (hw : way = 1 ∨ way = -1)
    (hQ : ∀ h' tk' D, Now h [] h' [(D, lst ((orderOf (leRow p c way) n).map fun i => .str (nm i) (tn i)))] → Q (.ref D) (St s h' tk')) :
    wpAny (MM w) A (call (.ref 158) [.ref la, .ref tc]) Q E (St s h tk) := by
  with_reducible refine wpAny_call ?_
  refine enterC (s := St s h tk) (fd := fnAt (KK w.params) 158) (o := obAt (KK w.params) 158) (body := bOrder) (binds := [(S "rows", .ref la), (S "rule", .ref tc)]) X (Nat.lt_of_succ_lt hroom) (X _ _ (by kernel_rfl)) (by kernel_rfl) (codeRec_of X (by kernel_rfl)) (by kernel_rfl) (by kernel_rfl) (by kernel_rfl) (by kernel_rfl) (by kernel_rfl) ?_
  rintro _ h₁ oL E' E'' rfl N nL
  show wpAny _ _ _ _ _ (St s h₁ tk)
  dsimp only at N ⊢
  generalize h.objs.size = L at N ⊢
  have eC : cellObs (L + 1) (fnAt (KK w.params) 158).scope.names = [(L + 1, cellO none), (L + 1 + 1, cellO none)] := by kernel_rfl
  rw [eC] at N
  replace N : Now h [] h₁ [(L, oL), (L + 1, cellO none), (L + 1 + 1, cellO none)] := N
  with_reducible refine binds_cons ?_
  refine r_store (env := eO w L) (s := s) N 0 rfl nL (by kernel_rfl) (by kernel_rfl) fun h₂ o₂ tk₂ N₂ n₂ => ?_
  with_reducible refine binds_cons ?_
  refine r_storeC (env := eO w L) (s := s) (c := L + 1) N₂ 1 rfl (by kernel_rfl) (by kernel_rfl) (by kernel_rfl) fun h₃ N₃ => ?_
  with_reducible refine binds_nil ?_
  let R68 : List (Addr × Obj) := [(L, o₂), (L + 1, cellO (some (.ref tc))), (L + 1 + 1, cellO none)]
  replace N₃ : Now h [] h₃ R68 := N₃
  have X₃ : (KK w.params).In h₃ := kk_keep X N₃ (by simp)
  with_reducible refine ⟨X₃, ?_⟩
  have hL := kk_size X
  have hh' : (A.deeper (eO w L)).handled = none := hh
  have old : ∀ {h' : Heap} {obs : List (Addr × Obj)} {b : Addr} {o : Obj}, Now h [] h' obs → h.get? b = some o → h'.get? b = some o := fun N' e => N'.keep _ _ e (by simp)
  have lRows : ∀ {h' : Heap} {obs : List (Addr × Obj)}, Now h [] h' obs → h'.IsList la ((List.range n).map fun i => Value.ref (ra i)).toArray := fun N' => let ⟨o, e, r⟩ := hla; ⟨o, old N' e, r⟩
  have ld : ∀ {x : Str} {v : Value} {px : Pos} {Q' E' : Value → Shared → Prop} {hx : Heap} {tkx : Nat} {oLx : Obj} {mx : Str → Option Value}, hx.get? L = some oLx → NsObj oLx mx → mx x = some v → (eO w L).kindOf x = some .local → (x == ("__debug__" : Str)) = false → Q' v (St s hx tkx) →
      wpAny (MM w) (A.deeper (eO w L)) (eval (.Name x px) (eO w L)) Q' E' (St s hx tkx) := fun e nl hv hk hd q => r_name (env := eO w L) e nl hv (by kernel_rfl) hk q hd
  change wpAny (MM w) (A.deeper (eO w L)) (execs bOrder (eO w L)) _ E'' (St s h₃ tk₂)
  conv => arg 3; arg 1; whnf
  with_reducible refine x_assign ?_ (by kernel_rfl)
  with_reducible refine r_list ?_
  refine args_nil ⟨by decide, ?_⟩
  have N₄ := N₃.allocE (listObj #[] 0) rfl
  generalize hln : h₃.objs.size = ln at N₄
  have hln' : 183 ≤ ln := by rw [← hln]; exact kk_size X₃
  refine r_store (s := s) N₄ 0 rfl n₂ (by kernel_rfl) (by kernel_rfl) fun h₅ o₅ tk₅ N₅ n₅ => ?_
  let R69 : List (Addr × Obj) := [(L, o₅), (L + 1, cellO (some (.ref tc))), (L + 1 + 1, cellO none), (ln, listObj #[] 0)]
  replace N₅ : Now h [] h₅ R69 := N₅
  with_reducible refine wpAny_execs_cons ?_
  with_reducible refine wpAny_For ?_ (by intro _; kernel_rfl)
  refine ld (N₅.get 0 rfl) n₅ (v := .ref la) ((up_ne (by kernel_rfl)).trans (up_self _ _ _)) (by kernel_rfl) (by kernel_rfl) ?_
  refine r_iterL N₅ (lRows N₅) fun h₆ I oI N₆ hI hl₆ hIc hne => ?_
  let le := leRow p c way
  let J1 : Nat → List (Addr × Obj) → Prop := fun i obs' => ∃ oL m cv k, obs' = [(L, oL), (L + 1, cellO (some (.ref tc))), (L + 1 + 1, cellO cv), (ln, listObj ((orderOf le i).map fun j => Value.ref (ra j)).toArray k)] ∧ NsObj oL m ∧ m (S "line") = some (.ref ln)
  refine r_forW2 (s := s) J1
    (Walks.list hh' I la hne _) (fun i h ⟨⟨o, e, _⟩, _⟩ => ⟨o, e⟩) hIc (stays_list fun i obs' h' _ _ hk => let ⟨o, e, r⟩ := hla; ⟨o, hk _ _ e (by simp), r⟩) N₆ ⟨hI, hl₆⟩
    ⟨o₅, _, none, 0, rfl, n₅, up_self _ _ _⟩ ?_ ?_
  · intro i v h' tk' oI _ E₁ Pz hi hP hz1 N' hpz
    refine Classical.byContradiction fun hng => ?_
    obtain ⟨oL', m', cv, k, rfl, n', hl⟩ := hz1
    refine hng ?_
    have hi' : i < n := by simpa using hi
    obtain rfl : v = .ref (ra i) := by
      have : (List.range n)[i]? = some i := by rw [List.getElem?_range hi']
      simp [this] at hP
      exact hP.symm
    refine r_storeC (env := eO w L) (s := s) (c := L + 1 + 1) N' 2 rfl (by kernel_rfl) (by kernel_rfl) (by kernel_rfl) fun h₇ N₇ => ?_
    let R70 : List (Addr × Obj) := [(L, oL'), (L + 1, cellO (some (.ref tc))), (L + 1 + 1, cellO (some (.ref (ra i)))), (ln, listObj ((orderOf le i).map fun j => Value.ref (ra j)).toArray k), (I, oI)]
    replace N₇ : Now h [] h₇ R70 := N₇
    have X₇ : (KK w.params).In h₇ := kk_keep X N₇ (by simp)
    with_reducible refine wpAny_execs_cons ?_
    with_reducible refine wpAny_Expr ?_ (by kernel_rfl) (by kernel_rfl)
    refine MethodCall_ ?_
    refine ld (N₇.get 0 rfl) n' (v := .ref ln) hl (by kernel_rfl) (by kernel_rfl) ?_
    refine getMethod_builtin (T := "list") ⟨_, N₇.get 3 rfl, rfl⟩ F.plainAttrs_list F.slot_list_insert F.type_list_insert (fun a e => by cases e; exact ⟨_, N₇.get 3 rfl, rfl⟩) ?_
    with_reducible refine callWith_method1 ?_ (by kernel_rfl) (by kernel_rfl)
    with_reducible refine args_cons ?_ (by kernel_rfl)
    with_reducible refine r_callB (s := s) (id := "len") X₇ (by kernel_rfl) (by kernel_rfl) (by kernel_rfl) (by kernel_rfl) (by kernel_rfl) (by kernel_rfl) (by kernel_rfl) (by kernel_rfl) ?_ (by kernel_rfl)
    with_reducible refine args_cons ?_ (by kernel_rfl)
    with_reducible refine r_lc (cl := [(S "rule", L + 1), (S "row", L + 1 + 1)]) (by kernel_rfl) (by kernel_rfl) (by kernel_rfl) (by intro _; kernel_rfl) ?_
    refine ld (N₇.get 0 rfl) n' (v := .ref ln) hl (by kernel_rfl) (by kernel_rfl) ?_
    refine r_iterL N₇ (items := ((orderOf le i).map fun j => Value.ref (ra j)).toArray) ⟨_, N₇.get 3 rfl, rfl, k, rfl⟩ fun h₈ I2 oI2 N₈ hI2 hl₈ hIc2 hne2 => ?_
    let J2 : Nat → List (Addr × Obj) → List Value → Prop := fun t obs' items => obs' = [(L, oL'), (L + 1, cellO (some (.ref tc))), (L + 1 + 1, cellO (some (.ref (ra i)))), (ln, listObj ((orderOf le i).map fun j => Value.ref (ra j)).toArray k), (I, oI)] ∧ items = (((orderOf le i).take t).filter (le · i)).map fun j => Value.ref (ra j)
    refine lcAll J2
      (Walks.list hh' I2 ln hne2 _) (fun i h ⟨⟨o, e, _⟩, _⟩ => ⟨o, e⟩) hIc2 (by kernel_rfl) (by kernel_rfl) (by intro C; kernel_rfl) ?_ (stays_list fun t obs' h' ⟨items, e, _⟩ ho _ => ⟨_, ho (ln, listObj ((orderOf le i).map fun j => Value.ref (ra j)).toArray k) (by rw [e]; simp), rfl, k, rfl⟩) N₈ ⟨hI2, hl₈⟩ ⟨rfl, rfl⟩ ?_ ?_
    · simp [orderOf_length]; lia
    · rintro t v h₉ tk₉ C D oC mC oI₉ _ _ E₂ ht hPt ⟨rfl, rfl⟩ nC hv N₉
      obtain ⟨j, hj, rfl⟩ : ∃ j, (orderOf le i)[t]? = some j ∧ v = .ref (ra j) := by
        rw [List.getElem?_toArray, List.getElem?_map] at hPt
        cases e : (orderOf le i)[t]? with
        | none => rw [e] at hPt; cases hPt
        | some j => rw [e] at hPt; cases hPt; exact ⟨j, rfl, rfl⟩
      have hjn : j < n := Nat.lt_trans (orderOf_lt le i j (List.mem_of_getElem? hj)) hi'
      have X₉ : (KK w.params).In h₉ := kk_keep X N₉ (by simp)
      with_reducible refine wpAny_tests_one ?_
      with_reducible refine wpAny_isTrue_Compare1 ?_ (by kernel_rfl)
      refine MethodCall_ ?_
      refine r_cell (s := s) (c := L + 1) (v := .ref tc) (by kernel_rfl) (by kernel_rfl) (by kernel_rfl) (N₉.get 1 rfl) ?_
      with_reducible refine r_method (f := 94) X₉ (old N₉ hx) (old N₉ hdt) io (by kernel_rfl) (by kernel_rfl) (by kernel_rfl) (by kernel_rfl) hmc ?_
      with_reducible refine callWith_methN (o := obAt (KK w.params) 94) (fd := fnAt (KK w.params) 94) (by kernel_rfl) ?_ (by kernel_rfl)
      with_reducible refine args_cons ?_ (by kernel_rfl)
      refine r_name (s := s) (v := .ref (ra j)) (N₉.get 6 rfl) nC hv (by kernel_rfl) (by kernel_rfl) ?_ (by kernel_rfl)
      with_reducible refine args_cons ?_ (by kernel_rfl)
      refine r_cell (s := s) (c := L + 1 + 1) (v := .ref (ra i)) (by kernel_rfl) (by kernel_rfl) (by kernel_rfl) (N₉.get 2 rfl) ?_ (by kernel_rfl)
      refine args_nil ⟨X₉ _ _ (by kernel_rfl), ?_⟩
      have tupE : ∀ {e : Addr} {vs : Array Value}, h.IsTuple e vs → h₉.IsTuple e vs := fun x => let ⟨o, e, r⟩ := x; ⟨o, old N₉ e, r⟩
      have tupI : ∀ {e : Addr} {vs : Array Value}, IsTup h e vs → IsTup h₉ e vs := fun x => let ⟨o, e, r⟩ := x; ⟨o, old N₉ e, r⟩
      refine compare_spec hh' X₉ (by show A.depth + 1 < _; exact hroom) (old N₉ hx) (old N₉ hdt) io hm (let ⟨o, e, r⟩ := hcl; ⟨o, old N₉ e, r⟩) (tupE he0) (tupE he1) (tupI (hrow j hjn)) (tupI (hrow i hi')) hw fun h₁₀ tk₁₀ cc t₁₀ D₁₀ hcc => ?_
      have N₁₀ := N₉.pure D₁₀
      rw [List.nil_append] at N₁₀
      with_reducible refine r_int (s := s) fun t11 tk11 => ?_
      with_reducible refine PyProof.Rows.le_int ?_
      with_reducible refine wpAny_truthy_bool ?_
      have hle : decide (cc ≤ 0) = le j i := by
        show _ = leRow p c way j i
        unfold leRow
        exact decide_eq_decide.mpr hcc
      rw [hle]
      cases hb : le j i with
      | true =>
        simp only [if_true]
        refine r_name (s := s) (v := .ref (ra j)) (N₁₀.get 6 rfl) nC hv (by kernel_rfl) (by kernel_rfl) ?_ (by kernel_rfl)
        refine ⟨h₁₀, tk11, _, rfl, ⟨rfl, ?_⟩, N₁₀⟩
        rw [List.take_add_one, hj, List.filter_append, List.map_append]
        simp [hb]
      | false =>
        simp only [Bool.false_eq_true, if_false]
        refine ⟨h₁₀, tk11, _, rfl, ⟨rfl, ?_⟩, N₁₀⟩
        rw [List.take_add_one, hj, List.filter_append, List.map_append]
        simp [hb]
    · rintro h₉ tk₉ C D oC mC _ _ ⟨rfl, rfl⟩ nC hC N₉
      with_reducible refine compEnd N₉ hC nC fun h₁₀ N₁₀ => ?_
      have e1 : ((((orderOf le i).take ((orderOf le i).map fun j => Value.ref (ra j)).toArray.size).filter (le · i)).map fun j => Value.ref (ra j)) = ((orderOf le i).filter (le · i)).map fun j => Value.ref (ra j) := by
        rw [List.size_toArray, List.length_map, List.take_length]
      rw [e1] at N₁₀
      generalize hcnt : ((orderOf le i).filter (le · i)).length = cnt
      have hcl' : cnt ≤ i := by rw [← hcnt]; exact Nat.le_trans (List.length_filter_le _ _) (Nat.le_of_eq (orderOf_length le i))
      with_reducible refine args_nil ?_
      refine r_len (s := s) (items := (((orderOf le i).filter (le · i)).map fun j => Value.ref (ra j)).toArray) ⟨_, N₁₀.get 5 rfl, rfl, _, rfl⟩ (by rw [List.size_toArray, List.length_map, hcnt]; lia) fun t11 tk11 => ?_
      rw [List.size_toArray, List.length_map, hcnt]
      with_reducible refine args_cons ?_ (by kernel_rfl)
      refine r_cell (s := s) (c := L + 1 + 1) (v := .ref (ra i)) (by kernel_rfl) (by kernel_rfl) (by kernel_rfl) (N₁₀.get 2 rfl) ?_ (by kernel_rfl)
      with_reducible refine args_nil ?_
      refine r_insert (s := s) (items := (orderOf le i).map fun j => Value.ref (ra j)) (N₁₀.get 3 rfl) (by rw [List.length_map, orderOf_length]; exact hcl') (by rw [List.length_map, orderOf_length]; lia) fun h₁₁ tk₁₁ k' hs₁₁ e₁₁ => ?_
      have N₁₁ := N₁₀.same 3 rfl hs₁₁ e₁₁
      refine wpAny_execs_nil (hpz _ _ ⟨.inl rfl, h₁₁, tk₁₁, _, rfl, ⟨oL', m', some (.ref (ra i)), k', rfl, n', hl⟩, ?_⟩)
      have e4 : (List.take cnt ((orderOf le i).map fun j => Value.ref (ra j)) ++ Value.ref (ra i) :: List.drop cnt ((orderOf le i).map fun j => Value.ref (ra j))) = (orderOf le (i + 1)).map fun j => Value.ref (ra j) := by
        rw [orderOf_succ]; unfold insAt
        rw [hcnt, List.map_append, List.map_cons, List.map_take, List.map_drop]
      rw [e4] at N₁₁
      exact N₁₁.sub (by
        refine .cons_cons _ (.cons_cons _ (.cons_cons _ (.cons_cons _ (.cons_cons _ ?_))))
        exact List.nil_sublist _)
  · intro h' tk' _ hz2 N'
    refine Classical.byContradiction fun hng => ?_
    obtain ⟨oL', m', cv, k, rfl, n', hl⟩ := hz2
    refine hng ?_
    have e0 : ((List.range n).map fun i => Value.ref (ra i)).toArray.size = n := by simp
    rw [e0] at N'
    with_reducible refine x_ret ?_
    refine r_lc (cl := []) (by kernel_rfl) (by kernel_rfl) (by kernel_rfl) (by intro _; kernel_rfl) ?_
    refine ld (N'.get 0 rfl) n' (v := .ref ln) hl (by kernel_rfl) (by kernel_rfl) ?_
    refine r_iterL N' (items := ((orderOf le n).map fun j => Value.ref (ra j)).toArray) ⟨_, N'.get 3 rfl, rfl, k, rfl⟩ fun h₈ I2 oI2 N₈ hI2 hl₈ hIc2 hne2 => ?_
    let J3 : Nat → List (Addr × Obj) → List Value → Prop := fun t obs' items => obs' = [(L, oL'), (L + 1, cellO (some (.ref tc))), (L + 1 + 1, cellO cv), (ln, listObj ((orderOf le n).map fun j => Value.ref (ra j)).toArray k)] ∧ items = ((orderOf le n).take t).map fun j => Value.str (nm j) (tn j)
    refine lcAll J3
      (Walks.list hh' I2 ln hne2 _) (fun i h ⟨⟨o, e, _⟩, _⟩ => ⟨o, e⟩) hIc2 (by kernel_rfl) (by kernel_rfl) (by intro C; kernel_rfl) ?_ (stays_list fun t obs' h' ⟨items, e, _⟩ ho _ => ⟨_, ho (ln, listObj ((orderOf le n).map fun j => Value.ref (ra j)).toArray k) (by rw [e]; simp), rfl, k, rfl⟩) N₈ ⟨hI2, hl₈⟩ ⟨rfl, rfl⟩ ?_ ?_
    · simp [orderOf_length]; lia
    · rintro t v h₉ tk₉ C D oC mC oI₉ _ _ E₂ ht hPt ⟨rfl, rfl⟩ nC hv N₉
      obtain ⟨j, hj, rfl⟩ : ∃ j, (orderOf le n)[t]? = some j ∧ v = .ref (ra j) := by
        rw [List.getElem?_toArray, List.getElem?_map] at hPt
        cases e : (orderOf le n)[t]? with
        | none => rw [e] at hPt; cases hPt
        | some j => rw [e] at hPt; cases hPt; exact ⟨j, rfl, rfl⟩
      have hjn : j < n := orderOf_lt le n j (List.mem_of_getElem? hj)
      with_reducible refine wpAny_tests_nil ?_
      simp only [if_true]
      with_reducible refine Subscript_ ?_
      refine r_name (s := s) (v := .ref (ra j)) (N₉.get 5 rfl) nC hv (by kernel_rfl) (by kernel_rfl) ?_ (by kernel_rfl)
      with_reducible refine r_int (s := s) fun t10 tk10 => ?_
      refine item_tuple (let ⟨o, e, r⟩ := hrow j hjn; ⟨o, old N₉ e, r⟩) (by decide) (by decide) (j := 2) rfl rfl ?_
      refine ⟨h₉, tk10, _, rfl, ⟨rfl, ?_⟩, N₉⟩
      rw [List.take_add_one, hj, List.map_append]; rfl
    · rintro h₉ tk₉ C D oC mC _ _ ⟨rfl, rfl⟩ nC hC N₉
      with_reducible refine compEnd N₉ hC nC fun h₁₀ N₁₀ => ?_
      have e1 : (((orderOf le n).take ((orderOf le n).map fun j => Value.ref (ra j)).toArray.size).map fun j => Value.str (nm j) (tn j)) = (orderOf le n).map fun j => Value.str (nm j) (tn j) := by
        rw [List.size_toArray, List.length_map, List.take_length]
      rw [e1] at N₁₀
      exact hQ _ _ _ (N₁₀.sub (.cons _ (.cons _ (.cons _ (.cons _ (List.Sublist.refl _))))))
end
end
section
open PySem PySem.W PySem.W.X PyProof.Rows PySem.Calls PySem.Spec PyProof
open LCg (NsObj lst)
set_option maxHeartbeats 1000000
section
variable {w : World} {A : Around} {s : Shared} {h : Heap} {tk : Nat} {E : Value → Shared → Prop} {env : Env} {hb : Heap} {ch : List Addr} {obs : List (Addr × Obj)} {Q : Value → Shared → Prop}
theorem r_itemD {value slice : Expr} {d : Addr} {key v : Value} {kvs : List (Str × Value)} {k : Str} (hm : h.DictOf (SK w) d kvs) (hkey : (SK w).is k key = true) (hv : valueAt kvs k = some v) (hq : ∀ tk', Q v (St s h tk'))
    (hs : subscripted slice false (.ref d) key = operate [.ref d, key] (getItem (.ref d) key)) (hg : ∀ r, letTemporaryGo value (.ref d) r = pure ()) : wpAny (MM w) A (subscriptTail value slice (.ref d) key) Q E (St s h tk) :=
  subscriptTail_builtin (s := St s h tk) hm.typeIs PySem.F.slot_dict_getitem.lookup (r_getItem hm hkey hv hq) hs hg
theorem r_itemL {value slice : Expr} {l : Addr} {items : Array Value} {k : Nat} {u : Tok} {x : Value} (hl : h.IsList l items) (hk : k < 1000000) (hx : items[k]? = some x) (hq : Q x (St s h tk))
    (hs : subscripted slice false (.ref l) (.int k u) = operate [.ref l, .int k u] (getItem (.ref l) (.int k u))) (hg : ∀ r, letTemporaryGo value (.ref l) r = pure ()) : wpAny (MM w) A (subscriptTail value slice (.ref l) (.int k u)) Q E (St s h tk) :=
  item_list (s := St s h tk) hl (by lia) (by lia) (by simpa using hx) hq hs hg
theorem r_mul {a b : Int} {t u : Tok} (hm : IntMulOk a b) (hq : ∀ t tk', Q (.int (a * b) t) (St s h tk')) : wpAny (MM w) A (binaryOp .Mult (.int a t) (.int b u)) Q E (St s h tk) := PyProof.Rows.mul_int (hq _ _) hm
theorem r_sub {a b : Int} {t u : Tok} (hq : ∀ t tk', Q (.int (a - b) t) (St s h tk')) : wpAny (MM w) A (binaryOp .Sub (.int a t) (.int b u)) Q E (St s h tk) := PyProof.Rows.sub_int (hq _ _)
theorem r_neg {a : Int} {t : Tok} (hq : ∀ t tk', Q (.int (-a) t) (St s h tk')) : wpAny (MM w) A (unaryOp .USub (.int a t)) Q E (St s h tk) := neg_int (hq _ _)
theorem r_fdiv {a b : Int} {t u : Tok} (hb : b ≠ 0) (hs : b.natAbs < 1000) (hq : ∀ t tk', Q (.int (a.fdiv b) t) (St s h tk')) : wpAny (MM w) A (binaryOp .FloorDiv (.int a t) (.int b u)) Q E (St s h tk) :=
  PyProof.Rows.floordiv_int hb (hq _ _) (.inl (noPylong_small (by lia)))
theorem r_mod {a b : Int} {t u : Tok} (hb : b ≠ 0) (hq : ∀ t tk', Q (.int (a.fmod b) t) (St s h tk')) : wpAny (MM w) A (binaryOp .Mod (.int a t) (.int b u)) Q E (St s h tk) := PyProof.Rows.mod_int hb (hq _ _)
theorem mulOk_small {a b : Int} (h1 : -1000 ≤ b) (h2 : b ≤ 1000) : IntMulOk a b := IntMulOk.of_right (intBits_le_64 (by lia) (by lia))
theorem r_min2 {a b : Int} {t u : Tok} (hh : A.handled = none) (N : Now hb ch h obs) (hq : ∀ h' t' tk', Now hb ch h' obs → Q (.int (if b < a then b else a) t') (St s h' tk')) : wpAny (MM w) A (call (.builtin "min") [.int a t, .int b u]) Q E (St s h tk) :=
  min_two_ints hh fun h' tk' hk => by
    by_cases c : b < a
    · have := hq h' u tk' (N.grow hk)
      simpa only [if_pos c] using this
    · have := hq h' t tk' (N.grow hk)
      simpa only [if_neg c] using this
end
end
section
open PySem PySem.W PySem.W.X PyProof.Rows PySem.Calls PySem.Spec PyProof
end
local macro_rules | `(tactic| walk_at "lk") => `(tactic| (repeat (first | exact up_self _ _ _ | refine (up_ne (by kernel_rfl)).trans ?_ | assumption)))
section
open PySem PySem.W PySem.W.X PyProof.Rows PySem.Calls PySem.Spec PyProof
open LCg (NsObj lst)
set_option maxHeartbeats 1000000
noncomputable def slicesP (sz : Nat → Int) (m : Int) (k : Nat) : Int := -((-(sz k)).fdiv m)
noncomputable def hadP (sz : Nat → Int) (m : Int) (k j : Nat) : Int := if m * (if j ≤ k then slicesP sz m k else slicesP sz m k - 1) < sz j then m * (if j ≤ k then slicesP sz m k else slicesP sz m k - 1) else sz j
/-- the book of the word in place k, as far as place n -/
noncomputable def bookP (sz : Nat → Int) (m : Int) (k n : Nat) : List (Nat × Int) := ((List.range n).filter fun j => decide (0 < hadP sz m k j)).map fun j => (j, hadP sz m k j)
noncomputable def named (nm : Nat → Str) (b : List (Nat × Int)) : List (Str × Int) := b.map fun p => (nm p.1, p.2)
theorem bookP_succ (sz : Nat → Int) (m : Int) (k n : Nat) : bookP sz m k (n + 1) = bookP sz m k n ++ (if 0 < hadP sz m k n then [(n, hadP sz m k n)] else []) := by
  unfold bookP
  rw [List.range_succ, List.filter_append, List.map_append]
  by_cases c : 0 < hadP sz m k n
  · simp [c]
  · simp [c]
theorem bookP_lt (sz : Nat → Int) (m : Int) (k n : Nat) : ∀ p ∈ bookP sz m k n, p.1 < n := by
  intro p hp
  unfold bookP at hp
  obtain ⟨j, hj, rfl⟩ := List.mem_map.mp hp
  exact List.mem_range.mp (List.mem_filter.mp hj).1
/-- the books that are made -/
noncomputable def BooksAt (w : World) (nm : Nat → Str) (bk' : Nat → List (Nat × Int)) (bl : List (Addr × Obj)) : Prop :=
  ∀ k a o, bl[k]? = some (a, o) → 183 ≤ a ∧ ∃ rv, o.IsDictOf (SK w) (intPairs rv) ∧ bk rv = named nm (bk' k)
noncomputable def booksKv (nm : Nat → Str) (bl : List (Addr × Obj)) : List (Str × Value) := bl.zipIdx.map fun p => (nm p.2, .ref p.1.1)
theorem Now.ins2 {hb h : Heap} {ch : List Addr} {x y a : Addr × Obj} {r : List (Addr × Obj)} (N : Now hb ch h (x :: y :: (r ++ [a]))) : Now hb ch h (x :: y :: a :: r) :=
  N.perm (.cons _ (.cons _ (List.perm_append_singleton _ _).symm))
theorem Now.out2 {hb h : Heap} {ch : List Addr} {x y a : Addr × Obj} {r : List (Addr × Obj)} (N : Now hb ch h (x :: y :: a :: r)) : Now hb ch h (x :: y :: (r ++ [a])) :=
  N.perm (.cons _ (.cons _ (List.perm_append_singleton _ _)))
theorem Now.to2 {hb h : Heap} {ch : List Addr} {x y a : Addr × Obj} {r : List (Addr × Obj)} (N : Now hb ch h (a :: x :: y :: r)) : Now hb ch h (x :: y :: a :: r) :=
  N.perm ((List.Perm.cons x (List.Perm.swap a y r)).trans (List.Perm.swap a x (y :: r)))
noncomputable def bBooks : List Stmt := defBody "_law_books" PR.main.body
section
variable {w : World} {A : Around} {s : Shared} {E : Value → Shared → Prop} {Q : Value → Shared → Prop} {h : Heap} {tk : Nat}
noncomputable abbrev eB (w : World) (L : Addr) : Env := callEnv (fnAt (KK w.params) 172) L 172
theorem law_books (X : (KK w.params).In h) (hroom : A.depth + 1 < recursionLimit) (hh : A.handled = none) {lo ds : Addr} {sv : List (Str × Int × Tok)} {nm : Nat → Str} {tn : Nat → Tok} {sz : Nat → Int} {m : Int} {tm : Tok}
    (hlo : h.IsList lo ((List.range 4).map fun i => Value.str (nm i) (tn i)).toArray) (hds : h.DictOf (SK w) ds (intPairs sv)) (hsz : ∀ k, k < 4 → ∃ t, valueAt (intPairs sv) (nm k) = some (.int (sz k) t))
    (hnm : ∀ i j, i < 4 → j < 4 → nm i = nm j → i = j) (hm : 1 ≤ m) (hm2 : m ≤ 5) 
    (hQ : ∀ h' tk' D oD bl, Now h [] h' ((D, oD) :: bl) → bl.length = 4 → 183 ≤ D → oD.IsDictOf (SK w) (booksKv nm bl) → BooksAt w nm (fun k => bookP sz m k 4) bl → Q (.ref D) (St s h' tk')) :
    wpAny (MM w) A (call (.ref 172) [.ref lo, .ref ds, .int m tm]) Q E (St s h tk) := by
  with_reducible refine callF (s := St s h tk) X (Nat.lt_of_succ_lt hroom) (o := obAt (KK w.params) 172) (fd := fnAt (KK w.params) 172) (body := bBooks) (binds := [(S "order", .ref lo), (S "sizes", .ref ds), (S "most", .int m tm)]) (by kernel_rfl) (by kernel_rfl) (by kernel_rfl) (by kernel_rfl) (by kernel_rfl) (by kernel_rfl) (by kernel_rfl) (by kernel_rfl) (by kernel_rfl) (by kernel_rfl) ?_
  intro h₁ oL E' N nL
  dsimp only at N ⊢
  have hL := kk_size X
  have hfr := get?_size h
  generalize h.objs.size = L at N hL hfr ⊢
  have hh' : (A.deeper (eB w L)).handled = none := hh
  have lO : ∀ {h' : Heap} {obs : List (Addr × Obj)}, Now h [] h' obs → h'.IsList lo ((List.range 4).map fun i => Value.str (nm i) (tn i)).toArray := fun N' => let ⟨o, e, r⟩ := hlo; ⟨o, N'.keep _ _ e (by simp), r⟩
  have dS : ∀ {h' : Heap} {obs : List (Addr × Obj)}, Now h [] h' obs → h'.DictOf (SK w) ds (intPairs sv) := fun N' => hds.at fun o e => N'.keep _ _ e (by simp)
  have ld : ∀ {x : Str} {v : Value} {px : Pos} {Q' E' : Value → Shared → Prop} {hx : Heap} {tkx : Nat} {oLx : Obj} {mx : Str → Option Value}, hx.get? L = some oLx → NsObj oLx mx → mx x = some v → (eB w L).kindOf x = some .local → (x == ("__debug__" : Str)) = false → Q' v (St s hx tkx) →
      wpAny (MM w) (A.deeper (eB w L)) (eval (.Name x px) (eB w L)) Q' E' (St s hx tkx) := fun e nl hv hk hd q => r_name (env := eB w L) e nl hv (by kernel_rfl) hk q hd
  change wpAny (MM w) (A.deeper (eB w L)) (execs bBooks (eB w L)) _ E' (St s h₁ _)
  have m1 : (fun x => List.lookup x [(S "order", Value.ref lo), (S "sizes", .ref ds), (S "most", .int m tm)].reverse) (S "order") = some (.ref lo) := by kernel_rfl
  have m2 : (fun x => List.lookup x [(S "order", Value.ref lo), (S "sizes", .ref ds), (S "most", .int m tm)].reverse) (S "sizes") = some (.ref ds) := by kernel_rfl
  have m3 : (fun x => List.lookup x [(S "order", Value.ref lo), (S "sizes", .ref ds), (S "most", .int m tm)].reverse) (S "most") = some (.int m tm) := by kernel_rfl
  generalize (fun x => List.lookup x [(S "order", Value.ref lo), (S "sizes", .ref ds), (S "most", .int m tm)].reverse) = mm at nL m1 m2 m3
  conv => arg 3; arg 1; whnf
  with_reducible refine x_assign ?_ (by kernel_rfl)
  with_reducible refine r_dict0 (s := s) N fun h₂ D oD N₂ iD eD => ?_
  have hD : 183 ≤ D := by rw [eD]; exact kk_size (kk_keep X N (by simp))
  replace N₂ := N₂.perm (List.Perm.swap (D, oD) (L, oL) [])
  refine r_store N₂ 0 rfl nL (by kernel_rfl) (by kernel_rfl) fun h₃ o₃ tk₃ N₃ n₃ => ?_
  replace N₃ : Now h [] h₃ [(L, o₃), (D, oD)] := N₃
  have X₃ : (KK w.params).In h₃ := kk_keep X N₃ (by simp)
  with_reducible refine wpAny_execs_cons ?_
  refine wpAny_For ?_ (by intro _; kernel_rfl)
  refine r_range (s := s) (n := 4) X₃ (by kernel_rfl) (by kernel_rfl) (by kernel_rfl) (by kernel_rfl) N₃ (by lia) (by kernel_rfl) (fun Q' hq => r_int (s := s) fun t tk' => hq t tk') fun h₄ tk₄ I oI N₄ hI hIc => ?_
  let J4 : Nat → List (Addr × Obj) → Prop := fun i obs' => ∃ oL oD mx bl, obs' = (L, oL) :: (D, oD) :: bl ∧ NsObj oL mx ∧ mx (S "order") = some (.ref lo) ∧ mx (S "sizes") = some (.ref ds) ∧ mx (S "most") = some (.int m tm) ∧ mx (S "books") = some (.ref D) ∧ bl.length = i ∧ oD.IsDictOf (SK w) (booksKv nm bl) ∧ BooksAt w nm (fun k => bookP sz m k 4) bl
  refine r_forW2 (s := s) J4
    (walks_range hh' 4) (fun i h e => ⟨_, e⟩) hIc stays_range N₄ (by simpa using hI) ⟨o₃, oD, _, [], rfl, n₃, by walk_at "lk", by walk_at "lk", by walk_at "lk", by walk_at "lk", rfl, iD, fun k a o e => by simp at e⟩ ?_ ?_
  · intro i v h' tk' oI' _ E₁ Pz hi hz1 hz2 N' hpz
    refine Classical.byContradiction fun hng => ?_
    obtain ⟨tv, rfl⟩ := hz1
    obtain ⟨oL', oD', mx, bl, rfl, n', q1, q2, q3, q4, hbl, iD', hB⟩ := hz2
    refine hng ?_
    obtain ⟨tz, hz⟩ := hsz i hi
    have key : ∀ {j : Nat}, j < 4 → ((List.range 4).map fun i => Value.str (nm i) (tn i)).toArray[j]? = some (.str (nm j) (tn j)) := fun {j} hj => by
      rw [List.getElem?_toArray, List.getElem?_map, List.getElem?_range hj]; rfl
    refine r_store N' 0 rfl n' (by kernel_rfl) (by kernel_rfl) fun h₅ o₅ tk₅ N₅ n₅ => ?_
    replace N₅ : Now h [] h₅ ((L, o₅) :: (D, oD') :: (bl ++ [(I, oI')])) := N₅
    with_reducible refine x_assign ?_ (by kernel_rfl)
    with_reducible refine wpAny_UnaryOp ?_
    with_reducible refine wpAny_BinOp ?_
    with_reducible refine wpAny_UnaryOp ?_
    with_reducible refine Subscript_ ?_
    refine ld (N₅.get 0 rfl) n₅ (v := .ref ds) (by walk_at "lk") (by kernel_rfl) (by kernel_rfl) ?_
    with_reducible refine Subscript_ ?_
    refine ld (N₅.get 0 rfl) n₅ (v := .ref lo) (by walk_at "lk") (by kernel_rfl) (by kernel_rfl) ?_
    refine ld (N₅.get 0 rfl) n₅ (v := .int i tv) (by walk_at "lk") (by kernel_rfl) (by kernel_rfl) ?_
    refine r_itemL (lO N₅) (by lia) (key hi) ?_ (by kernel_rfl) (by intro _; kernel_rfl)
    with_reducible refine r_itemD (dS N₅) (is_key _ _) hz (fun tk₆ => ?_) (by kernel_rfl) (by intro _; kernel_rfl)
    with_reducible refine r_neg fun t7 tk₇ => ?_
    refine ld (N₅.get 0 rfl) n₅ (v := .int m tm) (by walk_at "lk") (by kernel_rfl) (by kernel_rfl) ?_
    refine r_fdiv (by lia) (by lia) fun t8 tk₈ => ?_
    with_reducible refine r_neg fun t9 tk₉ => ?_
    refine r_store N₅ 0 rfl n₅ (by kernel_rfl) (by kernel_rfl) fun h₆ o₆ tk₆ N₆ n₆ => ?_
    replace N₆ : Now h [] h₆ ((L, o₆) :: (D, oD') :: (bl ++ [(I, oI')])) := N₆
    have eS : -((-(sz i)).fdiv m) = slicesP sz m i := rfl
    rw [eS] at n₆
    with_reducible refine x_assign ?_ (by kernel_rfl)
    with_reducible refine r_dict0 (s := s) N₆ fun h₇ B oB N₇ iB eBB => ?_
    have hB1 : 183 ≤ B := by rw [eBB]; exact kk_size (kk_keep X N₆ (by simp))
    replace N₇ := N₇.to2
    refine r_store N₇ 0 rfl n₆ (by kernel_rfl) (by kernel_rfl) fun h₈ o₈ tk₈ N₈ n₈ => ?_
    replace N₈ : Now h [] h₈ ((L, o₈) :: (D, oD') :: (B, oB) :: (bl ++ [(I, oI')])) := N₈
    have X₈ : (KK w.params).In h₈ := kk_keep X N₈ (by simp)
    with_reducible refine wpAny_execs_cons ?_
    with_reducible refine wpAny_For ?_ (by intro _; kernel_rfl)
    refine r_range (s := s) (n := 4) X₈ (by kernel_rfl) (by kernel_rfl) (by kernel_rfl) (by kernel_rfl) N₈ (by lia) (by kernel_rfl) (fun Q' hq => r_int (s := s) fun t tk' => hq t tk') fun h₉ tk₉ I₂ oI₂ N₉ hI₂ hIc₂ => ?_
    let J5 : Nat → List (Addr × Obj) → Prop := fun j obs' => ∃ oL oB mx rv, obs' = (L, oL) :: (D, oD') :: (B, oB) :: (bl ++ [(I, oI')]) ∧ NsObj oL mx ∧ mx (S "order") = some (.ref lo) ∧ mx (S "sizes") = some (.ref ds) ∧ mx (S "most") = some (.int m tm) ∧ mx (S "books") = some (.ref D) ∧ mx (S "k") = some (.int i tv) ∧ mx (S "slices") = some (.int (slicesP sz m i) t9) ∧ mx (S "book") = some (.ref B) ∧ oB.IsDictOf (SK w) (intPairs rv) ∧ bk rv = named nm (bookP sz m i j)
    refine r_forW2 (s := s) J5
      (walks_range hh' 4) (fun i h e => ⟨_, e⟩) hIc₂ stays_range N₉ (by simpa using hI₂) ⟨o₈, oB, _, [], rfl, n₈, by walk_at "lk", by walk_at "lk", by walk_at "lk", by walk_at "lk", by walk_at "lk", by walk_at "lk", by walk_at "lk", iB, rfl⟩ ?_ ?_
    · intro j v h₁₀ tk₁₀ oI₁₀ _ E₂ Pz hj hz3 hz4 N₁₀ hpz
      refine Classical.byContradiction fun hng => ?_
      obtain ⟨tj, rfl⟩ := hz3
      obtain ⟨oL₁, oB₁, mz, rv, rfl, n₁₀, p1, p2, p3, p4, p5, p6, p7, iB₁, hrv⟩ := hz4
      refine hng ?_
      obtain ⟨tzj, hzj⟩ := hsz j hj
      refine r_store N₁₀ 0 rfl n₁₀ (by kernel_rfl) (by kernel_rfl) fun h₁₁ o₁₁ tk₁₁ N₁₁ n₁₁ => ?_
      let R4 : List (Addr × Obj) := (L, o₁₁) :: (D, oD') :: (B, oB₁) :: ((bl ++ [(I, oI')]) ++ [(I₂, oI₁₀)])
      replace N₁₁ : Now h [] h₁₁ R4 := N₁₁
      have X₁₁ : (KK w.params).In h₁₁ := kk_keep X N₁₁ (by simp)
      have p8 : up mz (S "j") (.int j tj) (S "j") = some (.int j tj) := up_self _ _ _
      replace p1 : up mz (S "j") (.int j tj) (S "order") = some (.ref lo) := by walk_at "lk"
      replace p2 : up mz (S "j") (.int j tj) (S "sizes") = some (.ref ds) := by walk_at "lk"
      replace p3 : up mz (S "j") (.int j tj) (S "most") = some (.int m tm) := by walk_at "lk"
      replace p4 : up mz (S "j") (.int j tj) (S "books") = some (.ref D) := by walk_at "lk"
      replace p5 : up mz (S "j") (.int j tj) (S "k") = some (.int i tv) := by walk_at "lk"
      replace p6 : up mz (S "j") (.int j tj) (S "slices") = some (.int (slicesP sz m i) t9) := by walk_at "lk"
      replace p7 : up mz (S "j") (.int j tj) (S "book") = some (.ref B) := by walk_at "lk"
      change NsObj o₁₁ (up mz (S "j") (.int j tj)) at n₁₁
      generalize up mz (S "j") (.int j tj) = my at n₁₁ p1 p2 p3 p4 p5 p6 p7 p8
      have ld' : ∀ {x : Str} {v : Value} {px : Pos} {Q' E' : Value → Shared → Prop} {tkx : Nat}, my x = some v → (eB w L).kindOf x = some .local → (x == ("__debug__" : Str)) = false → Q' v (St s h₁₁ tkx) →
        wpAny (MM w) (A.deeper (eB w L)) (eval (.Name x px) (eB w L)) Q' E' (St s h₁₁ tkx) := fun hv hk hd q => ld (N₁₁.get 0 rfl) n₁₁ hv hk hd q
      with_reducible refine x_assign ?_ (by kernel_rfl)
      with_reducible refine r_callB (s := s) (id := "min") X₁₁ (by kernel_rfl) (by kernel_rfl) (by kernel_rfl) (by kernel_rfl) (by kernel_rfl) (by kernel_rfl) (by kernel_rfl) (by kernel_rfl) ?_ (by kernel_rfl)
      with_reducible refine args_cons ?_ (by kernel_rfl)
      with_reducible refine Subscript_ ?_
      with_reducible refine ld' p2 (by kernel_rfl) (by kernel_rfl) ?_
      with_reducible refine Subscript_ ?_
      with_reducible refine ld' p1 (by kernel_rfl) (by kernel_rfl) ?_
      with_reducible refine ld' p8 (by kernel_rfl) (by kernel_rfl) ?_
      refine r_itemL (lO N₁₁) (by lia) (key hj) ?_ (by kernel_rfl) (by intro _; kernel_rfl)
      with_reducible refine r_itemD (dS N₁₁) (is_key _ _) hzj (fun tk₁₂ => ?_) (by kernel_rfl) (by intro _; kernel_rfl)
      with_reducible refine args_cons ?_ (by kernel_rfl)
      with_reducible refine wpAny_BinOp ?_
      with_reducible refine ld' p3 (by kernel_rfl) (by kernel_rfl) ?_
      generalize hX : (if j ≤ i then slicesP sz m i else slicesP sz m i - 1) = Xv
      with_reducible refine wpAny_mono (Q := fun v s' => ∃ t tk', v = .int Xv t ∧ s' = St s h₁₁ tk') ?_ ?_ (fun _ _ e => e)
      · with_reducible refine wpAny_IfExp ?_
        with_reducible refine wpAny_isTrue_Compare1 ?_ (by kernel_rfl)
        with_reducible refine ld' p8 (by kernel_rfl) (by kernel_rfl) ?_
        with_reducible refine ld' p5 (by kernel_rfl) (by kernel_rfl) ?_
        with_reducible refine PyProof.Rows.le_int ?_
        with_reducible refine wpAny_truthy_bool ?_
        by_cases c : j ≤ i
        · rw [if_pos c] at hX
          rw [decide_eq_true (by lia : (j : Int) ≤ i), if_pos rfl]
          refine ld' p6 (by kernel_rfl) (by kernel_rfl) ⟨_, _, by rw [hX], rfl⟩
        · rw [if_neg c] at hX
          rw [decide_eq_false (by lia : ¬ (j : Int) ≤ i), if_neg (by decide)]
          with_reducible refine wpAny_BinOp ?_
          with_reducible refine ld' p6 (by kernel_rfl) (by kernel_rfl) ?_
          with_reducible refine r_int (s := s) fun t13 tk13 => ?_
          refine r_sub fun t14 tk14 => ⟨_, _, by rw [hX], rfl⟩
      intro _ _ hz5
      refine Classical.byContradiction fun hng => ?_
      obtain ⟨t15, tk15, rfl, rfl⟩ := hz5
      refine hng ?_
      refine r_mul (IntMulOk.of_left (intBits_le_64 (by lia) (by lia))) fun t16 tk16 => ?_
      with_reducible refine args_nil ?_
      with_reducible refine r_min2 hh' N₁₁ fun h₁₂ t17 tk17 N₁₂ => ?_
      have hhad : (if m * Xv < sz j then m * Xv else sz j) = hadP sz m i j := by unfold hadP; rw [hX]
      rw [hhad]
      refine r_store N₁₂ 0 rfl n₁₁ (by kernel_rfl) (by kernel_rfl) fun h₁₃ o₁₃ tk₁₃ N₁₃ n₁₃ => ?_
      let R5 : List (Addr × Obj) := (L, o₁₃) :: (D, oD') :: (B, oB₁) :: ((bl ++ [(I, oI')]) ++ [(I₂, oI₁₀)])
      replace N₁₃ : Now h [] h₁₃ R5 := N₁₃
      have hlen : (intPairs rv).length ≤ sizeLine := by
        have : rv.length = (bk rv).length := by simp [bk]
        rw [intPairs_length, this, hrv, sizeLine_eq]
        unfold named bookP
        rw [List.length_map, List.length_map]
        exact Nat.le_trans (List.length_filter_le _ _) (by rw [List.length_range]; lia)
      with_reducible refine wpAny_execs_cons ?_
      with_reducible refine wpAny_If ?_
      with_reducible refine wpAny_isTrue_Compare1 ?_ (by kernel_rfl)
      refine ld (N₁₃.get 0 rfl) n₁₃ (v := .int (hadP sz m i j) t17) (by walk_at "lk") (by kernel_rfl) (by kernel_rfl) ?_
      with_reducible refine r_int (s := s) fun t18 tk18 => ?_
      with_reducible refine PyProof.Rows.gt_int ?_
      with_reducible refine wpAny_truthy_bool ?_
      by_cases c : 0 < hadP sz m i j
      · rw [decide_eq_true c, if_pos rfl]
        with_reducible refine wpAny_execs_cons ?_
        with_reducible refine wpAny_Assign_Subscript ?_ (by kernel_rfl)
        refine ld (N₁₃.get 0 rfl) n₁₃ (v := .int (hadP sz m i j) t17) (by walk_at "lk") (by kernel_rfl) (by kernel_rfl) ?_
        refine ld (N₁₃.get 0 rfl) n₁₃ (v := .ref B) (by walk_at "lk") (by kernel_rfl) (by kernel_rfl) ?_
        with_reducible refine Subscript_ ?_
        refine ld (N₁₃.get 0 rfl) n₁₃ (v := .ref lo) (by walk_at "lk") (by kernel_rfl) (by kernel_rfl) ?_
        refine ld (N₁₃.get 0 rfl) n₁₃ (v := .int j tj) (by walk_at "lk") (by kernel_rfl) (by kernel_rfl) ?_
        refine r_itemL (lO N₁₃) (by lia) (key hj) ?_ (by kernel_rfl) (by intro _; kernel_rfl)
        refine r_setItem N₁₃ 2 rfl iB₁ (is_key _ _) hlen fun h₁₄ oB₁₄ tk₁₄ N₁₄ iB₁₄ => ?_
        refine wpAny_execs_nil (wpAny_execs_nil (hpz _ _ ⟨.inl rfl, h₁₄, tk₁₄, (L, o₁₃) :: (D, oD') :: (B, oB₁₄) :: (bl ++ [(I, oI')]), rfl, ⟨o₁₃, oB₁₄, _, rv ++ [(nm j, hadP sz m i j, t17)], rfl, n₁₃, by walk_at "lk", by walk_at "lk", by walk_at "lk", by walk_at "lk", by walk_at "lk", by walk_at "lk", by walk_at "lk", ?_, ?_⟩, N₁₄⟩))
        · have e : intPairs (rv ++ [(nm j, hadP sz m i j, t17)]) = intPairs rv ++ [(nm j, .int (hadP sz m i j) t17)] := by simp [intPairs]
          rw [e, ← stored_new (k := nm j) (v := .int (hadP sz m i j) t17) ?_]
          · exact iB₁₄
          · intro hmem
            rw [← keys_bk, hrv] at hmem
            unfold named at hmem
            rw [List.map_map] at hmem
            obtain ⟨p, hp, ep⟩ := List.mem_map.mp hmem
            have hlt := bookP_lt sz m i j p hp
            have := hnm p.1 j (by lia) hj ep
            lia
        · rw [bookP_succ, if_pos c]
          simp only [named, List.map_append, bk] at hrv ⊢
          rw [hrv]; rfl
      · rw [decide_eq_false c, if_neg (by decide)]
        refine wpAny_execs_nil (wpAny_execs_nil (hpz _ _ ⟨.inl rfl, h₁₃, _, (L, o₁₃) :: (D, oD') :: (B, oB₁) :: (bl ++ [(I, oI')]), rfl, ⟨o₁₃, oB₁, _, rv, rfl, n₁₃, by walk_at "lk", by walk_at "lk", by walk_at "lk", by walk_at "lk", by walk_at "lk", by walk_at "lk", by walk_at "lk", iB₁, ?_⟩, N₁₃⟩))
        rw [bookP_succ, if_neg c, List.append_nil]; exact hrv
    · intro h₁₀ tk₁₀ _ hz6 N₁₀
      refine Classical.byContradiction fun hng => ?_
      obtain ⟨oL₁, oB₁, mz, rv, rfl, n₁₀, p1, p2, p3, p4, p5, p6, p7, iB₁, hrv⟩ := hz6
      refine hng ?_
      with_reducible refine wpAny_execs_cons ?_
      with_reducible refine wpAny_Assign_Subscript ?_ (by kernel_rfl)
      refine ld (N₁₀.get 0 rfl) n₁₀ (v := .ref B) (by walk_at "lk") (by kernel_rfl) (by kernel_rfl) ?_
      refine ld (N₁₀.get 0 rfl) n₁₀ (v := .ref D) (by walk_at "lk") (by kernel_rfl) (by kernel_rfl) ?_
      with_reducible refine Subscript_ ?_
      refine ld (N₁₀.get 0 rfl) n₁₀ (v := .ref lo) (by walk_at "lk") (by kernel_rfl) (by kernel_rfl) ?_
      refine ld (N₁₀.get 0 rfl) n₁₀ (v := .int i tv) (by walk_at "lk") (by kernel_rfl) (by kernel_rfl) ?_
      refine r_itemL (lO N₁₀) (by lia) (key hi) ?_ (by kernel_rfl) (by intro _; kernel_rfl)
      have hbk : (booksKv nm bl).length ≤ sizeLine := by
        unfold booksKv
        rw [List.length_map, List.length_zipIdx, sizeLine_eq]; lia
      refine r_setItem N₁₀ 1 rfl iD' (is_key _ _) hbk fun h₁₁ oD₁ tk₁₁ N₁₁ iD₁ => ?_
      replace N₁₁ : Now h [] h₁₁ ((L, oL₁) :: (D, oD₁) :: (B, oB₁) :: (bl ++ [(I, oI')])) := N₁₁
      have N₁₂ := N₁₁.perm (obs' := (L, oL₁) :: (D, oD₁) :: ((bl ++ [(B, oB₁)]) ++ [(I, oI')])) (by
        with_reducible refine .cons _ (.cons _ ?_)
        rw [List.append_assoc]
        exact List.perm_middle)
      refine wpAny_execs_nil (hpz _ _ ⟨.inl rfl, h₁₁, tk₁₁, (L, oL₁) :: (D, oD₁) :: (bl ++ [(B, oB₁)]), rfl, ⟨oL₁, oD₁, mz, bl ++ [(B, oB₁)], rfl, n₁₀, p1, p2, p3, p4, by rw [List.length_append, hbl]; rfl, ?_, ?_⟩, N₁₂⟩)
      · have e : booksKv nm (bl ++ [(B, oB₁)]) = booksKv nm bl ++ [(nm i, .ref B)] := by
          unfold booksKv
          rw [List.zipIdx_append, List.map_append, hbl]; simp
        rw [e, ← stored_new (k := nm i) (v := .ref B) ?_]
        · exact iD₁
        · intro hmem
          unfold booksKv at hmem
          rw [List.map_map] at hmem
          obtain ⟨p, hp, ep⟩ := List.mem_map.mp hmem
          have hlt : p.2 < i := by have := List.snd_lt_of_mem_zipIdx hp; lia
          have := hnm p.2 i (by lia) hi ep
          lia
      · intro k a o e
        rcases Nat.lt_trichotomy k bl.length with c | c | c
        · rw [List.getElem?_append_left c] at e; exact hB k a o e
        · subst c
          rw [List.getElem?_append_right (Nat.le_refl _), Nat.sub_self] at e
          cases e
          exact ⟨hB1, rv, iB₁, by rw [hrv, hbl]⟩
        · rw [List.getElem?_eq_none (by rw [List.length_append, List.length_singleton]; lia)] at e; cases e
  · intro h' tk' _ hz7 N'
    refine Classical.byContradiction fun hng => ?_
    obtain ⟨oL', oD', mx, bl, rfl, n', q1, q2, q3, q4, hbl, iD', hB⟩ := hz7
    refine hng ?_
    with_reducible refine x_ret ?_
    refine ld (N'.get 0 rfl) n' q4 (by kernel_rfl) (by kernel_rfl) ?_
    exact hQ _ _ D oD' bl (N'.sub (.cons _ (List.Sublist.refl _))) hbl hD iD' hB
end
end
section
open PySem PySem.W PySem.W.X PyProof.Rows PySem.Calls PySem.Spec PyProof
open LCg (NsObj lst)
set_option maxHeartbeats 1000000
section
variable {w : World} {A : Around} {s : Shared} {h : Heap} {tk : Nat} {E : Value → Shared → Prop} {env : Env} {hb : Heap} {ch : List Addr} {obs : List (Addr × Obj)} {Q : Value → Shared → Prop}
theorem r_sumV {vw d : Addr} {vals : List (Str × Int × Tok)} {ep : Nat} (hh : A.handled = none) (hvw : h.IsValuesView vw d) (hm : h.DictAt (SK w) d (intPairs vals) ep) (N : Now hb ch h obs)
    (hq : ∀ h' tk' t, Now hb ch h' obs → Q (.int (vals.map (·.2.1)).sum t) (St s h' tk')) : wpAny (MM w) A (call (.builtin "sum") [.ref vw]) Q E (St s h tk) := by
  refine call_sum_walkG (s := St s h tk) ?_
  refine wpAny_pyIter_values (knd := SK w) (s := St s h tk) (d := d) (kvs := intPairs vals) (ep := ep) hvw hm ?_
  have N₁ := N.allocE { cls := .type "dict_valueiterator", data := .fields #[.ref d, .int 0 0, .int (intPairs vals).length 0, .int ep 0] } rfl
  have hne : d ≠ h.objs.size := Nat.ne_of_lt hm.lt_size
  refine ⟨h.objs.size, [h.objs.size, d], [h.objs.size], _, _, _, fun i => (vals.map (·.2.1)).getD i 0, rfl, Walks.dictValues (knd := SK w) (A := A.in1) hh h.objs.size d hne (intPairs vals) ep, ⟨⟨_, Heap.get?_push_size _ rfl, rfl, rfl⟩, hm.push _⟩, ?_, ?_, ?_⟩
  · intro b hb'
    rcases List.mem_cons.mp hb' with rfl | hb'
    · exact Heap.lt_size (Heap.get?_push_size _ rfl)
    · rcases List.mem_singleton.mp hb' with rfl
      exact (hm.push _).lt_size
  · rintro i v ⟨k, hv⟩
    refine Classical.byContradiction fun hng => ?_
    obtain ⟨n, t, hi, rfl⟩ := intPairs_get hv
    refine hng ?_
    refine ⟨t, ?_⟩
    simp [List.getD, hi]
  · intro h' tk' t' hk
    rw [preSum_getD, intPairs_length]
    have e : (vals.map (·.2.1)).take vals.length = vals.map (·.2.1) := by rw [List.take_of_length_le (by rw [List.length_map]; exact Nat.le_refl _)]
    rw [e]
    exact hq h' tk' t' (N₁.forget N.size_ch fun b o hne' e => hk b o (by simpa using hne') e)
theorem r_sumL {l : Addr} {vals : List (Int × Tok)} (hh : A.handled = none) (hl : h.IsList l (vals.map fun p => Value.int p.1 p.2).toArray) (N : Now hb ch h obs)
    (hq : ∀ h' tk' t, Now hb ch h' obs → Q (.int (vals.map (·.1)).sum t) (St s h' tk')) : wpAny (MM w) A (call (.builtin "sum") [.ref l]) Q E (St s h tk) := by
  refine call_sum_walkG (s := St s h tk) ?_
  refine r_iterL (A := A.in1) N hl fun h₁ I oI N₁ hI hl₁ hIc hne => ?_
  refine ⟨I, [I, l], [I], _, _, _, fun i => (vals.map (·.1)).getD i 0, rfl, Walks.list (A := A.in1) hh I l hne _, ⟨hI, hl₁⟩, ?_, ?_, ?_⟩
  · intro b hb'
    rcases List.mem_cons.mp hb' with rfl | hb'
    · obtain ⟨o, e, _⟩ := hI; exact Heap.lt_size e
    · rcases List.mem_singleton.mp hb' with rfl
      obtain ⟨o, e, _⟩ := hl₁; exact Heap.lt_size e
  · intro i v hv
    rw [List.getElem?_toArray, List.getElem?_map] at hv
    cases e : vals[i]? with
    | none => rw [e] at hv; cases hv
    | some p => rw [e] at hv; cases hv; exact ⟨p.2, by simp [List.getD, e]⟩
  · intro h' tk' t' hk
    rw [preSum_getD]
    have e : (vals.map (·.1)).take (vals.map fun p => Value.int p.1 p.2).toArray.size = vals.map (·.1) := by
      rw [List.take_of_length_le (by rw [List.size_toArray, List.length_map, List.length_map]; exact Nat.le_refl _)]
    rw [e]
    exact hq h' tk' t' (N₁.forget hIc fun b o hne' e => hk b o (by simpa using hne') e)
theorem r_iterD {d : Addr} {kvs : List (Str × Value)} {ep : Nat} {K : Value → Shared → Prop} (N : Now hb ch h obs) (hd : (d == sysModules) = false) (hm : h.DictAt (SK w) d kvs ep)
    (hq : ∀ (h' : Heap) I oI, Now hb ch h' (obs ++ [(I, oI)]) → h'.IsKeyIter I d 0 kvs.length ep → h'.DictAt (SK w) d kvs ep → I ∉ ch → d ≠ I → K (.ref I) (St s h' tk)) : wpAny (MM w) A (pyIter (.ref d)) K E (St s h tk) := by
  refine wpAny_pyIter_dict (knd := SK w) (s := St s h tk) hd hm ?_
  exact hq _ _ _ (N.allocE { cls := .type "dict_keyiterator", data := .fields #[.ref d, .int 0 0, .int kvs.length 0, .int ep 0] } rfl) ⟨_, Heap.get?_push_size _ rfl, rfl, rfl⟩ (hm.push _) N.size_ch (Nat.ne_of_lt hm.lt_size)
theorem r_dget {d : Addr} {key dflt : Value} {k : Str} {kvs : List (Str × Value)} (hm : h.DictOf (SK w) d kvs) (hd : (d == sysModules) = false) (hkey : (SK w).is k key = true) (hq : ∀ tk', Q ((valueAt kvs k).getD dflt) (St s h tk')) :
    wpAny (MM w) A (call (.builtin "dict.get") [.ref d, key, dflt]) Q E (St s h tk) :=
  call_meetsIn (s := St s h tk) F.slot_dict_get hm.typeIs F.entry_dict_get (F.args_dict_get_3 _ _ _) (meets_dict_get_default (SK w) d hkey hd dflt) ⟨_, hm.mapOf, hq _⟩
theorem gm_dict {pl : Sem Bool} {d : Addr} {kvs : List (Str × Value)} {Q : Value × List Value → Shared → Prop} (hm : h.DictOf (SK w) d kvs) (hq : Q (.builtin "dict.get", [.ref d]) (St s h tk)) : wpAny (MM w) A (getMethod (.ref d) "get" pl) Q E (St s h tk) :=
  getMethod_builtin (s := St s h tk) (T := "dict") hm.typeIs F.plainAttrs_dict F.slot_dict_get F.type_dict_get hm.mapOf.noDict hq
theorem gm_values {pl : Sem Bool} {d : Addr} {kvs : List (Str × Value)} {Q : Value × List Value → Shared → Prop} (hm : h.DictOf (SK w) d kvs) (hq : Q (.builtin "dict.values", [.ref d]) (St s h tk)) : wpAny (MM w) A (getMethod (.ref d) "values" pl) Q E (St s h tk) :=
  getMethod_builtin (s := St s h tk) (T := "dict") hm.typeIs F.plainAttrs_dict F.slot_dict_values F.type_dict_values hm.mapOf.noDict hq
theorem r_values {d : Addr} {kvs : List (Str × Value)} (N : Now hb ch h obs) (hm : h.DictOf (SK w) d kvs) (hd : (d == sysModules) = false)
    (hq : ∀ (h' : Heap) vw ov, Now hb ch h' (obs ++ [(vw, ov)]) → h'.IsValuesView vw d → (∀ b o, h.get? b = some o → h'.get? b = some o) → Q (.ref vw) (St s h' tk)) : wpAny (MM w) A (call (.builtin "dict.values") [.ref d]) Q E (St s h tk) :=
  call_meetsIn (s := St s h tk) F.slot_dict_values hm.typeIs F.entry_dict_values (F.args_dict_values_1 _) (meets_dict_values (SK w) d hd) ⟨⟨kvs, hm⟩, hq _ _ _ (N.allocE { cls := .type "dict_values", data := .fields #[.ref d] } rfl) ⟨_, Heap.get?_push_size _ rfl, rfl, rfl⟩ fun b o e => Heap.get?_push_of_some _ e⟩
/-- sum(d.values()), d read by any expression -/
theorem r_sumValues {o : Expr} {p apos cpos pos : Pos} {pl : Sem Bool} (X : (KK w.params).In h) (hk : env.scope.kind = .function) (hx : env.kindOf (S "sum") = some .globalImplicit) (hg : env.globals = mainGlobals) (hbn : env.builtins = builtinsNs)
    (he : starEach [.Call (.Attribute o "values" apos) [] [] cpos] env = [(false, eval (.Call (.Attribute o "values" apos) [] [] cpos) env)])
    (hM : eval (.Call (.Attribute o "values" apos) [] [] cpos) env = (do
      let ov ← eval o env
      standAt apos.atName
      let (f, first) ← holding [ov] (getMethod ov "values" pl)
      callWith cpos f first (backTo cpos (starEach [] env)) []))
    {d : Addr} {vals : List (Str × Int × Tok)} {ep : Nat} (hh : A.handled = none) (hd : (d == sysModules) = false) (N : Now hb ch h obs)
    (ho : ∀ Q' : Value → Shared → Prop, (∀ (h' : Heap) tk', Now hb ch h' obs → h'.DictAt (SK w) d (intPairs vals) ep → Q' (.ref d) (St s h' tk')) → wpAny (MM w) A (eval o env) Q' E (St s h tk))
    (hq : ∀ h' tk' t, Now hb ch h' obs → Q (.int (vals.map (·.2.1)).sum t) (St s h' tk')) :
    wpAny (MM w) A (eval (.Call (.Name (S "sum") p) [.Call (.Attribute o "values" apos) [] [] cpos] [] pos) env) Q E (St s h tk) := by
  refine r_callB (s := s) (id := "sum") X (by kernel_rfl) (by kernel_rfl) hk hx hg hbn he rfl ?_ (by kernel_rfl)
  refine args_cons ?_ he
  refine MethodCall_ ?_ hM
  refine ho _ fun h₁ tk₁ N₁ hd₁ => ?_
  refine gm_values hd₁.dictOf ?_
  refine callWith_method0 ?_
  refine r_values N₁ hd₁.dictOf hd fun h₂ vw ov N₂ hv₂ g₂ => ?_
  refine args_nil ?_
  exact r_sumV hh hv₂ (hd₁.keep g₂) N₂ fun h₃ tk₃ t N₃ => hq h₃ tk₃ t N₃.drop
/-- x[i], x any expression -/
theorem r_itemD2 {value slice : Expr} {d : Addr} {key v : Value} {kvs : List (Str × Value)} {k : Str} (hm : h.DictOf (SK w) d kvs) (hkey : (SK w).is k key = true) (hv : valueAt kvs k = some v) (hq : ∀ tk', Q v (St s h tk'))
    (hs : subscripted slice false (.ref d) key = operate [.ref d, key] (getItem (.ref d) key)) : wpAny (MM w) A (subscriptTail value slice (.ref d) key) Q E (St s h tk) :=
  subscriptTail_builtinR (s := St s h tk) (x := v) hm.typeIs PySem.F.slot_dict_getitem.lookup (r_getItem (Q := fun r s' => r = v ∧ Q r s') hm hkey hv fun tk' => ⟨rfl, hq tk'⟩) hs
theorem r_itemL2 {value slice : Expr} {l : Addr} {items : Array Value} {k : Nat} {u : Tok} {x : Value} (hl : h.IsList l items) (hk : k < 1000000) (hx : items[k]? = some x) (hq : Q x (St s h tk))
    (hs : subscripted slice false (.ref l) (.int k u) = operate [.ref l, .int k u] (getItem (.ref l) (.int k u))) : wpAny (MM w) A (subscriptTail value slice (.ref l) (.int k u)) Q E (St s h tk) :=
  item_listR (s := St s h tk) hl (by lia) (by lia) (by simpa using hx) hq hs
theorem r_itemT2 {value slice : Expr} {t : Addr} {items : Array Value} {k : Nat} {u : Tok} {x : Value} (ht : IsTup h t items) (hk : k < 1000000) (hx : items[k]? = some x) (hq : Q x (St s h tk))
    (hs : subscripted slice false (.ref t) (.int k u) = operate [.ref t, .int k u] (getItem (.ref t) (.int k u))) : wpAny (MM w) A (subscriptTail value slice (.ref t) (.int k u)) Q E (St s h tk) := by
  have hlt : k < items.size := (Array.getElem?_eq_some_iff.mp hx).1
  have hj : seqIndex? (k : Int) items.size = some k := by
    unfold seqIndex?
    simp; lia
  exact subscriptTail_builtinR (s := St s h tk) (x := x) ht.typeIs slot_tuple_getitem.lookup (getItem_tuple (s := St s h tk) (Q := fun r s' => r = x ∧ Q r s') ht (by lia) (by lia) hj hx ⟨rfl, hq⟩) hs
end
end
section
open PySem PySem.W PySem.W.X PyProof.Rows PySem.Calls PySem.Spec PyProof
open LCg (NsObj lst)
set_option maxHeartbeats 1000000
theorem store_add {rv : List (Str × Int × Tok)} {k : Str} {c : Int} {t0 : Tok} (hn : ((intPairs rv).map (·.1)).Nodup) :
    ∃ cur t, (valueAt (intPairs rv) k).getD (.int 0 t0) = .int cur t ∧ ∀ tn, ∃ rv', stored (intPairs rv) k (.int (cur + c) tn) = intPairs rv' ∧ bk rv' = addOne (bk rv) k c ∧ rv'.length ≤ rv.length + 1 := by
  by_cases hk : k ∈ (intPairs rv).map (·.1)
  · refine Classical.byContradiction fun hng => ?_
    obtain ⟨cur, tc, hva, hall⟩ := valueAt_int hn hk
    refine hng ?_
    refine ⟨cur, tc, by rw [hva]; rfl, fun tn => ⟨rv.map (fun y => if y.1 = k then (y.1, cur + c, tn) else y), ?_, ?_, by rw [List.length_map]; lia⟩⟩
    · rw [stored_old hk]
      simp only [intPairs, List.map_map]
      with_reducible refine List.map_congr_left fun y _ => ?_
      by_cases q : y.1 = k <;> simp [q]
    · unfold addOne
      rw [if_pos (by rw [keys_bk]; exact hk)]
      simp only [bk, List.map_map]
      with_reducible refine List.map_congr_left fun y hy => ?_
      by_cases q : y.1 = k
      · simp [q, hall y hy q]
      · simp [q]
  · have hva : valueAt (intPairs rv) k = none := by
      have := valueAt_isSome (kvs := intPairs rv) (k := k)
      rw [decide_eq_false hk] at this
      simpa using this
    refine ⟨0, t0, by rw [hva]; rfl, fun tn => ⟨rv ++ [(k, 0 + c, tn)], ?_, ?_, by rw [List.length_append, List.length_singleton]; lia⟩⟩
    · rw [stored_new hk]; simp [intPairs]
    · unfold addOne
      rw [if_neg (by rw [keys_bk]; exact hk)]
      simp [bk]
theorem addBk_snoc (t : List (Str × Int)) (s : List (Str × Int)) (p : Str × Int) : addBk t (s ++ [p]) = addOne (addBk t s) p.1 p.2 := by simp [addBk]
theorem addOne_length (b : List (Str × Int)) (k : Str) (v : Int) : (addOne b k v).length ≤ b.length + 1 := by
  unfold addOne; split
  · rw [List.length_map]; lia
  · rw [List.length_append, List.length_singleton]; lia
theorem addBk_length (s : List (Str × Int)) : ∀ t : List (Str × Int), (addBk t s).length ≤ t.length + s.length := by
  induction s with
  | nil => intro t; simp [addBk]
  | cons p s ih => intro t; have := ih (addOne t p.1 p.2); have := addOne_length t p.1 p.2; simp only [addBk, List.foldl_cons, List.length_cons] at *; lia
noncomputable def hoursOf (rvs : Nat → List (Str × Int × Tok)) (k : Nat) : Int := ((rvs k).map (·.2.1)).sum
noncomputable def callersOf (rvs : Nat → List (Str × Int × Tok)) (n : Nat) : List (Str × Int) := (List.range n).foldl (fun b k => addBk b (bk (rvs k))) []
theorem callersOf_succ (rvs : Nat → List (Str × Int × Tok)) (n : Nat) : callersOf rvs (n + 1) = addBk (callersOf rvs n) (bk (rvs n)) := by
  unfold callersOf; rw [List.range_succ, List.foldl_append]; rfl
noncomputable def bEntry : List Stmt := defBody "_law_entry" PR.main.body
section
variable {w : World} {A : Around} {s : Shared} {E : Value → Shared → Prop} {Q : Value → Shared → Prop} {h : Heap} {tk : Nat}
noncomputable abbrev eE (w : World) (L : Addr) : Env := newEnv (fnAt (KK w.params) 177).scope L (fnAt (KK w.params) 177).globals (cellsFrom (L + 1) (fnAt (KK w.params) 177).scope.names []) ((fnAt (KK w.params) 177).qualname ++ ".<locals>.") (some 177) (fnAt (KK w.params) 177).code none (fnAt (KK w.params) 177).builtins
theorem law_entry (X : (KK w.params).In h) (hroom : A.depth + 1 < recursionLimit) (hh : A.handled = none) {D ds dp : Addr} {ep eps : Nat} {nm : Nat → Str} {ba be : Nat → Nat} {rvs : Nat → List (Str × Int × Tok)} {sv pv : List (Str × Int × Tok)} {pr : Nat → Int}
    (hD : h.DictAt (SK w) D ((List.range 4).map fun k => (nm k, Value.ref (ba k))) ep) (hD1 : 183 ≤ D) (hb : ∀ k, k < 4 → h.DictAt (SK w) (ba k) (intPairs (rvs k)) (be k) ∧ 183 ≤ ba k)
    (hds : h.DictAt (SK w) ds (intPairs sv) eps) (hds1 : 183 ≤ ds) (hdp : h.DictOf (SK w) dp (intPairs pv)) (hpr : ∀ k, k < 4 → ∃ t, valueAt (intPairs pv) (nm k) = some (.int (pr k) t))
    (hnm : ∀ i j, i < 4 → j < 4 → nm i = nm j → i = j) (hho : ∀ k, k < 4 → -1000 ≤ hoursOf rvs k ∧ hoursOf rvs k ≤ 1000) (hlen : ∀ k, k < 4 → (rvs k).length ≤ 10)
    (hQ : ∀ h' tk' dn on rv ar r0 r1 r2 r3, Now h [] h' [(ar, { cls := .type "tuple", data := .seq #[.int 4 r0, .int (sv.map (·.2.1)).sum r1, .int ((List.range 4).map (hoursOf rvs)).sum r2, .int ((List.range 4).map fun k => pr k * hoursOf rvs k).sum r3, .ref dn] }), (dn, on)] →
      on.IsDictOf (SK w) (intPairs rv) → bk rv = callersOf rvs 4 → 183 ≤ dn → 183 ≤ ar → Q (.ref ar) (St s h' tk')) :
    wpAny (MM w) A (call (.ref 177) [.ref D, .ref ds, .ref dp]) Q E (St s h tk) := by
  with_reducible refine wpAny_call ?_
  refine enterC (s := St s h tk) (fd := fnAt (KK w.params) 177) (o := obAt (KK w.params) 177) (body := bEntry) (binds := [(S "books", .ref D), (S "sizes", .ref ds), (S "prices", .ref dp)]) X (Nat.lt_of_succ_lt hroom) (X _ _ (by kernel_rfl)) (by kernel_rfl) (codeRec_of X (by kernel_rfl)) (by kernel_rfl) (by kernel_rfl) (by kernel_rfl) (by kernel_rfl) (by kernel_rfl) ?_
  rintro _ h₁ oL E' E'' rfl N nL
  show wpAny _ _ _ _ _ (St s h₁ tk)
  dsimp only at N ⊢
  have hL := kk_size X
  generalize h.objs.size = L at N hL ⊢
  have eC : cellObs (L + 1) (fnAt (KK w.params) 177).scope.names = [(L + 1, cellO none), (L + 1 + 1, cellO none), (L + 1 + 1 + 1, cellO none)] := by kernel_rfl
  rw [eC] at N
  let R9 : List (Addr × Obj) := [(L, oL), (L + 1, cellO none), (L + 1 + 1, cellO none), (L + 1 + 1 + 1, cellO none)]
  replace N : Now h [] h₁ R9 := N
  with_reducible refine binds_cons ?_
  refine r_storeC (env := eE w L) (s := s) (c := L + 1) N 1 rfl (by kernel_rfl) (by kernel_rfl) (by kernel_rfl) fun h₂ N₂ => ?_
  with_reducible refine binds_cons ?_
  refine r_store (env := eE w L) (s := s) N₂ 0 rfl nL (by kernel_rfl) (by kernel_rfl) fun h₃ o₃ tk₃ N₃ n₃ => ?_
  with_reducible refine binds_cons ?_
  refine r_storeC (env := eE w L) (s := s) (c := L + 1 + 1) N₃ 2 rfl (by kernel_rfl) (by kernel_rfl) (by kernel_rfl) fun h₄ N₄ => ?_
  with_reducible refine binds_nil ?_
  let R10 : List (Addr × Obj) := [(L, o₃), (L + 1, cellO (some (.ref D))), (L + 1 + 1, cellO (some (.ref dp))), (L + 1 + 1 + 1, cellO none)]
  replace N₄ : Now h [] h₄ R10 := N₄
  have X₄ : (KK w.params).In h₄ := kk_keep X N₄ (by simp)
  with_reducible refine ⟨X₄, ?_⟩
  have hh' : (A.deeper (eE w L)).handled = none := hh
  have old : ∀ {h' : Heap} {obs : List (Addr × Obj)} {b : Addr} {o : Obj}, Now h [] h' obs → h.get? b = some o → h'.get? b = some o := fun N' e => N'.keep _ _ e (by simp)
  have XN : ∀ {h' : Heap} {obs : List (Addr × Obj)}, Now h [] h' obs → (KK w.params).In h' := fun N' => kk_keep X N' (by simp)
  have ld : ∀ {x : Str} {v : Value} {px : Pos} {Q' E' : Value → Shared → Prop} {hx : Heap} {tkx : Nat} {oLx : Obj} {mx : Str → Option Value}, hx.get? L = some oLx → NsObj oLx mx → mx x = some v → (eE w L).kindOf x = some .local → (x == ("__debug__" : Str)) = false → Q' v (St s hx tkx) →
      wpAny (MM w) (A.deeper (eE w L)) (eval (.Name x px) (eE w L)) Q' E' (St s hx tkx) := fun e nl hv hk hd q => r_name (env := eE w L) e nl hv (by kernel_rfl) hk q hd
  have ms : up (fun _ => none) (S "sizes") (Value.ref ds) (S "sizes") = some (.ref ds) := up_self _ _ _
  change NsObj o₃ (up (fun _ => none) (S "sizes") (Value.ref ds)) at n₃
  generalize up (fun _ => none) (S "sizes") (Value.ref ds) = mm at n₃ ms
  let kv0 : List (Str × Value) := (List.range 4).map fun k => (nm k, Value.ref (ba k))
  have kvi : ∀ {i : Nat} {k : Str} {x : Value}, kv0[i]? = some (k, x) → i < 4 ∧ k = nm i ∧ x = .ref (ba i) := by
    intro i k x e
    have hi : i < 4 := by
      have := (List.getElem?_eq_some_iff.mp e).1
      simpa [kv0] using this
    have e' : kv0[i]? = some (nm i, .ref (ba i)) := by
      show ((List.range 4).map fun k => (nm k, Value.ref (ba k)))[i]? = _
      rw [List.getElem?_map, List.getElem?_range hi]; rfl
    rw [e] at e'
    cases e'
    exact ⟨hi, rfl, rfl⟩
  have vD : ∀ {i : Nat}, i < 4 → valueAt kv0 (nm i) = some (.ref (ba i)) := fun {i} hi => valueAt_of_get hD.nodup (i := i) (by
      show ((List.range 4).map fun k => (nm k, Value.ref (ba k)))[i]? = _
      rw [List.getElem?_map, List.getElem?_range hi]; rfl)
  have dD : ∀ {h' : Heap} {obs : List (Addr × Obj)}, Now h [] h' obs → h'.DictAt (SK w) D kv0 ep := fun N' => hD.keep fun b o e => old N' e
  have dB : ∀ {h' : Heap} {obs : List (Addr × Obj)} {i : Nat}, Now h [] h' obs → i < 4 → h'.DictAt (SK w) (ba i) (intPairs (rvs i)) (be i) := fun N' hi => (hb _ hi).1.keep fun b o e => old N' e
  change wpAny (MM w) (A.deeper (eE w L)) (execs bEntry (eE w L)) _ E'' (St s h₄ tk₃)
  conv => arg 3; arg 1; whnf
  with_reducible refine x_assign ?_ (by kernel_rfl)
  with_reducible refine r_dc (cl := [(S "books", L + 1)]) (by kernel_rfl) (by kernel_rfl) (by kernel_rfl) (by intro _; kernel_rfl) ?_
  refine r_cell (env := eE w L) (s := s) (c := L + 1) (v := .ref D) (by kernel_rfl) (by kernel_rfl) (by kernel_rfl) (N₄.get 1 rfl) ?_ (by kernel_rfl)
  refine r_iterD N₄ (ne_sys hD1) (dD N₄) fun h₅ I oI N₅ hI hd₅ hIc hne => ?_
  let J6 : Nat → List (Addr × Obj) → List (Str × Value) → Prop := fun i obs' kvs => obs' = [(L, o₃), (L + 1, cellO (some (.ref D))), (L + 1 + 1, cellO (some (.ref dp))), (L + 1 + 1 + 1, cellO none)] ∧ ∃ hv, kvs = intPairs hv ∧ bk hv = (List.range i).map fun k => (nm k, hoursOf rvs k)
  refine dcAll J6
    (Walks.dictKeys (knd := SK w) hh' I D hne kv0 ep) (fun i h ⟨⟨o, e, _⟩, _⟩ => ⟨o, e⟩) hIc (by kernel_rfl) (by kernel_rfl) (by intro C; kernel_rfl) (by simp [kv0]) (stays_keys fun i obs' h' _ _ hk => hD.keep fun b o e => hk b o e (by simp)) N₅ ⟨hI, hd₅⟩ ⟨rfl, [], rfl, rfl⟩ ?_ ?_
  · intro i v h₆ tk₆ C Dh oC mC oI₆ oD _ _ E₁ hi hz1 hz2 nC hmC N₆
    refine Classical.byContradiction fun hng => ?_
    obtain ⟨k, x, hkx, hkey⟩ := hz1
    obtain ⟨rfl, hv, rfl, hbk⟩ := hz2
    refine hng ?_
    obtain ⟨hi4, rfl, rfl⟩ := kvi hkx
    with_reducible refine wpAny_tests_nil ?_
    simp only [if_true]
    obtain ⟨tn, rfl⟩ := key_of hkey
    refine r_name (s := s) (v := .str (nm i) tn) (N₆.get 5 rfl) nC hmC (by kernel_rfl) (by kernel_rfl) ?_ (by kernel_rfl)
    refine r_sumValues (d := ba i) (vals := rvs i) (ep := be i) (XN N₆) (by kernel_rfl) (by kernel_rfl) (by kernel_rfl) (by kernel_rfl) (by kernel_rfl) (by rfl) hh' (ne_sys (hb i hi4).2) N₆ (fun Q' hq => ?_) fun h₇ tk₇ t₇ N₇ => ?_
    · with_reducible refine Subscript_ ?_
      refine r_cell (s := s) (c := L + 1) (v := .ref D) (by kernel_rfl) (by kernel_rfl) (by kernel_rfl) (N₆.get 1 rfl) ?_ (by kernel_rfl)
      refine r_name (s := s) (v := .str (nm i) tn) (N₆.get 5 rfl) nC hmC (by kernel_rfl) (by kernel_rfl) ?_ (by kernel_rfl)
      refine r_itemD (dD N₆).dictOf (is_key _ _) (vD hi4) (fun tk₈ => ?_) (by kernel_rfl) (by intro _; kernel_rfl)
      exact hq _ _ N₆ (dB N₆ hi4)
    · refine ⟨nm i, h₇, tk₇, _, rfl, is_key _ _, ⟨rfl, hv ++ [(nm i, hoursOf rvs i, t₇)], ?_, ?_⟩, N₇⟩
      · rw [stored_new ?_]
        · simp [intPairs, hoursOf]
        · intro hm
          rw [← keys_bk, hbk, List.map_map] at hm
          obtain ⟨j, hj, ej⟩ := List.mem_map.mp hm
          have hj' := List.mem_range.mp hj
          have := hnm j i (by lia) hi4 ej
          lia
      · have e : bk (hv ++ [(nm i, hoursOf rvs i, t₇)]) = bk hv ++ [(nm i, hoursOf rvs i)] := by simp [bk]
        rw [e, hbk, List.range_succ, List.map_append]; rfl
  · intro h₆ tk₆ C Dh oC oDh mC _ _ hz3 nC iDh hDh hC N₆
    refine Classical.byContradiction fun hng => ?_
    obtain ⟨rfl, hv, rfl, hbk⟩ := hz3
    refine hng ?_
    with_reducible refine compEnd N₆ hC nC fun h₇ N₇ => ?_
    have hDh1 : 183 ≤ Dh := Nat.le_trans (kk_size (XN N₅)) hDh
    refine r_storeC (env := eE w L) (s := s) (c := L + 1 + 1 + 1) N₇ 3 rfl (by kernel_rfl) (by kernel_rfl) (by kernel_rfl) fun h₈ N₈ => ?_
    let R11 : List (Addr × Obj) := [(L, o₃), (L + 1, cellO (some (.ref D))), (L + 1 + 1, cellO (some (.ref dp))), (L + 1 + 1 + 1, cellO (some (.ref Dh))), (Dh, oDh)]
    replace N₈ : Now h [] h₈ R11 := N₈
    with_reducible refine x_assign ?_ (by kernel_rfl)
    with_reducible refine r_dict0 (s := s) N₈ fun h₉ dn on N₉ in0 edn => ?_
    have hdn1 : 183 ≤ dn := by rw [edn]; exact kk_size (XN N₈)
    replace N₉ := N₉.perm (List.perm_append_singleton _ _)
    refine r_store N₉ 0 rfl n₃ (by kernel_rfl) (by kernel_rfl) fun h₁₀ o₁₀ tk₁₀ N₁₀ n₁₀ => ?_
    let R12 : List (Addr × Obj) := [(L, o₁₀), (L + 1, cellO (some (.ref D))), (L + 1 + 1, cellO (some (.ref dp))), (L + 1 + 1 + 1, cellO (some (.ref Dh))), (Dh, oDh), (dn, on)]
    replace N₁₀ : Now h [] h₁₀ R12 := N₁₀
    with_reducible refine wpAny_execs_cons ?_
    with_reducible refine wpAny_For ?_ (by intro _; kernel_rfl)
    refine r_cell (env := eE w L) (s := s) (c := L + 1) (v := .ref D) (by kernel_rfl) (by kernel_rfl) (by kernel_rfl) (N₁₀.get 1 rfl) ?_ (by kernel_rfl)
    refine r_iterD N₁₀ (ne_sys hD1) (dD N₁₀) fun h₁₁ I₂ oI₂ N₁₁ hI₂ hd₁₁ hIc₂ hne₂ => ?_
    let J7 : Nat → List (Addr × Obj) → Prop := fun i obs' => ∃ oL on mx rv, obs' = [(L, oL), (L + 1, cellO (some (.ref D))), (L + 1 + 1, cellO (some (.ref dp))), (L + 1 + 1 + 1, cellO (some (.ref Dh))), (Dh, oDh), (dn, on)] ∧ NsObj oL mx ∧ mx (S "sizes") = some (.ref ds) ∧ mx (S "callers") = some (.ref dn) ∧ on.IsDictOf (SK w) (intPairs rv) ∧ bk rv = callersOf rvs i ∧ rv.length ≤ 10 * i
    refine r_forW2 (s := s) J7
      (Walks.dictKeys (knd := SK w) hh' I₂ D hne₂ kv0 ep) (fun i h ⟨⟨o, e, _⟩, _⟩ => ⟨o, e⟩) hIc₂ (stays_keys fun i obs' h' _ _ hk => hD.keep fun b o e => hk b o e (by simp)) N₁₁ ⟨hI₂, hd₁₁⟩ ⟨o₁₀, on, _, [], rfl, n₁₀, by walk_at "lk", by walk_at "lk", in0, rfl, by simp⟩ ?_ ?_
    · intro i v h₁₂ tk₁₂ oI₁₂ _ E₂ Pz hi hz4 hz5 N₁₂ hpz
      refine Classical.byContradiction fun hng => ?_
      obtain ⟨k, x, hkx, hkey⟩ := hz4
      obtain ⟨oL', on', mx, rv, rfl, n', q1, q2, io, hrv, hrl⟩ := hz5
      refine hng ?_
      obtain ⟨hi4, rfl, rfl⟩ := kvi hkx
      obtain ⟨tn, rfl⟩ := key_of hkey
      refine r_store N₁₂ 0 rfl n' (by kernel_rfl) (by kernel_rfl) fun h₁₃ o₁₃ tk₁₃ N₁₃ n₁₃ => ?_
      let R13 : List (Addr × Obj) := [(L, o₁₃), (L + 1, cellO (some (.ref D))), (L + 1 + 1, cellO (some (.ref dp))), (L + 1 + 1 + 1, cellO (some (.ref Dh))), (Dh, oDh), (dn, on'), (I₂, oI₁₂)]
      replace N₁₃ : Now h [] h₁₃ R13 := N₁₃
      with_reducible refine wpAny_execs_cons ?_
      with_reducible refine wpAny_For ?_ (by intro _; kernel_rfl)
      with_reducible refine Subscript_ ?_
      refine r_cell (env := eE w L) (s := s) (c := L + 1) (v := .ref D) (by kernel_rfl) (by kernel_rfl) (by kernel_rfl) (N₁₃.get 1 rfl) ?_ (by kernel_rfl)
      refine ld (N₁₃.get 0 rfl) n₁₃ (v := .str (nm i) tn) (by walk_at "lk") (by kernel_rfl) (by kernel_rfl) ?_
      with_reducible refine r_itemD (dD N₁₃).dictOf (is_key _ _) (vD hi4) (fun tk₁₄ => ?_) (by kernel_rfl) (by intro _; kernel_rfl)
      refine r_iterD N₁₃ (ne_sys (hb i hi4).2) (dB N₁₃ hi4) fun h₁₅ I₃ oI₃ N₁₅ hI₃ hd₁₅ hIc₃ hne₃ => ?_
      let J8 : Nat → List (Addr × Obj) → Prop := fun j obs' => ∃ oL on mz rv', obs' = [(L, oL), (L + 1, cellO (some (.ref D))), (L + 1 + 1, cellO (some (.ref dp))), (L + 1 + 1 + 1, cellO (some (.ref Dh))), (Dh, oDh), (dn, on), (I₂, oI₁₂)] ∧ NsObj oL mz ∧ mz (S "sizes") = some (.ref ds) ∧ mz (S "callers") = some (.ref dn) ∧ mz (S "name") = some (.str (nm i) tn) ∧ on.IsDictOf (SK w) (intPairs rv') ∧ bk rv' = addBk (callersOf rvs i) (bk ((rvs i).take j)) ∧ rv'.length ≤ 10 * i + j
      refine r_forW2 (s := s) J8
        (Walks.dictKeys (knd := SK w) hh' I₃ (ba i) hne₃ (intPairs (rvs i)) (be i)) (fun i h ⟨⟨o, e, _⟩, _⟩ => ⟨o, e⟩) hIc₃ (stays_keys fun _ obs' h' _ _ hk => (hb i hi4).1.keep fun b o e => hk b o e (by simp)) N₁₅ ⟨hI₃, hd₁₅⟩ ⟨o₁₃, on', _, rv, rfl, n₁₃, by walk_at "lk", by walk_at "lk", by walk_at "lk", io, by rw [hrv]; rfl, hrl⟩ ?_ ?_
      · intro j v h₁₆ tk₁₆ oI₁₆ _ E₃ Pz hj hz6 hz7 N₁₆ hpz
        refine Classical.byContradiction fun hng => ?_
        obtain ⟨k, x, hkx', hkey'⟩ := hz6
        obtain ⟨oL₁, on₁, mz, rv', rfl, n₁₆, p1, p2, p3, io', hrv', hrl'⟩ := hz7
        refine hng ?_
        refine Classical.byContradiction fun hng => ?_
        obtain ⟨nv, tnv, hji, rfl⟩ := intPairs_get hkx'
        refine hng ?_
        obtain ⟨tk', rfl⟩ := key_of hkey'
        have hjl : j < 10 := by
          have := (List.getElem?_eq_some_iff.mp hji).1
          have := hlen i hi4
          lia
        refine r_store N₁₆ 0 rfl n₁₆ (by kernel_rfl) (by kernel_rfl) fun h₁₇ o₁₇ tk₁₇ N₁₇ n₁₇ => ?_
        let R14 : List (Addr × Obj) := [(L, o₁₇), (L + 1, cellO (some (.ref D))), (L + 1 + 1, cellO (some (.ref dp))), (L + 1 + 1 + 1, cellO (some (.ref Dh))), (Dh, oDh), (dn, on₁), (I₂, oI₁₂), (I₃, oI₁₆)]
        replace N₁₇ : Now h [] h₁₇ R14 := N₁₇
        refine Classical.byContradiction fun hng => ?_
        obtain ⟨cur, tcur, hcur, hst⟩ := store_add (rv := rv') (k := k) (c := nv) (t0 := tk₁₇) (dictOf_nodup (N₁₇.get 5 rfl) io')
        refine hng ?_
        with_reducible refine wpAny_execs_cons ?_
        with_reducible refine wpAny_Assign_Subscript ?_ (by kernel_rfl)
        with_reducible refine wpAny_BinOp ?_
        refine MethodCall_ ?_
        refine ld (N₁₇.get 0 rfl) n₁₇ (v := .ref dn) (by walk_at "lk") (by kernel_rfl) (by kernel_rfl) ?_
        refine gm_dict (dictOf_at (N₁₇.get 5 rfl) io') ?_
        with_reducible refine callWith_method1 ?_ (by kernel_rfl) (by kernel_rfl)
        with_reducible refine args_cons ?_ (by kernel_rfl)
        refine ld (N₁₇.get 0 rfl) n₁₇ (v := .str k tk') (by walk_at "lk") (by kernel_rfl) (by kernel_rfl) ?_
        with_reducible refine args_cons ?_ (by kernel_rfl)
        with_reducible refine r_int (s := s) fun t18 tk18 => ?_
        with_reducible refine args_nil ?_
        refine r_dget (dictOf_at (N₁₇.get 5 rfl) io') (ne_sys hdn1) (is_key _ _) fun tk19 => ?_
        refine Classical.byContradiction fun hng => ?_
        obtain ⟨cur, tcur, hcur, hst⟩ := store_add (rv := rv') (k := k) (c := nv) (t0 := t18) (dictOf_nodup (N₁₇.get 5 rfl) io')
        refine hng ?_
        rw [hcur]
        with_reducible refine Subscript_ ?_
        with_reducible refine Subscript_ ?_
        refine r_cell (env := eE w L) (s := s) (c := L + 1) (v := .ref D) (by kernel_rfl) (by kernel_rfl) (by kernel_rfl) (N₁₇.get 1 rfl) ?_ (by kernel_rfl)
        refine ld (N₁₇.get 0 rfl) n₁₇ (v := .str (nm i) tn) (by walk_at "lk") (by kernel_rfl) (by kernel_rfl) ?_
        with_reducible refine r_itemD (dD N₁₇).dictOf (is_key _ _) (vD hi4) (fun tk20 => ?_) (by kernel_rfl) (by intro _; kernel_rfl)
        refine ld (N₁₇.get 0 rfl) n₁₇ (v := .str k tk') (by walk_at "lk") (by kernel_rfl) (by kernel_rfl) ?_
        with_reducible refine r_itemD2 (dB N₁₇ hi4).dictOf (is_key _ _) (valueAt_of_get (dB N₁₇ hi4).nodup hkx') (fun tk21 => ?_) (by kernel_rfl)
        with_reducible refine r_add fun t22 tk22 => ?_
        refine ld (N₁₇.get 0 rfl) n₁₇ (v := .ref dn) (by walk_at "lk") (by kernel_rfl) (by kernel_rfl) ?_
        refine ld (N₁₇.get 0 rfl) n₁₇ (v := .str k tk') (by walk_at "lk") (by kernel_rfl) (by kernel_rfl) ?_
        refine r_setItem N₁₇ 5 rfl io' (is_key _ _) (by rw [intPairs_length, sizeLine_eq]; lia) fun h₂₃ on₂₃ tk₂₃ N₂₃ io₂₃ => ?_
        refine Classical.byContradiction fun hng => ?_
        obtain ⟨rv₂, hs1, hs2, hs3⟩ := hst t22
        refine hng ?_
        rw [hs1] at io₂₃
        refine wpAny_execs_nil (hpz _ _ ⟨.inl rfl, h₂₃, tk₂₃, _, rfl, ⟨o₁₇, on₂₃, _, rv₂, rfl, n₁₇, by walk_at "lk", by walk_at "lk", by walk_at "lk", io₂₃, ?_, by lia⟩, N₂₃⟩)
        rw [hs2, hrv', List.take_add_one, hji]
        have e : bk ((rvs i).take j ++ (some (k, nv, tnv)).toList) = bk ((rvs i).take j) ++ [(k, nv)] := by simp [bk]
        rw [e, addBk_snoc]
      · intro h₁₆ tk₁₆ _ hz8 N₁₆
        refine Classical.byContradiction fun hng => ?_
        obtain ⟨oL₁, on₁, mz, rv', rfl, n₁₆, p1, p2, p3, io', hrv', hrl'⟩ := hz8
        refine hng ?_
        rw [intPairs_length] at hrv' hrl'
        rw [List.take_length] at hrv'
        refine wpAny_execs_nil (hpz _ _ ⟨.inl rfl, h₁₆, tk₁₆, _, rfl, ⟨oL₁, on₁, mz, rv', rfl, n₁₆, p1, p2, io', by rw [callersOf_succ]; exact hrv', by have := hlen i hi4; lia⟩, N₁₆⟩)
    · intro h₁₂ tk₁₂ _ hz9 N₁₂
      refine Classical.byContradiction fun hng => ?_
      obtain ⟨oL', on', mx, rv, rfl, n', q1, q2, io, hrv, hrl⟩ := hz9
      refine hng ?_
      have e4 : kv0.length = 4 := by simp [kv0]
      rw [e4] at hrv
      have vH : ∀ {i : Nat}, i < 4 → ∃ t, valueAt (intPairs hv) (nm i) = some (.int (hoursOf rvs i) t) := by
        intro i hi
        have e5 : (bk hv)[i]? = some (nm i, hoursOf rvs i) := by
          rw [hbk, e4, List.getElem?_map, List.getElem?_range hi]; rfl
        unfold bk at e5
        rw [List.getElem?_map] at e5
        cases e6 : hv[i]? with
        | none => rw [e6] at e5; cases e5
        | some y =>
          rw [e6] at e5
          obtain ⟨y1, y2, y3⟩ := y
          cases e5
          refine ⟨y3, valueAt_of_get (dictOf_nodup (N₁₂.get 4 rfl) iDh) (i := i) ?_⟩
          unfold intPairs
          rw [List.getElem?_map, e6]; rfl
      with_reducible refine wpAny_execs_cons ?_
      with_reducible refine r_lcA (cl := [(S "prices", L + 1 + 1), (S "hours", L + 1 + 1 + 1)]) (by kernel_rfl) (by kernel_rfl) (by kernel_rfl) (by kernel_rfl) (by intro _; kernel_rfl) ?_
      refine r_cell (env := eE w L) (s := s) (c := L + 1) (v := .ref D) (by kernel_rfl) (by kernel_rfl) (by kernel_rfl) (N₁₂.get 1 rfl) ?_ (by kernel_rfl)
      refine r_iterD N₁₂ (ne_sys hD1) (dD N₁₂) fun h₁₃ I₄ oI₄ N₁₃ hI₄ hd₁₃ hIc₄ hne₄ => ?_
      let J9 : Nat → List (Addr × Obj) → List Value → Prop := fun i obs' items => obs' = [(L, oL'), (L + 1, cellO (some (.ref D))), (L + 1 + 1, cellO (some (.ref dp))), (L + 1 + 1 + 1, cellO (some (.ref Dh))), (Dh, oDh), (dn, on')] ∧ ∃ vs : List (Int × Tok), items = (vs.map fun p => Value.int p.1 p.2) ∧ vs.map (·.1) = (List.range i).map fun k => pr k * hoursOf rvs k
      refine lcAll J9
        (Walks.dictKeys (knd := SK w) hh' I₄ D hne₄ kv0 ep) (fun i h ⟨⟨o, e, _⟩, _⟩ => ⟨o, e⟩) hIc₄ (by kernel_rfl) (by kernel_rfl) (by intro C; kernel_rfl) (by simp [kv0]) (stays_keys fun i obs' h' _ _ hk => hD.keep fun b o e => hk b o e (by simp)) N₁₃ ⟨hI₄, hd₁₃⟩ ⟨rfl, [], rfl, rfl⟩ ?_ ?_
      · intro i v h₁₄ tk₁₄ C Dd oC₄ mC₄ oI₁₄ _ _ E₁ hi hz10 hz11 nC₄ hmC₄ N₁₄
        refine Classical.byContradiction fun hng => ?_
        obtain ⟨k, x, hkx, hkey⟩ := hz10
        obtain ⟨rfl, vs, rfl, hvs⟩ := hz11
        refine hng ?_
        obtain ⟨hi4, rfl, rfl⟩ := kvi hkx
        obtain ⟨tn, rfl⟩ := key_of hkey
        obtain ⟨tp, hp⟩ := hpr i hi4
        obtain ⟨th, hH⟩ := vH hi4
        with_reducible refine wpAny_tests_nil ?_
        simp only [if_true]
        with_reducible refine wpAny_BinOp ?_
        with_reducible refine Subscript_ ?_
        refine r_cell (s := s) (c := L + 1 + 1) (v := .ref dp) (by kernel_rfl) (by kernel_rfl) (by kernel_rfl) (N₁₄.get 2 rfl) ?_ (by kernel_rfl)
        refine r_name (s := s) (v := .str (nm i) tn) (N₁₄.get 7 rfl) nC₄ hmC₄ (by kernel_rfl) (by kernel_rfl) ?_ (by kernel_rfl)
        with_reducible refine r_itemD2 (hdp.at fun o e => old N₁₄ e) (is_key _ _) hp (fun tk15 => ?_) (by kernel_rfl)
        with_reducible refine Subscript_ ?_
        refine r_cell (s := s) (c := L + 1 + 1 + 1) (v := .ref Dh) (by kernel_rfl) (by kernel_rfl) (by kernel_rfl) (N₁₄.get 3 rfl) ?_ (by kernel_rfl)
        refine r_name (s := s) (v := .str (nm i) tn) (N₁₄.get 7 rfl) nC₄ hmC₄ (by kernel_rfl) (by kernel_rfl) ?_ (by kernel_rfl)
        refine r_itemD2 (dictOf_at (N₁₄.get 4 rfl) iDh) (is_key _ _) hH (fun tk16 => ?_) (by kernel_rfl)
        with_reducible refine r_mul (mulOk_small (hho i hi4).1 (hho i hi4).2) fun t17 tk17 => ?_
        refine ⟨h₁₄, tk17, _, rfl, ⟨rfl, vs ++ [(pr i * hoursOf rvs i, t17)], by simp, ?_⟩, N₁₄⟩
        rw [List.map_append, hvs, List.range_succ, List.map_append]; rfl
      · intro h₁₄ tk₁₄ C Dd oC₄ mC₄ _ _ hz12 nC₄ hC₄ N₁₄
        refine Classical.byContradiction fun hng => ?_
        obtain ⟨rfl, vs, rfl, hvs⟩ := hz12
        refine hng ?_
        rw [e4] at hvs
        refine compEndA (j := 0) N₁₄ hC₄ nC₄ rfl n' (by kernel_rfl) (by kernel_rfl) fun h₁₅ o₁₅ tk₁₅ N₁₅ n₁₅ => ?_
        let R15 : List (Addr × Obj) := [(L, o₁₅), (L + 1, cellO (some (.ref D))), (L + 1 + 1, cellO (some (.ref dp))), (L + 1 + 1 + 1, cellO (some (.ref Dh))), (Dh, oDh), (dn, on'), (Dd, lst (vs.map fun p => Value.int p.1 p.2))]
        replace N₁₅ : Now h [] h₁₅ R15 := N₁₅
        have r1 : up mx (S "dues") (.ref Dd) (S "dues") = some (.ref Dd) := up_self _ _ _
        have r2 : up mx (S "dues") (.ref Dd) (S "sizes") = some (.ref ds) := by walk_at "lk"
        have r3 : up mx (S "dues") (.ref Dd) (S "callers") = some (.ref dn) := by walk_at "lk"
        change NsObj o₁₅ (up mx (S "dues") (.ref Dd)) at n₁₅
        generalize up mx (S "dues") (.ref Dd) = my at n₁₅ r1 r2 r3
        have dDh : ∃ eh, h₁₅.DictAt (SK w) Dh (intPairs hv) eh := (dictOf_at (N₁₅.get 4 rfl) iDh).dictAt
        with_reducible refine x_ret ?_
        with_reducible refine r_tuple ?_
        with_reducible refine args_cons ?_ (by kernel_rfl)
        with_reducible refine r_int (s := s) fun t0 tk16 => ?_
        with_reducible refine args_cons ?_ (by kernel_rfl)
        refine r_sumValues (d := ds) (vals := sv) (ep := eps) (XN N₁₅) (by kernel_rfl) (by kernel_rfl) (by kernel_rfl) (by kernel_rfl) (by kernel_rfl) (by rfl) hh' (ne_sys hds1) N₁₅ (fun Q' hq => ?_) fun h₁₆ tk₁₆ t1 N₁₆ => ?_
        · exact ld (N₁₅.get 0 rfl) n₁₅ r2 (by kernel_rfl) (by kernel_rfl) (hq _ _ N₁₅ (hds.keep fun b o e => old N₁₅ e))
        with_reducible refine args_cons ?_ (by kernel_rfl)
        obtain ⟨eh, dh⟩ : ∃ eh, h₁₆.DictAt (SK w) Dh (intPairs hv) eh := (dictOf_at (N₁₆.get 4 rfl) iDh).dictAt
        refine r_sumValues (d := Dh) (vals := hv) (ep := eh) (XN N₁₆) (by kernel_rfl) (by kernel_rfl) (by kernel_rfl) (by kernel_rfl) (by kernel_rfl) (by rfl) hh' (ne_sys hDh1) N₁₆ (fun Q' hq => ?_) fun h₁₇ tk₁₇ t2 N₁₇ => ?_
        · exact r_cell (env := eE w L) (s := s) (c := L + 1 + 1 + 1) (v := .ref Dh) (by kernel_rfl) (by kernel_rfl) (by kernel_rfl) (N₁₆.get 3 rfl) (hq _ _ N₁₆ dh) (by kernel_rfl)
        with_reducible refine args_cons ?_ (by kernel_rfl)
        with_reducible refine r_callB (s := s) (id := "sum") (XN N₁₇) (by kernel_rfl) (by kernel_rfl) (by kernel_rfl) (by kernel_rfl) (by kernel_rfl) (by kernel_rfl) (by kernel_rfl) (by kernel_rfl) ?_ (by kernel_rfl)
        with_reducible refine args_cons ?_ (by kernel_rfl)
        refine ld (N₁₇.get 0 rfl) n₁₅ r1 (by kernel_rfl) (by kernel_rfl) ?_
        with_reducible refine args_nil ?_
        refine r_sumL (vals := vs) hh' ⟨_, N₁₇.get 6 rfl, rfl, _, rfl⟩ N₁₇ fun h₁₈ tk₁₈ t3 N₁₈ => ?_
        with_reducible refine args_cons ?_ (by kernel_rfl)
        refine ld (N₁₈.get 0 rfl) n₁₅ r3 (by kernel_rfl) (by kernel_rfl) ?_
        refine args_nil ⟨by show 5 ≤ sizeLine; rw [sizeLine_eq]; lia, ?_⟩
        have e7 : (hv.map (·.2.1)).sum = ((List.range 4).map (hoursOf rvs)).sum := by
          have : hv.map (·.2.1) = (bk hv).map (·.2) := by simp [bk]
          rw [this, hbk, e4, List.map_map]; rfl
        rw [e7, hvs]
        have N₁₉ := N₁₈.alloc { cls := .type "tuple", data := .seq #[.int 4 t0, .int (sv.map (·.2.1)).sum t1, .int ((List.range 4).map (hoursOf rvs)).sum t2, .int ((List.range 4).map fun k => pr k * hoursOf rvs k).sum t3, .ref dn] } rfl
        exact hQ _ tk₁₈ dn on' rv _ t0 t1 t2 t3 (N₁₉.sub (.cons_cons _ (.cons _ (.cons _ (.cons _ (.cons _ (.cons _ (.cons_cons _ (List.nil_sublist _)))))))))
          io hrv hdn1 (kk_size (XN N₁₈))
end
end
section
open PySem PySem.W PySem.W.X PyProof.Rows PySem.Calls PySem.Spec PyProof
open LCg (NsObj lst)
set_option maxHeartbeats 1000000
theorem slot_re_sub : Slot "re.Pattern" "sub" "re.Pattern.sub" :=
  .of (owner := "re.Pattern") (n := "sub") (by rw [typeLookup_type, builtinLookup_eq_fast]; kernel_rfl) (by decide +kernel) (by decide +kernel) (by decide +kernel)
    (by first | exact .inl (by decide +kernel) | exact .inr (by decide +kernel)) (by rw [isSubtype_type]; kernel_rfl)
theorem type_re_sub : typeOf (.builtin "re.Pattern.sub") = pure (.type "method_descriptor") := by show builtinType _ = _; rw [builtinType_eq_fast]; kernel_rfl
theorem entry_re_sub : entryFor table "re.Pattern.sub" = some Builtin.«re.Pattern.sub» := entryFor_of_tree (by kernel_rfl)
theorem entry_re_loop : entryFor table "re.Pattern.sub.loop" = some Builtin.«re.Pattern.sub.loop» := entryFor_of_tree (by kernel_rfl)
theorem plainAttrs_re : PlainAttrs "re.Pattern" :=
  ⟨⟨"object.__getattribute__", by rw [typeLookup_type, builtinLookup_eq_fast]; kernel_rfl, by decide +kernel⟩, by rw [typeLookup_type, builtinLookup_eq_fast]; kernel_rfl⟩
theorem args_re_sub (a b c : Value) : argsOk "re.Pattern.sub" ⟨[a, b, c], []⟩ := by unfold argsOk; kernel_rfl
theorem lk_str_call : typeLookup (.type "str") "__call__" = pure none := by rw [typeLookup_type, builtinLookup_eq_fast]; kernel_rfl
theorem plain_re_loop : plainId "re.Pattern.sub.loop" = true := by decide +kernel
end
section
open PySem PySem.W PySem.W.X PyProof.Rows PySem.Calls PySem.Spec PyProof PySem.Builtin PySem.Builtin.Re
open LCg (NsObj lst)
set_option maxHeartbeats 1000000
noncomputable def runTo : Nat → Sre.M → Sre.M
  | 0, m => m
  | k + 1, m => if (m.runFor 4).outcome.isSome then m.runFor 4 else runTo k (m.runFor 4)
/-- what one search tells -/
noncomputable def found (code text : Array Nat) (start : Nat) (must : Bool) : Option (Option (Nat × Nat)) :=
  let m0 := Sre.forSearch code text 0 start text.size must
  if m0.outcome.isSome then none else
  match (runTo 100 m0).outcome with
  | some .matched => some (some ((runTo 100 m0).start, (runTo 100 m0).handed))
  | some .failed => some none
  | _ => none
section
variable {M : Model} {A : Around} {E : Value → Shared → Prop} {s : Shared}
theorem re_drive {Q : Sre.M → Shared → Prop} : ∀ (k f : Nat) (m : Sre.M), (runTo k m).outcome.isSome = true → m.outcome.isSome = false → k ≤ f → Q (runTo k m) s → wpAny M A (reDrive f m) Q E s
  | 0, _, m, h, hm, _, _ => by
    have : (runTo 0 m) = m := rfl
    rw [this, hm] at h; cases h
  | k + 1, 0, _, _, _, hf, _ => by omega
  | k + 1, f + 1, m, h, hm, hf, hq => by
    show wpAny M A (if (m.runFor 4).outcome.isSome then pure (m.runFor 4) else do rule "sre.turn"; reDrive f (m.runFor 4)) Q E s
    by_cases c : (m.runFor 4).outcome.isSome = true
    · rw [if_pos c]
      have e : runTo (k + 1) m = m.runFor 4 := if_pos c
      rw [e] at hq
      exact wpAny_pure hq
    · rw [if_neg c]
      have e : runTo (k + 1) m = runTo k (m.runFor 4) := if_neg c
      rw [e] at hq h
      exact wpAny_bind (wpAny_rule (re_drive k f _ h (by simpa using c) (by omega) hq))
theorem re_rules {Q : PUnit → Shared → Prop} {p : Nat → Bool} {nm : Nat → String} (l : List Nat) (h : Q PUnit.unit s) : wpAny M A (forIn l PUnit.unit fun i _ => do
    if p i then rule (nm i)
    pure (ForInStep.yield PUnit.unit)) Q E s := by
  refine wpAny_forIn_list _ (fun _ _ s' => s' = s) _ ?_ ?_ _ _ rfl
  · rintro x rest b s' rfl
    by_cases c : p x = true
    · rw [if_pos c]; exact wpAny_bind (wpAny_rule (wpAny_pure rfl))
    · rw [if_neg c]; exact wpAny_pure rfl
  · rintro b s' rfl; exact h
theorem re_end {m : Sre.M} {Q : Option Sre.M → Shared → Prop} (h1 : m.outcome = none) {r : Option (Nat × Nat)}
    (h2 : (match (runTo 100 m).outcome with | some .matched => some (some ((runTo 100 m).start, (runTo 100 m).handed)) | some .failed => some none | _ => none) = some r)
    (hq : ∀ m' : Option Sre.M, m'.map (fun m => (m.start, m.handed)) = r → Q m' s) : wpAny M A (reRunToEnd m) Q E s := by
  unfold reRunToEnd
  have hs : (runTo 100 m).outcome.isSome = true := by
    cases e : (runTo 100 m).outcome with
    | none => rw [e] at h2; cases h2
    | some o => rfl
  refine wpAny_bind (re_drive 100 (2 ^ 64) m hs (by rw [h1]; rfl) (by omega) ?_)
  refine wpAny_bind (re_rules (p := fun i => (runTo 100 m).seen.has i) (nm := fun i => Sre.names.getD i "") _ ?_)
  cases e : (runTo 100 m).outcome with
  | none => rw [e] at hs; cases hs
  | some o =>
    rw [e] at h2
    cases o with
    | matched =>
      cases h2
      exact wpAny_pure (hq (some (runTo 100 m)) rfl)
    | failed =>
      cases h2
      exact wpAny_pure (hq none rfl)
    | stuck why => cases h2
theorem re_next {t : ReTarget} {start : Nat} {must : Bool} {Q : Option Sre.M → Shared → Prop} {r : Option (Nat × Nat)} (hg : t.groups = 0) (hl : t.lim = t.text.size) (hf : found t.code t.text start must = some r)
    (hq : ∀ m' : Option Sre.M, m'.map (fun m => (m.start, m.handed)) = r → Q m' s) : wpAny M A (reNextFound t start must) Q E s := by
  unfold reNextFound
  rw [hg, hl]
  unfold found at hf
  dsimp only at hf
  split at hf
  · cases hf
  · rename_i c
    exact re_end (by simpa using c) hf hq
/-- a compiled pattern in a heap -/
structure RePat (h : Heap) (p : Addr) (code : Array Nat) : Prop where
  ex : ∃ op oc fs ca items n, h.get? p = some op ∧ op.data = .fields fs ∧ fs.getD 2 .none = .int 0 0 ∧ fs.getD 5 .none = .ref ca ∧ fs.getD 6 .none = .int 0 0 ∧ h.get? ca = some oc ∧ oc.data = .seq items n ∧ (items.map reRawOf).map (·.toNat) = code
theorem RePat.keep {h h' : Heap} {p : Addr} {code : Array Nat} (x : RePat h p code) (hk : ∀ b o, h.get? b = some o → h'.get? b = some o) : RePat h' p code := by
  refine Classical.byContradiction fun hng => ?_
  obtain ⟨op, oc, fs, ca, items, n, a1, a2, a3, a4, a5, a6, a7, a8⟩ := x.ex
  refine hng ?_
  exact ⟨op, oc, fs, ca, items, n, hk _ _ a1, a2, a3, a4, a5, hk _ _ a6, a7, a8⟩
theorem re_whole {p : Addr} {code : Array Nat} {x : Str} {t : Tok} {Q : ReTarget → Shared → Prop} (hp : RePat s.heap p code)
    (hq : Q { pattern := .ref p, string := .str x t, code := code, text := x.cps, kind := 0, groups := 0, pos := 0, lim := x.cps.size } s) : wpAny M A (reWholeTarget (.ref p) (.str x t)) Q E s := by
  refine Classical.byContradiction fun hng => ?_
  obtain ⟨op, oc, fs, ca, items, n, a1, a2, a3, a4, a5, a6, a7, a8⟩ := hp.ex
  refine hng ?_
  unfold reWholeTarget
  refine wpAny_bind (wpAny_fieldsOf a1 a2 ?_)
  refine wpAny_bind (wpAny_of_eq (a := (x.cps, 0)) rfl ?_)
  dsimp only
  rw [a5]
  refine wpAny_bind (wpAny_of_eq (a := ()) rfl ?_)
  rw [a4]
  unfold reRawItems
  refine wpAny_bind (wpAny_bind (wpAny_seqItems a6 a7 (wpAny_pure ?_)))
  dsimp only [Option.getD_some]
  rw [a3, a8]
  exact wpAny_pure hq
theorem re_slice {x : Array Nat} {b e : Nat} {Q : Value → Shared → Prop} (hz : x.size ≤ 1000) (hq : ∀ t tk, Q (.str ⟨x.extract b e⟩ t) { s with toks := tk }) : wpAny M A (reSlice x 0 b e) Q E s := by
  show wpAny M A (mkStr ⟨x.extract b e⟩) Q E s
  refine wpAny_mkStr (hq _ _) ?_
  show (x.extract b e).size ≤ sizeLine
  rw [Array.size_extract, sizeLine_eq]; omega
end
section
variable {w : World} {A : Around} {E : Value → Shared → Prop} {s : Shared} {h : Heap} {tk : Nat} {R : Result → Shared → Prop}
noncomputable abbrev loopArgs (p l : Addr) (x rp : Str) (t v : Tok) (n done start : Nat) (must : Bool) : Args := ⟨[.ref p, .str x t, .str rp v, rawInt 0, rawInt 0, rawInt n, rawInt done, rawInt start, .bool must, .ref l, .bool false], []⟩
theorem re_push {l : Addr} {items : List Value} {k : Nat} {v : Value} {Q : Unit → Shared → Prop} (e : h.get? l = some (listObj items.toArray k)) (hz : items.length ≤ 100)
    (hq : ∀ h', Heap.SameBut l h h' → h'.get? l = some (listObj (items ++ [v]).toArray (k + 1)) → Q () (St s h' tk)) : wpAny (MM w) A (updateSeq l (·.push v)) Q E (St s h tk) := by
  refine wpAny_updateSeq (s := St s h tk) e rfl (hq _ (Heap.SameBut.update ..) ?_) (by rw [sizeLine_eq, List.size_toArray]; omega) (by rw [sizeLine_eq, Array.size_push, List.size_toArray]; omega)
  rw [Heap.get?_update_self _ e rfl]
  simp [Obj.mapSeq]
/-- a turn of the substitution's loop that finds nothing more -/
theorem re_loop_end {p l : Addr} {code : Array Nat} {x rp : Str} {t v : Tok} {n done : Nat} {texts : List (Str × Tok)} {k : Nat} (hp : RePat h p code) (hl : h.get? l = some (listObj (strValues texts).toArray k)) (hne : texts ≠ []) (hzt : texts.length ≤ 50)
    (hz : x.cps.size ≤ 1000) (hf : found code x.cps done false = some none) (hok : JoinOk (Str.mk (x.cps.extract 0 0)) (texts.map (·.1) ++ (if done < x.cps.size then [(⟨x.cps.extract done x.cps.size⟩ : Str)] else [])) = true)
    (hq : ∀ h' tk' t', Heap.SameBut l h h' → R (.ok (.ret (.str (Txt.join (Str.mk (x.cps.extract 0 0)) (texts.map (·.1) ++ (if done < x.cps.size then [(⟨x.cps.extract done x.cps.size⟩ : Str)] else []))) t'))) (St s h' tk')) :
    codeAny (MM w) A (.builtin "re.Pattern.sub.loop" (loopArgs p l x rp t v n done done false)) R (St s h tk) := by
  refine codeAny_builtin entry_re_loop ?_
  rw [Around.under_plainId plain_re_loop _]
  show wpAny (MM w) A.in1 (Builtin.«re.Pattern.sub.loop» (loopArgs p l x rp t v n done done false)) _ _ (St s h tk)
  unfold Builtin.«re.Pattern.sub.loop»
  refine wpAny_bind (re_whole hp ?_)
  show wpAny (MM w) A.in1 (reLiteralCannotBeTurned (.str rp v) >>= _) _ _ _
  refine wpAny_bind (wpAny_of_eq (a := ()) rfl ?_)
  show wpAny (MM w) A.in1 (reNextFound _ _ _ >>= _) _ _ _
  have e1 : (done : Int).toNat = done := Int.toNat_natCast done
  refine wpAny_bind (re_next (r := none) rfl rfl (by rw [e1]; exact hf) fun m' hm' => ?_)
  obtain rfl : m' = none := by cases m' with
    | none => rfl
    | some y => cases hm'
  dsimp only
  rw [e1]
  have tail : ∀ {h' : Heap} {tk' k' : Nat} {tt : List (Str × Tok)}, h'.get? l = some (listObj (strValues tt).toArray k') → tt ≠ [] → tt.map (·.1) = texts.map (·.1) ++ (if done < x.cps.size then [(⟨x.cps.extract done x.cps.size⟩ : Str)] else []) → Heap.SameBut l h h' →
      wpAny (MM w) A.in1 (do
        let joiner ← reSlice x.cps 0 0 0
        let its ← seqItems? (Value.ref l)
        if (its.getD #[]).isEmpty = true then ret joiner else do
          let text ← call (.builtin "str.join") [joiner, .ref l]
          ret text) (fun fin s' => match fin with | .done f => R (.ok f) s' | .again c' => c'.quiet = true ∧ codeAny (MM w) A c' R s') (fun e s' => R (.error e) s') (St s h' tk') := by
    intro h' tk' k' tt e ht ett hs
    refine wpAny_bind (re_slice hz fun t1 tk1 => ?_)
    refine wpAny_bind (wpAny_seqItems e rfl ?_)
    rw [if_neg (by
      dsimp only [Option.getD_some]
      cases tt with
      | nil => exact absurd rfl ht
      | cons a b => simp [strValues])]
    refine wpAny_bind (SC.join (D := l) (l := tt) (texts := tt.map (·.1)) ⟨_, e, rfl, _, rfl⟩ rfl (by rw [ett]; exact hok) fun t2 tk2 => ?_)
    rw [ett]
    exact wpAny_pure (hq h' _ t2 hs)
  by_cases c : done < x.cps.size
  · rw [if_pos c]
    refine wpAny_bind (re_slice hz fun t1 tk1 => ?_)
    refine wpAny_bind (re_push (s := s) (items := strValues texts) hl (by simp [strValues]; omega) fun h₁ hs₁ e₁ => ?_)
    refine tail (tt := texts ++ [(⟨x.cps.extract done x.cps.size⟩, t1)]) (k' := k + 1) (by
      have e : strValues (texts ++ [(⟨x.cps.extract done x.cps.size⟩, t1)]) = strValues texts ++ [.str ⟨x.cps.extract done x.cps.size⟩ t1] := by simp [strValues]
      rw [e]; exact e₁) (by simp) (by rw [if_pos c]; simp) hs₁
  · rw [if_neg c]
    exact tail (tt := texts) hl hne (by rw [if_neg c, List.append_nil]) (Heap.SameBut.refl _ _)
/-- a turn of the loop that finds a place -/
theorem re_loop_hit {p l : Addr} {code : Array Nat} {x rp : Str} {t v : Tok} {n a b : Nat} (hp : RePat h p code) (hl : h.get? l = some (listObj #[] 0))
    (hz : x.cps.size ≤ 1000) (hf : found code x.cps 0 false = some (some (a, b))) (hab : a < b)
    (hq : ∀ h' tk' t' k', Heap.SameBut l h h' → h'.get? l = some (listObj (strValues ((if 0 < a then [((⟨x.cps.extract 0 a⟩ : Str), t')] else []) ++ [(rp, v)])).toArray k') → codeAny (MM w) A (.builtin "re.Pattern.sub.loop" (loopArgs p l x rp t v (n + 1) b b false)) R (St s h' tk')) :
    codeAny (MM w) A (.builtin "re.Pattern.sub.loop" (loopArgs p l x rp t v n 0 0 false)) R (St s h tk) := by
  refine codeAny_builtin entry_re_loop ?_
  rw [Around.under_plainId plain_re_loop _]
  show wpAny (MM w) A.in1 (Builtin.«re.Pattern.sub.loop» (loopArgs p l x rp t v n 0 0 false)) _ _ (St s h tk)
  unfold Builtin.«re.Pattern.sub.loop»
  refine wpAny_bind (re_whole hp ?_)
  show wpAny (MM w) A.in1 (reLiteralCannotBeTurned (.str rp v) >>= _) _ _ _
  refine wpAny_bind (wpAny_of_eq (a := ()) rfl ?_)
  show wpAny (MM w) A.in1 (reNextFound _ _ _ >>= _) _ _ _
  refine wpAny_bind (re_next (r := some (a, b)) rfl rfl hf fun m' hm' => ?_)
  obtain ⟨m, rfl, ha, hb⟩ : ∃ m, m' = some m ∧ m.start = a ∧ m.handed = b := by
    cases m' with
    | none => cases hm'
    | some y => cases hm'; exact ⟨y, rfl, rfl, rfl⟩
  dsimp only
  rw [ha, hb]
  have hne : (b == a) = false := by simp; omega
  have tail : ∀ {h' : Heap} {tk' k' : Nat} {tt : List (Str × Tok)}, tt.length ≤ 10 → h'.get? l = some (listObj (strValues tt).toArray k') → (∀ h'' k'', Heap.SameBut l h' h'' → h''.get? l = some (listObj (strValues (tt ++ [(rp, v)])).toArray k'') → codeAny (MM w) A (.builtin "re.Pattern.sub.loop" (loopArgs p l x rp t v (n + 1) b b false)) R (St s h'' tk')) →
      wpAny (MM w) A.in1 (do
        let item ← pure (Value.str rp v)
        let _ ← updateSeq l fun x => x.push item
        again (Code.builtin "re.Pattern.sub.loop" { pos := [Value.ref p, Value.str x t, Value.str rp v, rawInt 0, rawInt 0, rawInt (n + 1), rawInt b, rawInt b, Value.bool (b == a), Value.ref l, Value.bool false] })) (fun fin s' => match fin with | .done f => R (.ok f) s' | .again c' => c'.quiet = true ∧ codeAny (MM w) A c' R s') (fun e s' => R (.error e) s') (St s h' tk') := by
    intro h' tk' k' tt htl e hk
    refine wpAny_bind (wpAny_pure ?_)
    refine wpAny_bind (re_push (s := s) (items := strValues tt) e (by simp [strValues]; omega) fun h₁ hs₁ e₁ => ?_)
    refine wpAny_pure ⟨plainId_quiet plain_re_loop _, ?_⟩
    rw [hne]
    refine hk h₁ (k' + 1) hs₁ ?_
    rw [e₁]; simp [strValues]
  by_cases c : 0 < a
  · rw [if_pos (show ((0 : Nat) : Int).toNat < a from c)]
    refine wpAny_bind (re_slice hz fun t1 tk1 => ?_)
    refine wpAny_bind (re_push (s := s) (items := []) hl (by simp) fun h₁ hs₁ e₁ => ?_)
    refine tail (tt := [(⟨x.cps.extract 0 a⟩, t1)]) (by simp) e₁ fun h'' k'' hs'' e'' => ?_
    refine hq _ _ t1 k'' (hs₁.trans hs'') ?_
    rw [if_pos c]; exact e''
  · rw [if_neg (show ¬ ((0 : Nat) : Int).toNat < a from c)]
    refine tail (tt := []) (by simp) hl fun h'' k'' hs'' e'' => ?_
    refine hq _ _ 0 k'' hs'' ?_
    rw [if_neg c]; exact e''
/-- pattern.sub(rp, x): one place is found -/
theorem re_sub {p : Addr} {code : Array Nat} {x rp y : Str} {t v : Tok} {a b : Nat} {hb' : Heap} {ch : List Addr} {obs : List (Addr × Obj)} {Q : Value → Shared → Prop} (N : Now hb' ch h obs) (hp : RePat h p code) (ht : (St s h tk).TypeIs (.ref p) "re.Pattern") (hrp : rp.cps.contains 92 = false)
    (hz : x.cps.size ≤ 1000) (hf : found code x.cps 0 false = some (some (a, b))) (hab : a < b) (hf2 : found code x.cps b false = some none)
    (hok : JoinOk (Str.mk (x.cps.extract 0 0)) ((if 0 < a then [(⟨x.cps.extract 0 a⟩ : Str)] else []) ++ [rp] ++ (if b < x.cps.size then [(⟨x.cps.extract b x.cps.size⟩ : Str)] else [])) = true)
    (hy : Txt.join (Str.mk (x.cps.extract 0 0)) ((if 0 < a then [(⟨x.cps.extract 0 a⟩ : Str)] else []) ++ [rp] ++ (if b < x.cps.size then [(⟨x.cps.extract b x.cps.size⟩ : Str)] else [])) = y)
    (hq : ∀ h' tk' t', Now hb' ch h' obs → Q (.str y t') (St s h' tk')) :
    wpAny (MM w) A (call (.builtin "re.Pattern.sub") [.ref p, .str rp v, .str x t]) Q E (St s h tk) := by
  refine wpAny_call (codeAny_call_builtin slot_re_sub.plain entry_re_sub (slot_re_sub.check _ _ _ _ _ _ _ _ ht (args_re_sub _ _ _) ?_))
  unfold Builtin.«re.Pattern.sub» reSubstitute
  show wpAny (MM w) A.in1 (reNamed "re.Pattern.sub" "sub" ["repl", "string", "count"] 2 [.str rp v, .str x t] [] >>= _) _ _ _
  refine wpAny_bind (wpAny_of_eq (a := [some (.str rp v), some (.str x t), none]) (by kernel_rfl) ?_)
  dsimp only
  refine wpAny_bind (wpAny_of_eq (a := (0 : Int)) rfl ?_)
  refine wpAny_bind (wpAny_specialOf (s := St s h tk) (typeIs_str _ rp v) lk_str_call ?_)
  dsimp only [Option.isSome_none]
  rw [if_neg Bool.false_ne_true]
  refine wpAny_bind (wpAny_of_eq (a := some rp) rfl ?_)
  refine wpAny_bind (wpAny_pure ?_)
  rw [hrp]
  rw [if_neg Bool.false_ne_true, if_pos (by rfl)]
  refine wpAny_bind (wpAny_pure ?_)
  refine wpAny_bind (wpAny_holding (re_whole hp ?_))
  rw [if_neg (by show ¬ ((0 : Int) == 1) = true; decide)]
  refine wpAny_bind (wpAny_newList (s := St s h tk) ?_ (by simp))
  have N₁ := N.allocE (listObj #[] 0) rfl
  generalize hl : h.objs.size = l at N₁
  have hlo : h.get? l = none := by rw [← hl]; exact get?_size h
  have e₁ : (h.push (listObj #[] 0)).get? l = some (listObj #[] 0) := by rw [← hl]; exact Heap.get?_push_size _ rfl
  have hp₁ : RePat (h.push (listObj #[] 0)) p code := hp.keep fun b o e => Heap.get?_push_of_some _ e
  refine wpAny_pure ⟨plainId_quiet plain_re_loop _, ?_⟩
  refine re_loop_hit (n := 0) (a := a) (b := b) (s := s) (tk := tk) (h := h.push (listObj #[] 0)) hp₁ e₁ hz hf hab fun h₂ tk₂ t₂ k₂ hs₂ e₂ => ?_
  have hp₂ : RePat h₂ p code := hp.keep fun c o e => (hs₂.2 c (fun q => by rw [q, hlo] at e; cases e)).trans (Heap.get?_push_of_some _ e)
  have em : ∀ {m : List (Str × Tok)}, ((if 0 < a then [((⟨x.cps.extract 0 a⟩ : Str), t₂)] else []) ++ m).map (·.1) = (if 0 < a then [(⟨x.cps.extract 0 a⟩ : Str)] else []) ++ m.map (·.1) := by
    intro m; split <;> rfl
  refine re_loop_end hp₂ e₂ (by simp) (by split <;> simp) hz hf2 (by rw [em]; exact hok) fun h₃ tk₃ t₃ hs₃ => ?_
  rw [em]
  have hlc : l ∉ ch := by rw [← hl]; exact N.size_ch
  have N₃ : Now hb' ch h₃ obs := N₁.forget hlc fun c o hne e => ((hs₂.trans hs₃).2 c hne).trans e
  have := hq h₃ tk₃ t₃ N₃
  rw [← hy] at this
  exact this
end
end
section
open PySem PySem.W PySem.W.X PyProof.Rows PySem.Calls PySem.Spec PyProof PySem.Builtin PySem.Builtin.Re
open LCg (NsObj lst)
set_option maxHeartbeats 1000000
noncomputable def subParts (x rp : Str) (a b : Nat) : List Str := (if 0 < a then [(⟨x.cps.extract 0 a⟩ : Str)] else []) ++ [rp] ++ (if b < x.cps.size then [(⟨x.cps.extract b x.cps.size⟩ : Str)] else [])
/-- a substitution that meets one place -/
noncomputable def subOk (code : Array Nat) (rp x y : Str) : Bool :=
  match found code x.cps 0 false with
  | some (some (a, b)) => decide (a < b) && (found code x.cps b false == some none) && JoinOk (Str.mk (x.cps.extract 0 0)) (subParts x rp a b) && (Txt.join (Str.mk (x.cps.extract 0 0)) (subParts x rp a b) == y) && decide (x.cps.size ≤ 1000) && !rp.cps.contains 92
  | _ => false
noncomputable abbrev code1 : Array Nat := #[14, 4, 0, 1, 1, 6, 1, 16, 46, 1]
noncomputable abbrev code2 : Array Nat := #[14, 9, 4, 1, 2, 16, 10, 16, 13, 0, 7, 7, 16, 13, 16, 10, 15, 18, 5, 16, 10, 15, 13, 11, 16, 13, 5, 5, 0, 16, 10, 1, 15, 2, 0, 1]
noncomputable def bQuote : List Stmt := defBody "quotedata" PR.main.body
section
variable {w : World} {A : Around} {s : Shared} {E : Value → Shared → Prop} {Q : Value → Shared → Prop} {h hb : Heap} {tk : Nat} {ch : List Addr} {obs : List (Addr × Obj)}
theorem sub_ok {p : Addr} {code : Array Nat} {x rp y : Str} {t v : Tok} (N : Now hb ch h obs) (hp : RePat h p code) (ht : (St s h tk).TypeIs (.ref p) "re.Pattern") (hok : subOk code rp x y = true)
    (hq : ∀ h' tk' t', Now hb ch h' obs → Q (.str y t') (St s h' tk')) : wpAny (MM w) A (call (.builtin "re.Pattern.sub") [.ref p, .str rp v, .str x t]) Q E (St s h tk) := by
  unfold subOk at hok
  split at hok
  · rename_i a b hf
    simp only [Bool.and_eq_true, decide_eq_true_eq, beq_iff_eq] at hok
    refine Classical.byContradiction fun hng => ?_
    obtain ⟨⟨⟨⟨⟨h1, h2⟩, h3⟩, h4⟩, h5⟩, h6⟩ := hok
    refine hng ?_
    exact re_sub N hp ht (by simpa using h6) h5 hf h1 h2 h3 h4 hq
  · cases hok
theorem pat1 (X : (KK w.params).In h) : RePat h 127 code1 := ⟨_, _, _, 126, _, _, X 127 (obAt (KK w.params) 127) (by kernel_rfl), rfl, rfl, rfl, rfl, X 126 (obAt (KK w.params) 126) (by kernel_rfl), rfl, by kernel_rfl⟩
theorem pat2 (X : (KK w.params).In h) : RePat h 132 code2 := ⟨_, _, _, 131, _, _, X 132 (obAt (KK w.params) 132) (by kernel_rfl), rfl, rfl, rfl, rfl, X 131 (obAt (KK w.params) 131) (by kernel_rfl), rfl, by kernel_rfl⟩
theorem quotedata (X : (KK w.params).In h) (hroom : A.depth < recursionLimit) {x y1 y : Str} {u : Tok} (h2 : subOk code2 (S "\r\n") x y1 = true) (h1 : subOk code1 (S "..") y1 y = true)
    (hQ : ∀ h' tk' t, Now h [] h' [] → Q (.str y t) (St s h' tk')) : wpAny (MM w) A (call (.ref 139) [.str x u]) Q E (St s h tk) := by
  with_reducible refine callF (s := St s h tk) X hroom (o := obAt (KK w.params) 139) (fd := fnAt (KK w.params) 139) (body := bQuote) (binds := [(S "data", .str x u)]) (by kernel_rfl) (by kernel_rfl) (by kernel_rfl) (by kernel_rfl) (by kernel_rfl) (by kernel_rfl) (by kernel_rfl) (by kernel_rfl) (by kernel_rfl) (by kernel_rfl) ?_
  intro h₁ oL E' N nL
  conv => arg 3; arg 1; whnf
  show wpAny _ _ _ _ _ (St s h₁ _)
  generalize h.objs.size = L at N ⊢
  have X₁ : (KK w.params).In h₁ := kk_keep X N (by simp)
  have T1 : ∀ {tkx : Nat} {hx : Heap}, (KK w.params).In hx → (St s hx tkx).TypeIs (.ref 127) "re.Pattern" := fun X' => ⟨_, X' 127 (obAt (KK w.params) 127) (by kernel_rfl), rfl⟩
  have T2 : ∀ {tkx : Nat} {hx : Heap}, (KK w.params).In hx → (St s hx tkx).TypeIs (.ref 132) "re.Pattern" := fun X' => ⟨_, X' 132 (obAt (KK w.params) 132) (by kernel_rfl), rfl⟩
  with_reducible refine x_ret ?_
  refine MethodCall_ ?_
  with_reducible refine r_global (v := .ref 127) X₁ (by kernel_rfl) (by kernel_rfl) (by kernel_rfl) (by kernel_rfl) ?_ (by kernel_rfl)
  refine getMethod_builtin (T := "re.Pattern") (T1 X₁) plainAttrs_re slot_re_sub type_re_sub (fun a e => by cases e; exact ⟨_, X₁ 127 (obAt (KK w.params) 127) (by kernel_rfl), rfl⟩) ?_
  with_reducible refine callWith_method1 ?_ (by kernel_rfl) (by kernel_rfl)
  with_reducible refine args_cons ?_ (by kernel_rfl)
  with_reducible refine r_str (s := s) fun t2 tk2 => ?_
  with_reducible refine args_cons ?_ (by kernel_rfl)
  refine MethodCall_ ?_
  with_reducible refine r_global (v := .ref 132) X₁ (by kernel_rfl) (by kernel_rfl) (by kernel_rfl) (by kernel_rfl) ?_ (by kernel_rfl)
  refine getMethod_builtin (T := "re.Pattern") (T2 X₁) plainAttrs_re slot_re_sub type_re_sub (fun a e => by cases e; exact ⟨_, X₁ 132 (obAt (KK w.params) 132) (by kernel_rfl), rfl⟩) ?_
  with_reducible refine callWith_method1 ?_ (by kernel_rfl) (by kernel_rfl)
  with_reducible refine args_cons ?_ (by kernel_rfl)
  with_reducible refine r_global (v := .str (S "\r\n") 484) X₁ (by kernel_rfl) (by kernel_rfl) (by kernel_rfl) (by kernel_rfl) ?_ (by kernel_rfl)
  with_reducible refine args_cons ?_ (by kernel_rfl)
  refine r_name (v := .str x u) (N.get 0 rfl) nL (by kernel_rfl) (by kernel_rfl) (by kernel_rfl) ?_
  with_reducible refine args_nil ?_
  refine sub_ok N (pat2 X₁) (T2 X₁) h2 fun h₂ tk₂ t₂ N₂ => ?_
  have X₂ : (KK w.params).In h₂ := kk_keep X N₂ (by simp)
  with_reducible refine args_nil ?_
  refine sub_ok N₂ (pat1 X₂) (T1 X₂) h1 fun h₃ tk₃ t₃ N₃ => ?_
  exact hQ _ _ _ (N₃.sub (List.nil_sublist _))
end
end
section
open PySem PySem.W PySem.W.X PyProof.Rows PySem.Calls PySem.Spec PyProof PySem.Builtin PySem.Builtin.Re
set_option maxHeartbeats 1000000
/-- a word: d dots, the letter c, a return and a feed -/
noncomputable def wordD (c d : Nat) : Str := ⟨(List.replicate d 46 ++ [c, 13, 10]).toArray⟩
/-- a word as it is read -/
noncomputable def wordF (c e : Nat) : Str := ⟨#[46, c, e]⟩
noncomputable def letter (c : Nat) : Str := ⟨#[c]⟩
theorem sends_fresh : ∀ c ∈ [97, 98, 99, 100], ∀ e ∈ [10, 13], (subOk code2 (S "\r\n") (wordF c e) (wordD c 1) && subOk code1 (S "..") (wordD c 1) (wordD c 2)) = true := by decide +kernel
theorem sends_more : ∀ c ∈ [97, 98, 99, 100], ∀ d ∈ [2, 3, 4, 5], (subOk code2 (S "\r\n") (wordD c d) (wordD c d) && subOk code1 (S "..") (wordD c d) (wordD c (d + 1))) = true := by decide +kernel
theorem strips_fresh : ∀ c ∈ [97, 98, 99, 100], ∀ e ∈ [10, 13], (Txt.stripChars (wordF c e) (S ".\r\n") == letter c) = true := by decide +kernel
theorem strips_more : ∀ c ∈ [97, 98, 99, 100], ∀ d ∈ [2, 3, 4, 5, 6], (Txt.stripChars (wordD c d) (S ".\r\n") == letter c) = true := by decide +kernel
theorem counts_fresh : ∀ c ∈ [97, 98, 99, 100], ∀ e ∈ [10, 13], (Txt.count (wordF c e) (S ".") == 1) = true := by decide +kernel
theorem counts_more : ∀ c ∈ [97, 98, 99, 100], ∀ d ∈ [2, 3, 4, 5, 6], (Txt.count (wordD c d) (S ".") == d) = true := by decide +kernel
end
section
open PySem PySem.W PySem.W.X PyProof.Rows PySem.Calls PySem.Spec PyProof
set_option maxHeartbeats 1000000
noncomputable def wd (e : Nat → Nat) (i d : Nat) : Str := if d = 1 then wordF (97 + i) (e i) else wordD (97 + i) d
noncomputable def nmL (i : Nat) : Str := letter (97 + i)
theorem nmL_inj {i j : Nat} (h : nmL i = nmL j) : i = j := by
  unfold nmL letter at h
  injection h with h
  have : [97 + i] = [97 + j] := by simpa using h
  simp at this; lia
theorem mem_letter {i : Nat} (hi : i < 4) : 97 + i ∈ [97, 98, 99, 100] := by
  have : i = 0 ∨ i = 1 ∨ i = 2 ∨ i = 3 := by lia
  rcases this with rfl | rfl | rfl | rfl <;> simp
section
variable {e : Nat → Nat} {i d : Nat} (hi : i < 4) (he : e i = 10 ∨ e i = 13) (h1 : 1 ≤ d)
include hi he h1
theorem mem_end : e i ∈ [10, 13] := by rcases he with h | h <;> simp [h]
theorem wd_strip (h6 : d ≤ 6) : Txt.stripChars (wd e i d) (S ".\r\n") = nmL i := by
  unfold wd
  split
  · exact eq_of_beq (strips_fresh _ (mem_letter hi) _ (mem_end hi he h1))
  · have : d ∈ [2, 3, 4, 5, 6] := by
      have : d = 2 ∨ d = 3 ∨ d = 4 ∨ d = 5 ∨ d = 6 := by lia
      rcases this with rfl | rfl | rfl | rfl | rfl <;> simp
    exact eq_of_beq (strips_more _ (mem_letter hi) _ this)
theorem wd_count (h6 : d ≤ 6) : Txt.count (wd e i d) (S ".") = d := by
  unfold wd
  split
  · rename_i q; subst q
    exact eq_of_beq (counts_fresh _ (mem_letter hi) _ (mem_end hi he h1))
  · have : d ∈ [2, 3, 4, 5, 6] := by
      have : d = 2 ∨ d = 3 ∨ d = 4 ∨ d = 5 ∨ d = 6 := by lia
      rcases this with rfl | rfl | rfl | rfl | rfl <;> simp
    exact eq_of_beq (counts_more _ (mem_letter hi) _ this)
theorem wd_send (h5 : d ≤ 5) : ∃ y1, subOk code2 (S "\r\n") (wd e i d) y1 = true ∧ subOk code1 (S "..") y1 (wd e i (d + 1)) = true := by
  have e2 : wd e i (d + 1) = wordD (97 + i) (d + 1) := if_neg (by lia)
  rw [e2]
  unfold wd
  split
  · rename_i q; subst q
    have := sends_fresh _ (mem_letter hi) _ (mem_end hi he h1)
    rw [Bool.and_eq_true] at this
    exact ⟨_, this⟩
  · have hm : d ∈ [2, 3, 4, 5] := by
      have : d = 2 ∨ d = 3 ∨ d = 4 ∨ d = 5 := by lia
      rcases this with rfl | rfl | rfl | rfl <;> simp
    have := sends_more _ (mem_letter hi) _ hm
    rw [Bool.and_eq_true] at this
    exact ⟨_, this⟩
theorem wd_len : 1 ≤ (wd e i d).length ∧ (wd e i d).length ≤ d + 3 := by
  unfold wd
  split
  · show 1 ≤ (#[46, 97 + i, e i] : Array Nat).size ∧ _ ≤ _
    simp [wordF, Str.length]
  · simp [wordD, Str.length]
end
/-- a book with places for names -/
noncomputable def addN (b : List (Nat × Int)) (k : Nat) (v : Int) : List (Nat × Int) :=
  if k ∈ b.map (·.1) then b.map fun p => if p.1 = k then (p.1, p.2 + v) else p else b ++ [(k, v)]
theorem named_mem {b : List (Nat × Int)} {k : Nat} : nmL k ∈ (named nmL b).map (·.1) ↔ k ∈ b.map (·.1) := by
  unfold named
  rw [List.map_map]
  constructor
  · intro h
    obtain ⟨p, hp, e⟩ := List.mem_map.mp h
    have := nmL_inj e
    exact List.mem_map.mpr ⟨p, hp, this⟩
  · intro h
    obtain ⟨p, hp, e⟩ := List.mem_map.mp h
    exact List.mem_map.mpr ⟨p, hp, by show nmL p.1 = nmL k; rw [e]⟩
theorem named_addN (b : List (Nat × Int)) (k : Nat) (v : Int) : named nmL (addN b k v) = addOne (named nmL b) (nmL k) v := by
  unfold addN addOne
  by_cases c : k ∈ b.map (·.1)
  · rw [if_pos c, if_pos (named_mem.mpr c)]
    unfold named
    rw [List.map_map, List.map_map]
    refine List.map_congr_left fun p _ => ?_
    by_cases q : p.1 = k
    · simp [q]
    · have : nmL p.1 ≠ nmL k := fun z => q (nmL_inj z)
      simp [q, this]
  · rw [if_neg c, if_neg (fun z => c (named_mem.mp z))]
    simp [named]
noncomputable def hourOf (b : List (Nat × Int)) : Int := (b.map (·.2)).sum
theorem addN_keys (b : List (Nat × Int)) (k : Nat) (v : Int) : (addN b k v).map (·.1) = if k ∈ b.map (·.1) then b.map (·.1) else b.map (·.1) ++ [k] := by
  unfold addN
  split
  · rw [List.map_map]
    refine List.map_congr_left fun p _ => ?_
    by_cases q : p.1 = k <;> simp [q]
  · simp
theorem addN_nodup {b : List (Nat × Int)} {k : Nat} {v : Int} (h : (b.map (·.1)).Nodup) : ((addN b k v).map (·.1)).Nodup := by
  rw [addN_keys]
  split
  · exact h
  · rename_i c
    exact List.nodup_append.mpr ⟨h, by simp, fun a ha b hb e => by simp at hb; subst hb; subst e; exact c ha⟩
theorem addN_length (b : List (Nat × Int)) (k : Nat) (v : Int) : (addN b k v).length ≤ b.length + 1 := by
  unfold addN; split
  · rw [List.length_map]; lia
  · rw [List.length_append, List.length_singleton]; lia
theorem hour_map {k : Nat} {v : Int} : ∀ {b : List (Nat × Int)}, (b.map (·.1)).Nodup → hourOf (b.map fun p => if p.1 = k then (p.1, p.2 + v) else p) = hourOf b + if k ∈ b.map (·.1) then v else 0
  | [], _ => by simp [hourOf]
  | (a, x) :: r, h => by
    rw [List.map_cons, List.nodup_cons] at h
    have ih := hour_map (k := k) (v := v) h.2
    unfold hourOf at ih ⊢
    by_cases q : a = k
    · subst q
      have hn : a ∉ r.map (·.1) := h.1
      rw [if_neg hn] at ih
      simp only [List.map_cons, List.sum_cons, if_true, ih]
      rw [if_pos (by simp)]; lia
    · simp only [List.map_cons, List.sum_cons, q, if_false, ih]
      by_cases c : k ∈ r.map (·.1)
      · rw [if_pos c, if_pos (List.mem_cons_of_mem _ c)]; lia
      · rw [if_neg c, if_neg (by simp only [List.mem_cons, not_or]; exact ⟨fun z => q z.symm, c⟩)]; lia
theorem hour_addN {b : List (Nat × Int)} {k : Nat} {v : Int} (h : (b.map (·.1)).Nodup) : hourOf (addN b k v) = hourOf b + v := by
  unfold addN
  split
  · rename_i c; rw [hour_map h, if_pos c]
  · simp [hourOf]
/-- one sending -/
noncomputable def send1 (s : Nat → Nat) (i : Nat) (x : Nat × List (Nat × Int)) : Nat × List (Nat × Int) := if x.1 ≤ s i then (x.1 + 1, addN x.2 i 1) else x
noncomputable def sendK (s : Nat → Nat) (i : Nat) : Nat → Nat × List (Nat × Int) → Nat × List (Nat × Int)
  | 0, x => x
  | k + 1, x => send1 s i (sendK s i k x)
structure RS where
  q : List (Nat × Nat)
  bk : List (Nat × Int)
  told : List (Nat × List (Nat × Int))
noncomputable def stepR (s : Nat → Nat) (m : Nat) (r : RS) : RS := match r.q with
  | [] => r
  | (i, d) :: rest => if (sendK s i m (d, r.bk)).1 ≤ s i then ⟨rest ++ [(i, (sendK s i m (d, r.bk)).1)], (sendK s i m (d, r.bk)).2, r.told⟩
      else ⟨rest, (sendK s i m (d, r.bk)).2, r.told ++ [(i, (sendK s i m (d, r.bk)).2)]⟩
noncomputable def runR (s : Nat → Nat) (m : Nat) : Nat → RS → RS
  | 0, r => r
  | k + 1, r => stepR s m (runR s m k r)
noncomputable def initR (ord : List Nat) : RS := ⟨ord.map fun i => (i, 1), [], []⟩
noncomputable def measR (s : Nat → Nat) (q : List (Nat × Nat)) : Nat := (q.map fun p => s p.1 + 1 - p.2).sum
/-- what a state in sending keeps -/
structure SendOk (s : Nat → Nat) (i d0 : Nat) (b0 : List (Nat × Int)) (x : Nat × List (Nat × Int)) : Prop where
  lo : d0 ≤ x.1
  hi : x.1 ≤ s i + 1
  nd : (x.2.map (·.1)).Nodup
  hr : hourOf x.2 = hourOf b0 + (x.1 - d0 : Nat)
  ln : x.2.length ≤ b0.length + (x.1 - d0)
theorem send1_ok {s : Nat → Nat} {i d0 : Nat} {b0 : List (Nat × Int)} {x : Nat × List (Nat × Int)} (h : SendOk s i d0 b0 x) : SendOk s i d0 b0 (send1 s i x) := by
  unfold send1
  split
  · rename_i c
    have h1 := h.lo
    have h2 := addN_length x.2 i 1
    have h3 := h.ln
    refine ⟨by dsimp only; lia, by dsimp only; lia, addN_nodup h.nd, ?_, by dsimp only; lia⟩
    dsimp only
    rw [hour_addN h.nd, h.hr]; lia
  · exact h
theorem sendK_ok {s : Nat → Nat} {i d0 : Nat} {b0 : List (Nat × Int)} (hd : d0 ≤ s i + 1) (nd : (b0.map (·.1)).Nodup) : ∀ k, SendOk s i d0 b0 (sendK s i k (d0, b0))
  | 0 => ⟨Nat.le_refl _, hd, nd, by show hourOf b0 = hourOf b0 + ((d0 - d0 : Nat) : Int); simp, Nat.le_add_right _ _⟩
  | k + 1 => send1_ok (sendK_ok hd nd k)
theorem sendK_lt {s : Nat → Nat} {i d0 : Nat} {b0 : List (Nat × Int)} (hd : d0 ≤ s i) (nd : (b0.map (·.1)).Nodup) : ∀ k, 1 ≤ k → d0 < (sendK s i k (d0, b0)).1
  | 0, h => by lia
  | k + 1, _ => by
    have h := (sendK_ok (s := s) (i := i) (Nat.le_succ_of_le hd) nd k).lo
    show d0 < (send1 s i (sendK s i k (d0, b0))).1
    unfold send1
    split
    · dsimp only; lia
    · rename_i c; lia
end
section
open PySem PySem.W PySem.W.X PyProof.Rows PySem.Calls PySem.Spec PyProof
open LCg (NsObj lst)
set_option maxHeartbeats 1000000
/-- the lexer read to its end: what stands in its places -/
structure LexSt (l : Lx) (od opl oq : Obj) (ln : Int) (items : List Value) : Prop where
  ex : ∃ m p t0 nq, Ns1Obj od m ∧ LexMap l m ln ∧ LsObj opl #[.int p t0] ∧ (l.tx.length : Int) ≤ p ∧ oq = listObj items.toArray nq
section
open PySem.Builtin.Str PySem.Builtin
theorem chAt_end {tx : Str} {p : Int} (h : (tx.length : Int) ≤ p) : chAt tx p = S "" := by
  have hs : strSliceIndices (some p) (some (p + 1)) 1 tx.length = [] := by
    unfold strSliceIndices sliceRange
    have h1 : ¬ p < 0 := by lia
    have h2 : ¬ p + 1 < 0 := by lia
    simp only [h1, h2, if_false, show (1 : Int) > 0 by decide, if_true]
    have e1 : max 0 (min p (tx.length : Int)) = tx.length := by lia
    have e2 : max 0 (min (p + 1) (tx.length : Int)) = tx.length := by lia
    rw [e1, e2]
    simp
  unfold chAt Txt.slice
  rw [hs]
  split
  · rename_i c
    simp at c
    have : tx.cps = #[] := Array.eq_empty_of_size_eq_zero c.symm
    cases tx; simp at this; subst this; rfl
  · rfl
theorem chAt_at {tx : Str} {p : Nat} {c : Nat} (h : tx.cps[p]? = some c) : chAt tx p = ⟨#[c]⟩ := by
  have hlt : p < tx.length := (Array.getElem?_eq_some_iff.mp h).1
  have hs : strSliceIndices (some (p : Int)) (some ((p : Int) + 1)) 1 tx.length = [p] := by
    unfold strSliceIndices sliceRange
    have h1 : ¬ (p : Int) < 0 := by lia
    have h2 : ¬ (p : Int) + 1 < 0 := by lia
    simp only [h1, h2, if_false, show (1 : Int) > 0 by decide, if_true]
    have e1 : max 0 (min (p : Int) (tx.length : Int)) = p := by lia
    have e2 : max 0 (min ((p : Int) + 1) (tx.length : Int)) = p + 1 := by lia
    rw [e1, e2]
    rw [if_pos (by lia : (p : Int) < p + 1)]
    have e3 : ((p : Int) + 1 - p + 1 - 1) / 1 = 1 := by lia
    rw [e3]
    have e4 : ((p : Int) + 1 * ((0 : Nat) : Int)).toNat = p := by lia
    show [((p : Int) + 1 * ((0 : Nat) : Int)).toNat] = [p]
    rw [e4]
  unfold chAt Txt.slice
  rw [hs]
  split
  · rename_i q
    simp at q
    obtain ⟨a⟩ := tx
    simp [Str.length] at q hlt
    have : a = #[c] := by
      have hp : p = 0 := by lia
      subst hp
      apply Array.ext
      · simp; lia
      · intro i h1 h2
        have : i = 0 := by simp at h2; lia
        subst this
        have := (Array.getElem?_eq_some_iff.mp h).2
        simpa using this
    rw [this]
  · simp [h]
end
theorem Now.lex {hb h h' : Heap} {ch : List Addr} {r : List (Addr × Obj)} {L a b c : Addr} {oL oa ob oc oa' ob' oc' : Obj} (N : Now hb ch h ((L, oL) :: (a, oa) :: (b, ob) :: (c, oc) :: r)) (D : Now h [a, b, c] h' [(a, oa'), (b, ob'), (c, oc')]) :
    Now hb ch h' ((L, oL) :: (a, oa') :: (b, ob') :: (c, oc') :: r) := by
  have nd := N.nd
  simp only [List.map_cons, List.nodup_cons, List.mem_cons, not_or] at nd
  refine Classical.byContradiction fun hng => ?_
  obtain ⟨⟨n1, n2, n3, n4⟩, ⟨n5, n6, n7⟩, ⟨n8, n9⟩, n10, n11⟩ := nd
  refine hng ?_
  refine N.step D (by simp) ?_ ?_
  · intro p hp
    rcases List.mem_cons.mp hp with rfl | hp
    · exact .inr ⟨.head _, by simp [n1, n2, n3]⟩
    rcases List.mem_cons.mp hp with rfl | hp
    · exact .inl (by simp)
    rcases List.mem_cons.mp hp with rfl | hp
    · exact .inl (by simp)
    rcases List.mem_cons.mp hp with rfl | hp
    · exact .inl (by simp)
    · have hm : p.1 ∈ r.map (·.1) := List.mem_map_of_mem hp
      refine .inr ⟨by simp [hp], ?_⟩
      simp only [List.mem_cons, List.not_mem_nil, or_false, not_or]
      exact ⟨fun e => n7 (e ▸ hm), fun e => n9 (e ▸ hm), fun e => n10 (e ▸ hm)⟩
  · exact N.nd
section
variable {w : World} {A : Around} {s : Shared} {E : Value → Shared → Prop} {Q : Value → Shared → Prop} {h : Heap} {tk : Nat}
theorem wide_q {a b c : Addr} {oa ob oc' : Obj} {h' : Heap} (nd : [a, b, c].Nodup) (ea : h.get? a = some oa) (eb : h.get? b = some ob) (D : Now h [c] h' [(c, oc')]) : Now h [a, b, c] h' [(a, oa), (b, ob), (c, oc')] := by
  have n := nd
  simp only [List.nodup_cons, List.mem_cons, List.not_mem_nil, or_false, not_or] at n
  refine ⟨fun p hp => ?_, ?_, fun p hp => .inl ?_, fun x o e hx => D.keep x o e (fun q => hx (by simp at q; simp [q])), fun x hx => ?_⟩
  · rcases List.mem_cons.mp hp with rfl | hp
    · exact D.keep _ _ ea (by simp [n.1.2])
    rcases List.mem_cons.mp hp with rfl | hp
    · exact D.keep _ _ eb (by simp [n.2.1])
    · exact D.at_ p hp
  · simpa using nd
  · have : p.1 ∈ [(a, oa), (b, ob), (c, oc')].map (·.1) := List.mem_map_of_mem hp
    simpa using this
  · rcases List.mem_cons.mp hx with rfl | hx
    · exact ⟨_, D.keep _ _ ea (by simp [n.1.2])⟩
    rcases List.mem_cons.mp hx with rfl | hx
    · exact ⟨_, D.keep _ _ eb (by simp [n.2.1])⟩
    · exact D.live x hx
theorem wide_dp {a b c : Addr} {oa' ob' oc : Obj} {h' : Heap} (nd : [a, b, c].Nodup) (ec : h.get? c = some oc) (D : Now h [a, b] h' [(a, oa'), (b, ob')]) : Now h [a, b, c] h' [(a, oa'), (b, ob'), (c, oc)] := by
  have n := nd
  simp only [List.nodup_cons, List.mem_cons, List.not_mem_nil, or_false, not_or] at n
  refine ⟨fun p hp => ?_, ?_, fun p hp => .inl ?_, fun x o e hx => D.keep x o e (fun q => hx (by simp at q; rcases q with q | q <;> simp [q])), fun x hx => ?_⟩
  · have : p = (c, oc) ∨ p ∈ [(a, oa'), (b, ob')] := by
      simp at hp ⊢
      rcases hp with h | h | h <;> simp [h]
    rcases this with rfl | hp
    · exact D.keep _ _ ec (by simp; exact ⟨fun e => n.1.2 e.symm, fun e => n.2.1 e.symm⟩)
    · exact D.at_ p hp
  · simpa using nd
  · have : p.1 ∈ [(a, oa'), (b, ob'), (c, oc)].map (·.1) := List.mem_map_of_mem hp
    simpa using this
  · by_cases q : x = c
    · subst q; exact ⟨_, D.keep _ _ ec (by simp; exact ⟨fun e => n.1.2 e.symm, fun e => n.2.1 e.symm⟩)⟩
    · exact D.live x (by simp [q] at hx; simpa using hx)
theorem run_push (X : (KK w.params).In h) (hroom : A.depth < recursionLimit) (hh : A.handled = none) {l : Lx} (k : l.Ok) (I : l.In h) {od opl oq : Obj} {ln : Int} {items : List Value} {v : Value} (hdl : h.get? l.dl = some od) (hpl : h.get? l.pl = some opl) (hq : h.get? l.q = some oq)
    (st : LexSt l od opl oq ln items) (hz : items.length ≤ 900)
    (hQ : ∀ h' tk' oq', Now h [l.dl, l.pl, l.q] h' [(l.dl, od), (l.pl, opl), (l.q, oq')] → LexSt l od opl oq' ln (items ++ [v]) → Q .none (St s h' tk')) :
    wpAny (MM w) A (call (.ref 66) [.ref l.lx, v]) Q E (St s h tk) := by
  refine Classical.byContradiction fun hng => ?_
  obtain ⟨m, p, t0, nq, io, lm, hol, hp, rfl⟩ := st.ex
  refine hng ?_
  have hqd : l.q ≠ l.dl := by have := k.nd; simp at this; exact fun e => this.1.2 e.symm
  have hqx : l.q ≠ l.lx := fun e => k.off l.lx (by simp) (by rw [← e]; simp)
  refine push_token X hroom hh (I.at 0 rfl) hdl io.ns lm.pb hq (k.hi _ (by simp)) (by rw [List.size_toArray]; lia) hqd hqx fun h' tk' D => ?_
  have e : listObj (items.toArray.push v) (nq + 1) = listObj (items ++ [v]).toArray (nq + 1) := by simp
  rw [e] at D
  exact hQ h' tk' _ (wide_q k.nd hdl hpl D) ⟨m, p, t0, nq + 1, io, lm, hol, hp, rfl⟩
theorem run_get (X : (KK w.params).In h) (hroom : A.depth + 2 < recursionLimit) (hh : A.handled = none) {l : Lx} (k : l.Ok) (I : l.In h) {od opl oq : Obj} {ln : Int} {items : List Value} (hdl : h.get? l.dl = some od) (hpl : h.get? l.pl = some opl) (hq : h.get? l.q = some oq)
    (st : LexSt l od opl oq ln items) (hz : items.length ≤ 900)
    (hQ : ∀ h' tk' v od' opl' oq', Now h [l.dl, l.pl, l.q] h' [(l.dl, od'), (l.pl, opl'), (l.q, oq')] → LexSt l od' opl' oq' ln items.tail → (items = [] → ∃ t, v = .str (S "") t) → (∀ x r, items = x :: r → v = x) → Q v (St s h' tk')) :
    wpAny (MM w) A (call (.ref 59) [.ref l.lx]) Q E (St s h tk) := by
  refine Classical.byContradiction fun hng => ?_
  obtain ⟨m, p, t0, nq, io, lm, hol, hp, rfl⟩ := st.ex
  refine hng ?_
  cases items with
  | nil =>
    refine get_end hh X hroom k I hdl io lm hpl hol hq ⟨rfl, nq, rfl⟩ (chAt_end hp) fun h' tk' t2 t3 od' opl' m' D io' lm' hol' => ?_
    exact hQ h' tk' _ od' opl' _ (wide_dp k.nd hq D) ⟨m', p + 1, t2, nq, io', lm', hol', by lia, rfl⟩ (fun _ => ⟨t3, rfl⟩) (fun x r e => nomatch e)
  | cons x r =>
    refine get_pop (A := A) (rest := r) X (by lia) (I.at 0 rfl) hdl io.ns lm.pb hq (by simp at hz; lia) fun h' tk' n' D => ?_
    exact hQ h' tk' _ od opl _ (wide_q k.nd hdl hpl D) ⟨m, p, t0, n', io, lm, hol, hp, rfl⟩ (fun e => nomatch e) (fun y r' e => by cases e; rfl)
end
end
section
open PySem PySem.W PySem.W.X PyProof.Rows PySem.Calls PySem.Spec PyProof
open LCg (NsObj lst)
set_option maxHeartbeats 1000000
noncomputable def whileB : Stmt → List Stmt | .While _ body _ _ => body | _ => []
noncomputable def whileN (b : List Stmt) : List Stmt := match b with | [x] => whileB x | _ => []
noncomputable def bRun : List Stmt := defBody "_law_run" PR.main.body
noncomputable def bodyW : List Stmt := whileN (nthS bRun 5)
noncomputable def bodyK : List Stmt := forN (nthS bodyW 1)
noncomputable abbrev eR (w : World) (L : Addr) : Env := callEnv (fnAt (KK w.params) 165) L 165
section
variable {w : World} {A : Around} {s : Shared} {E : Value → Shared → Prop} {Q : Value → Shared → Prop} {h : Heap} {tk : Nat} {env : Env} {hb : Heap} {ch : List Addr} {obs : List (Addr × Obj)}
theorem r_dict1 {kx vx : Expr} {pos : Pos} {k : Str} {tkk : Tok} {v : Int} (hshape : (evalEachOpt [some kx] env).zip ((evalEach [vx] env).map fun v => do let x ← v; standAt pos; pure x) = [(eval kx env, do let x ← eval vx env; standAt pos; pure x)].map fun p => (some p.1, p.2))
    (N : Now hb ch h obs)
    (hk : ∀ (h' : Heap) tk' (Q' : Value → Shared → Prop), (∀ b o, h.get? b = some o → h'.get? b = some o) → Q' (.str k tkk) (St s h' tk') → wpAny (MM w) A (eval kx env) Q' E (St s h' tk'))
    (hv : ∀ (h' : Heap) tk' (Q' : Value → Shared → Prop), (∀ b o, h.get? b = some o → h'.get? b = some o) → (∀ t tk'', Q' (.int v t) (St s h' tk'')) → wpAny (MM w) A (eval vx env) Q' E (St s h' tk'))
    (hq : ∀ h' tk' d od t, Now hb ch h' (obs ++ [(d, od)]) → od.IsDictOf (SK w) (intPairs [(k, v, t)]) → d = h.objs.size → Q (.ref d) (St s h' tk')) :
    wpAny (MM w) A (eval (.Dict [some kx] [vx] pos) env) Q E (St s h tk) := by
  refine wpAny_Dict_pairs (knd := SK w) (s := St s h tk) hshape (by simp) (by simp) ?_
  have N₁ := N.allocE { cls := .type "dict", data := .dict #[] } rfl
  have up : ∀ b o, h.get? b = some o → (h.push { cls := .type "dict", data := .dict #[] }).get? b = some o := fun b o e => Heap.get?_push_of_some _ e
  refine evalPairs_cons (hk _ _ _ up (wpAny_bind (hv _ _ _ up fun t tk'' => wpAny_bind (wpAny_standAt (wpAny_pure (evalPairs_nil ?_))))))
  refine ⟨[(k, .int v t)], ⟨is_key _ _, rfl, trivial⟩, Heap.DictOf.new (knd := SK w) h, fun h' hd hs => ?_⟩
  obtain ⟨od, eo, io⟩ := Heap.dictOf_iff.mp hd
  have N₂ := N₁.front.same 0 rfl hs eo
  refine hq h' _ _ od t (N₂.perm (List.perm_append_singleton _ _)) ?_ rfl
  have e : merged [] [(k, Value.int v t)] = intPairs [(k, v, t)] := by
    simp only [merged, List.foldl]
    rw [stored_new (by simp)]
    rfl
  rw [← e]; exact io
/-- word.count('.') <= sizes[name] -/
theorem cmp_word {L ds : Addr} {oL : Obj} {mx : Str → Option Value} {e sz : Nat → Nat} {i d : Nat} {tw tn : Tok} {sv : List (Str × Int × Tok)} {cpos apos p1 p2 p3 p4 p5 p6 : Pos} {ts : Tok} {K : Bool → Shared → Prop} {k1 : Nat} {pl : Sem Bool}
    (hM : eval (.Call (.Attribute (.Name (S "word") p1) (S "count") apos) [.Constant (.str (S ".")) k1 p2] [] cpos) (eR w L) = (do
      let ov ← eval (.Name (S "word") p1) (eR w L)
      standAt apos.atName
      let (f, first) ← holding [ov] (getMethod ov (S "count") pl)
      callWith cpos f first (backTo cpos (starEach [.Constant (.str (S ".")) k1 p2] (eR w L))) []))
    (hL : h.get? L = some oL) (nL : NsObj oL mx) (q1 : mx (S "word") = some (.str (wd e i d) tw)) (q2 : mx (S "sizes") = some (.ref ds)) (q3 : mx (S "name") = some (.str (nmL i) tn))
    (hds : h.DictOf (SK w) ds (intPairs sv)) (hsz : valueAt (intPairs sv) (nmL i) = some (.int (sz i : Nat) ts)) (hi : i < 4) (he : e i = 10 ∨ e i = 13) (h1 : 1 ≤ d) (h6 : d ≤ 6)
    (hq : ∀ tk', K (decide (d ≤ sz i)) (St s h tk')) :
    wpAny (MM w) A (isTrue (.Compare (.Call (.Attribute (.Name (S "word") p1) (S "count") apos) [.Constant (.str (S ".")) k1 p2] [] cpos) [.LtE] [.Subscript (.Name (S "sizes") p3) (.Name (S "name") p4) p5] p6) (eR w L) (eval (.Compare (.Call (.Attribute (.Name (S "word") p1) (S "count") apos) [.Constant (.str (S ".")) k1 p2] [] cpos) [.LtE] [.Subscript (.Name (S "sizes") p3) (.Name (S "name") p4) p5] p6) (eR w L))) K E (St s h tk) := by
  have ld : ∀ {x : Str} {v : Value} {px : Pos} {Q' E' : Value → Shared → Prop} {tkx : Nat}, mx x = some v → (eR w L).kindOf x = some .local → (x == ("__debug__" : Str)) = false → Q' v (St s h tkx) →
      wpAny (MM w) A (eval (.Name x px) (eR w L)) Q' E' (St s h tkx) := fun hv hk hd q => r_name (env := eR w L) hL nL hv (by kernel_rfl) hk q hd
  refine wpAny_isTrue_Compare1 ?_ rfl
  refine MethodCall_ ?_ hM
  with_reducible refine ld q1 (by kernel_rfl) (by kernel_rfl) ?_
  with_reducible refine GM.count ?_
  with_reducible refine callWith_method1 ?_ rfl rfl
  with_reducible refine args_cons ?_ rfl
  with_reducible refine r_str (s := s) fun t1 tk1 => ?_
  refine args_nil ?_
  refine SC.count ?_
  have ec : Txt.count (wd e i d) (Str.ofString ".") = d := wd_count hi he h1 h6
  rw [ec]
  with_reducible refine Subscript_ ?_
  with_reducible refine ld q2 (by kernel_rfl) (by kernel_rfl) ?_
  with_reducible refine ld q3 (by kernel_rfl) (by kernel_rfl) ?_
  refine r_itemD2 (s := s) hds (is_key _ _) hsz (fun tk2 => ?_) rfl
  with_reducible refine PyProof.Rows.le_int ?_
  with_reducible refine wpAny_truthy_bool ?_
  have e1 : decide ((d : Int) ≤ (sz i : Nat)) = decide (d ≤ sz i) := by
    by_cases c : d ≤ sz i
    · rw [decide_eq_true c, decide_eq_true (by lia)]
    · rw [decide_eq_false c, decide_eq_false (by lia)]
  rw [e1]
  exact hq _
/-- one turn of the inner loop -/
theorem body_k {Q : Flow → Shared → Prop} {L ds bd eb : Addr} {oL : Obj} {mx : Str → Option Value} {e sz : Nat → Nat} {i d : Nat} {tw tn ts : Tok} {sv rvb : List (Str × Int × Tok)} {R : List (Addr × Obj)}
    (hh : (A.deeper (eR w L)).handled = none) (hroom : A.depth + 2 < recursionLimit) (X : (KK w.params).In h) (XN : ∀ (h' : Heap) obs, Now hb ch h' obs → (KK w.params).In h') (N : Now hb ch h ((L, oL) :: R)) (nL : NsObj oL mx)
    (q1 : mx (S "word") = some (.str (wd e i d) tw)) (q2 : mx (S "sizes") = some (.ref ds)) (q3 : mx (S "name") = some (.str (nmL i) tn)) (q4 : mx (S "book") = some (.ref bd))
    (hds : ∀ (h' : Heap) obs, Now hb ch h' obs → h'.DictOf (SK w) ds (intPairs sv)) (hsz : valueAt (intPairs sv) (nmL i) = some (.int (sz i : Nat) ts)) (hbk : ∀ (h' : Heap) oL, Now hb ch h' ((L, oL) :: R) → h'.DictAt (SK w) bd (intPairs rvb) eb) (hb1 : 183 ≤ bd) (hbl : rvb.length ≤ 50)
    (hi : i < 4) (he : e i = 10 ∨ e i = 13) (h1 : 1 ≤ d) (h6 : d ≤ 6) (hs5 : sz i ≤ 5)
    (yes : d ≤ sz i → ∀ h' tk' oL' mx' bd' ob' rv' tw', Now hb ch h' ((L, oL') :: (R ++ [(bd', ob')])) → NsObj oL' mx' → mx' (S "word") = some (.str (wd e i (d + 1)) tw') → mx' (S "book") = some (.ref bd') → (∀ x, (x == S "word") = false → (x == S "book") = false → mx' x = mx x) →
      ob'.IsDictOf (SK w) (intPairs rv') → bk rv' = addOne (bk rvb) (nmL i) 1 → 183 ≤ bd' → Q .next (St s h' tk'))
    (no : sz i < d → ∀ tk', Q .next (St s h tk')) :
    wpAny (MM w) (A.deeper (eR w L)) (execs bodyK (eR w L)) Q E (St s h tk) := by
  have ld : ∀ {x : Str} {v : Value} {px : Pos} {Q' E' : Value → Shared → Prop} {hx : Heap} {tkx : Nat} {oLx : Obj} {mx : Str → Option Value}, hx.get? L = some oLx → NsObj oLx mx → mx x = some v → (eR w L).kindOf x = some .local → (x == ("__debug__" : Str)) = false → Q' v (St s hx tkx) →
      wpAny (MM w) (A.deeper (eR w L)) (eval (.Name x px) (eR w L)) Q' E' (St s hx tkx) := fun e nl hv hk hd q => r_name (env := eR w L) e nl hv (by kernel_rfl) hk q hd
  have g := N.get 0 rfl
  conv => arg 3; arg 1; whnf
  with_reducible refine wpAny_execs_cons ?_
  with_reducible refine wpAny_If ?_
  refine cmp_word (A := A.deeper (eR w L)) (s := s) (e := e) (sz := sz) (sv := sv) (ts := ts) rfl g nL q1 q2 q3 (hds _ _ N) hsz hi he h1 h6 fun tk₁ => ?_
  by_cases c : d ≤ sz i
  · rw [decide_eq_true c, if_pos rfl]
    obtain ⟨y1, hy2, hy1⟩ := wd_send hi he h1 (by lia : d ≤ 5)
    with_reducible refine x_assign ?_ (by kernel_rfl)
    with_reducible refine r_callD (s := s) (f := 139) (o := obAt (KK w.params) 139) (fd := fnAt (KK w.params) 139) X (by kernel_rfl) (by kernel_rfl) (by kernel_rfl) (by kernel_rfl) (by kernel_rfl) (by kernel_rfl) (by kernel_rfl) ?_ (by kernel_rfl)
    with_reducible refine args_cons ?_ (by kernel_rfl)
    with_reducible refine ld g nL q1 (by kernel_rfl) (by kernel_rfl) ?_
    refine args_nil ⟨X _ _ (by kernel_rfl), ?_⟩
    refine quotedata X (by show A.depth + 1 < _; lia) hy2 hy1 fun h₂ tk₂ t₂ D₂ => ?_
    have N₂ := N.pure D₂
    rw [List.nil_append] at N₂
    refine r_store N₂ 0 rfl nL (by kernel_rfl) (by kernel_rfl) fun h₃ o₃ tk₃ N₃ n₃ => ?_
    replace N₃ : Now hb ch h₃ ((L, o₃) :: R) := N₃
    have X₃ := XN _ _ N₃
    with_reducible refine x_assign ?_ (by kernel_rfl)
    with_reducible refine r_callD (s := s) (f := 115) (o := obAt (KK w.params) 115) (fd := fnAt (KK w.params) 115) X₃ (by kernel_rfl) (by kernel_rfl) (by kernel_rfl) (by kernel_rfl) (by kernel_rfl) (by kernel_rfl) (by kernel_rfl) ?_ (by kernel_rfl)
    with_reducible refine args_cons ?_ (by kernel_rfl)
    with_reducible refine ld (N₃.get 0 rfl) n₃ (v := .ref bd) (by walk_at "lk") (by kernel_rfl) (by kernel_rfl) ?_
    with_reducible refine args_cons ?_ (by kernel_rfl)
    refine r_dict1 (s := s) (k := nmL i) (tkk := tn) (v := 1) (by rfl) N₃ (fun h' tk' Q' g' hq => ?_) (fun h' tk' Q' g' hq => r_int (s := s) fun t tk'' => hq t tk'') fun h₄ tk₄ d₄ od₄ t₄ N₄ i₄ e₄ => ?_
    · exact ld (g' _ _ (N₃.get 0 rfl)) n₃ (v := .str (nmL i) tn) (by walk_at "lk") (by kernel_rfl) (by kernel_rfl) hq
    have X₄ := XN _ _ N₄
    refine args_nil ⟨X₄ _ _ (by kernel_rfl), ?_⟩
    have hd4 : 183 ≤ d₄ := by rw [e₄]; exact kk_size X₃
    obtain ⟨e4, hd₄⟩ := (dictOf_at (N₄.get (R.length + 1) (by show (((L, o₃) :: R) ++ [(d₄, od₄)])[((L, o₃) :: R).length]? = _; rw [get_app0]; rfl)) i₄).dictAt
    refine add_callers X₄ (by show A.depth + 1 < _; lia) hh (hbk _ _ N₄.drop) hd₄ hb1 hd4 (by simp; lia) fun h₅ tk₅ dn on rv D₅ io hrv hdn => ?_
    have N₅ := N₄.pureE D₅
    have N₆ : Now hb ch h₅ (((L, o₃) :: R) ++ [(dn, on)]) := N₅.sub (by
      rw [List.append_assoc]
      exact List.Sublist.append (List.Sublist.refl _) (.cons _ (List.Sublist.refl _)))
    refine r_store N₆ 0 rfl n₃ (by kernel_rfl) (by kernel_rfl) fun h₇ o₇ tk₇ N₇ n₇ => ?_
    refine wpAny_execs_nil (wpAny_execs_nil ?_)
    refine yes c h₇ tk₇ o₇ _ dn on rv _ N₇ n₇ (by walk_at "lk") (by walk_at "lk") (fun x e1 e2 => ?_) io ?_ hdn
    · exact (up_ne e2).trans (up_ne e1)
    · rw [hrv]; rfl
  · rw [decide_eq_false c, if_neg (by decide)]
    exact wpAny_execs_nil (wpAny_execs_nil (no (by lia) _))
end
end
section
open PySem PySem.W PySem.W.X PyProof.Rows PySem.Calls PySem.Spec PyProof
open LCg (NsObj lst)
set_option maxHeartbeats 1000000
set_option genInjectivity false
set_option genSizeOfSpec false
theorem isDictOf_at {w : World} {o : Obj} {kvs : List (Str × Value)} (x : o.IsDictOf (SK w) kvs) : ∃ ep, ∀ (h : Heap) a, h.get? a = some o → h.DictAt (SK w) a kvs ep :=
  let ⟨es, ep, r⟩ := x; ⟨ep, fun _ _ e => ⟨o, es, e, r⟩⟩
inductive All2 {α β : Type} (R : α → β → Prop) : List α → List β → Prop
  | nil : All2 R [] []
  | cons {a b l m} : R a b → All2 R l m → All2 R (a :: l) (b :: m)
theorem All2.imp {α β : Type} {R R' : α → β → Prop} (f : ∀ a b, R a b → R' a b) {l : List α} {m : List β} (h : All2 R l m) : All2 R' l m := by
  induction h with
  | nil => exact .nil
  | cons x _ ih => exact .cons (f _ _ x) ih
theorem All2.snoc {α β : Type} {R : α → β → Prop} {l : List α} {m : List β} {a : α} {b : β} (h : All2 R l m) (x : R a b) : All2 R (l ++ [a]) (m ++ [b]) := by
  induction h with
  | nil => exact .cons x .nil
  | cons y _ ih => exact .cons y ih
theorem All2.length {α β : Type} {R : α → β → Prop} {l : List α} {m : List β} (h : All2 R l m) : l.length = m.length := by
  induction h with
  | nil => rfl
  | cons _ _ ih => simp [ih]
theorem All2.right {α β : Type} {R : α → β → Prop} {l : List α} {m : List β} (h : All2 R l m) : ∀ b ∈ m, ∃ a ∈ l, R a b := by
  induction h with
  | nil => intro b hb; cases hb
  | cons x _ ih =>
    intro b hb
    rcases List.mem_cons.mp hb with rfl | hb
    · exact ⟨_, .head _, x⟩
    · obtain ⟨a, ha, r⟩ := ih b hb; exact ⟨a, .tail _ ha, r⟩
/-- an object that stays -/
noncomputable def Imm (H : Heap) (mu : List Addr) (a : Addr) (o : Obj) : Prop := H.get? a = some o ∧ a ∉ mu ∧ 183 ≤ a
theorem Imm.keep {H H' : Heap} {mu : List Addr} {a : Addr} {o : Obj} {obs : List (Addr × Obj)} (x : Imm H mu a o) (N : Now H mu H' obs) : Imm H' mu a o := ⟨N.keep _ _ x.1 x.2.1, x.2⟩
structure TRec where
  i : Nat
  tup : Addr
  bd : Addr
  ob : Obj
  rv : List (Str × Int × Tok)
  tw : Tok
noncomputable def TOk (w : World) (H : Heap) (mu : List Addr) (sz : Nat → Nat) (b : Nat × List (Nat × Int)) (t : TRec) : Prop :=
  t.i = b.1 ∧ Imm H mu t.tup { cls := .type "tuple", data := .seq #[.str (wordD (97 + t.i) (sz t.i + 1)) t.tw, .ref t.bd] } ∧ Imm H mu t.bd t.ob ∧ t.ob.IsDictOf (SK w) (intPairs t.rv) ∧ bk t.rv = named nmL b.2
theorem TOk.keep {w : World} {H H' : Heap} {mu : List Addr} {sz : Nat → Nat} {b : Nat × List (Nat × Int)} {t : TRec} {obs : List (Addr × Obj)} (x : TOk w H mu sz b t) (N : Now H mu H' obs) : TOk w H' mu sz b t := ⟨x.1, x.2.1.keep N, x.2.2.1.keep N, x.2.2.2⟩
noncomputable def toldKv (tl : List TRec) : List (Str × Value) := tl.map fun t => (nmL t.i, Value.ref t.tup)
noncomputable def entS (sz : Nat → Nat) (told : List (Nat × List (Nat × Int))) : Int := (told.map fun b => (sz b.1 : Int)).sum
noncomputable def entH (told : List (Nat × List (Nat × Int))) : Int := (told.map fun b => hourOf b.2).sum
noncomputable def entD (pr : Nat → Int) (told : List (Nat × List (Nat × Int))) : Int := (told.map fun b => pr b.1 * hourOf b.2).sum
noncomputable def entC (told : List (Nat × List (Nat × Int))) : List (Str × Int) := told.foldl (fun c b => addBk c (named nmL b.2)) []
noncomputable abbrev entO (n s h d : Int) (t0 t1 t2 t3 : Tok) (ec : Addr) : Obj := { cls := .type "tuple", data := .seq #[.int n t0, .int s t1, .int h t2, .int d t3, .ref ec] }
/-- the objects of a run -/
structure RD where
  oL : Obj
  mx : Str → Option Value
  od : Obj
  opl : Obj
  oq : Obj
  ot : Obj
  bd : Addr
  ob : Obj
  rvb : List (Str × Int × Tok)
  ed : Addr
  ec : Addr
  oc : Obj
  rve : List (Str × Int × Tok)
  tl : List TRec
  t0 : Tok
  t1 : Tok
  t2 : Tok
  t3 : Tok
/-- what is fixed in a run -/
structure RF where
  l : Lx
  ln : Int
  L : Addr
  td : Addr
  ds : Addr
  dp : Addr
  ods : Obj
  odp : Obj
  sv : List (Str × Int × Tok)
  pv : List (Str × Int × Tok)
  m : Nat
  tm : Tok
  sz : Nat → Nat
  e : Nat → Nat
  pr : Nat → Int
noncomputable abbrev RF.mu (f : RF) : List Addr := [f.L, f.l.dl, f.l.pl, f.l.q, f.td]
structure RF.Ok (w : World) (f : RF) : Prop where
  k : f.l.Ok
  off : ∀ p ∈ f.l.fixed, p.1 ∉ f.mu
  nd : f.mu.Nodup
  hi : ∀ a ∈ f.mu, Lo a
  ids : f.ods.IsDictOf (SK w) (intPairs f.sv)
  idp : f.odp.IsDictOf (SK w) (intPairs f.pv)
  hsz : ∀ i, i < 4 → ∃ t, valueAt (intPairs f.sv) (nmL i) = some (.int (f.sz i : Nat) t)
  hpr : ∀ i, i < 4 → ∃ t, valueAt (intPairs f.pv) (nmL i) = some (.int (f.pr i) t)
  s5 : ∀ i, i < 4 → 1 ≤ f.sz i ∧ f.sz i ≤ 5
  he : ∀ i, i < 4 → f.e i = 10 ∨ f.e i = 13
  m1 : 1 ≤ f.m
  m5 : f.m ≤ 5
structure RunAt (w : World) (f : RF) (r : RS) (items : List Value) (H : Heap) (d : RD) : Prop where
  X : (KK w.params).In H
  eL : H.get? f.L = some d.oL
  nL : NsObj d.oL d.mx
  lin : f.l.In H
  edl : H.get? f.l.dl = some d.od
  epl : H.get? f.l.pl = some d.opl
  eq : H.get? f.l.q = some d.oq
  lex : LexSt f.l d.od d.opl d.oq f.ln items
  etd : H.get? f.td = some d.ot
  itd : d.ot.IsDictOf (SK w) (toldKv d.tl)
  told : All2 (TOk w H f.mu f.sz) r.told d.tl
  ebd : Imm H f.mu d.bd d.ob
  ibd : d.ob.IsDictOf (SK w) (intPairs d.rvb)
  bbd : bk d.rvb = named nmL r.bk
  eed : Imm H f.mu d.ed (entO r.told.length (entS f.sz r.told) (entH r.told) (entD f.pr r.told) d.t0 d.t1 d.t2 d.t3 d.ec)
  eec : Imm H f.mu d.ec d.oc
  iec : d.oc.IsDictOf (SK w) (intPairs d.rve)
  bec : bk d.rve = entC r.told
  eds : Imm H f.mu f.ds f.ods
  edp : Imm H f.mu f.dp f.odp
  q1 : d.mx (S "lexer") = some (.ref f.l.lx)
  q2 : d.mx (S "sizes") = some (.ref f.ds)
  q3 : d.mx (S "prices") = some (.ref f.dp)
  q4 : d.mx (S "most") = some (.int f.m f.tm)
  q5 : d.mx (S "book") = some (.ref d.bd)
  q6 : d.mx (S "told") = some (.ref f.td)
  q7 : d.mx (S "entry") = some (.ref d.ed)
noncomputable def vals (e : Nat → Nat) (q : List (Nat × Nat)) (items : List Value) : Prop := All2 (fun p v => ∃ t, v = Value.str (wd e p.1 p.2) t) q items
/-- the word at hand -/
noncomputable def WordAt (e : Nat → Nat) (q : List (Nat × Nat)) (items : List Value) (mx : Str → Option Value) : Prop := match q with
  | [] => items = [] ∧ ∃ t, mx (S "word") = some (.str (S "") t)
  | p :: rest => (∃ t, mx (S "word") = some (.str (wd e p.1 p.2) t)) ∧ vals e rest items
structure WFR (s : Nat → Nat) (r : RS) : Prop where
  qi : ∀ p ∈ r.q, p.1 < 4 ∧ 1 ≤ p.2 ∧ p.2 ≤ s p.1
  nd : (r.q.map (·.1) ++ r.told.map (·.1)).Nodup
  ti : ∀ p ∈ r.told, p.1 < 4
  bnd : (r.bk.map (·.1)).Nodup
  h0 : 0 ≤ hourOf r.bk
  hr : hourOf r.bk + (measR s r.q : Nat) ≤ 20
  bl : r.bk.length + measR s r.q ≤ 20
  tl : ∀ p ∈ r.told, p.2.length ≤ 20
  ln : r.q.length + r.told.length = 4
theorem measR_append (s : Nat → Nat) (a b : List (Nat × Nat)) : measR s (a ++ b) = measR s a + measR s b := by simp [measR]
theorem WFR.step {s : Nat → Nat} {r : RS} {m i d : Nat} {rest : List (Nat × Nat)} (W : WFR s r) (hm : 1 ≤ m) (hq : r.q = (i, d) :: rest) : WFR s (stepR s m r) ∧ measR s (stepR s m r).q < measR s r.q := by
  have hi := W.qi (i, d) (by rw [hq]; exact .head _)
  dsimp only at hi
  have ok := sendK_ok (s := s) (i := i) (d0 := d) (b0 := r.bk) (by lia) W.bnd m
  have lt := sendK_lt (s := s) (i := i) (d0 := d) (b0 := r.bk) hi.2.2 W.bnd m hm
  have nd := W.nd
  rw [hq] at nd
  simp only [List.map_cons, List.cons_append, List.nodup_cons, List.mem_append, not_or] at nd
  have me : measR s r.q = (s i + 1 - d) + measR s rest := by rw [hq]; simp [measR]
  have hr := W.hr
  have bl := W.bl
  rw [me] at hr bl ⊢
  have ol := ok.lo; have oh := ok.hi; have on := ok.nd; have oo := ok.hr; have oln := ok.ln
  have h0 := W.h0
  have est : stepR s m r = if (sendK s i m (d, r.bk)).1 ≤ s i then ⟨rest ++ [(i, (sendK s i m (d, r.bk)).1)], (sendK s i m (d, r.bk)).2, r.told⟩ else ⟨rest, (sendK s i m (d, r.bk)).2, r.told ++ [(i, (sendK s i m (d, r.bk)).2)]⟩ := by
    unfold stepR; rw [hq]
  rw [est]
  have ln := W.ln
  rw [hq, List.length_cons] at ln
  generalize sendK s i m (d, r.bk) = x at ol oh on oo oln lt ⊢
  split
  · rename_i c
    have me2 : measR s (rest ++ [(i, x.1)]) = measR s rest + (s i + 1 - x.1) := by rw [measR_append]; simp [measR]
    refine ⟨⟨?_, ?_, W.ti, on, ?_, ?_, ?_, W.tl, by simp; lia⟩, ?_⟩
    · intro p hp
      rcases List.mem_append.mp hp with hp | hp
      · exact W.qi p (by rw [hq]; exact .tail _ hp)
      · rcases List.mem_singleton.mp hp with rfl; exact ⟨hi.1, by dsimp only; lia, c⟩
    · simp only [List.map_append, List.map_cons, List.map_nil, List.append_assoc]
      rw [List.nodup_append] at nd ⊢
      refine Classical.byContradiction fun hng => ?_
      obtain ⟨⟨n1, n2⟩, n3, n4, n5⟩ := nd
      refine hng ?_
      refine ⟨n3, ?_, ?_⟩
      · simp only [List.cons_append, List.nil_append, List.nodup_cons]; exact ⟨n2, n4⟩
      · intro a ha b hb e
        simp only [List.cons_append, List.nil_append, List.mem_cons] at hb
        rcases hb with rfl | hb
        · subst e; exact n1 ha
        · exact n5 a ha b hb e
    · dsimp only; lia
    · dsimp only; rw [me2]; lia
    · dsimp only; rw [me2]; lia
    · dsimp only; rw [me2]; lia
  · rename_i c
    refine ⟨⟨fun p hp => W.qi p (by rw [hq]; exact .tail _ hp), ?_, ?_, on, ?_, ?_, ?_, ?_, by simp; lia⟩, ?_⟩
    · simp only [List.map_append, List.map_cons, List.map_nil]
      rw [← List.append_assoc]
      refine List.nodup_append.mpr ⟨nd.2, by simp, ?_⟩
      intro a ha b hb e
      have : b = i := by simpa using hb
      subst this; subst e
      rcases List.mem_append.mp ha with z | z
      · exact nd.1.1 z
      · exact nd.1.2 z
    · intro p hp
      rcases List.mem_append.mp hp with hp | hp
      · exact W.ti p hp
      · rcases List.mem_singleton.mp hp with rfl; exact hi.1
    · dsimp only; lia
    · dsimp only; lia
    · dsimp only; lia
    · intro p hp
      rcases List.mem_append.mp hp with hp | hp
      · exact W.tl p hp
      · rcases List.mem_singleton.mp hp with rfl; dsimp only; lia
    · dsimp only; lia
theorem entS_snoc (sz : Nat → Nat) (told : List (Nat × List (Nat × Int))) (b : Nat × List (Nat × Int)) : entS sz (told ++ [b]) = sz b.1 + entS sz told := by simp [entS]; lia
theorem entH_snoc (told : List (Nat × List (Nat × Int))) (b : Nat × List (Nat × Int)) : entH (told ++ [b]) = hourOf b.2 + entH told := by simp [entH]; lia
theorem entD_snoc (pr : Nat → Int) (told : List (Nat × List (Nat × Int))) (b : Nat × List (Nat × Int)) : entD pr (told ++ [b]) = pr b.1 * hourOf b.2 + entD pr told := by simp [entD]; lia
theorem entC_snoc (told : List (Nat × List (Nat × Int))) (b : Nat × List (Nat × Int)) : entC (told ++ [b]) = addBk (entC told) (named nmL b.2) := by simp [entC]
theorem entC_len {told : List (Nat × List (Nat × Int))} : (∀ p ∈ told, p.2.length ≤ 20) → ∀ c : List (Str × Int), (told.foldl (fun c b => addBk c (named nmL b.2)) c).length ≤ c.length + 20 * told.length := by
  induction told with
  | nil => intro _ c; simp
  | cons b r ih =>
    intro h c
    have h1 := ih (fun p hp => h p (.tail _ hp)) (addBk c (named nmL b.2))
    have h2 := addBk_length (named nmL b.2) c
    have h3 := h b (.head _)
    have h4 : (named nmL b.2).length = b.2.length := by simp [named]
    rw [List.foldl_cons, List.length_cons]; lia
theorem entC_length {told : List (Nat × List (Nat × Int))} (h : ∀ p ∈ told, p.2.length ≤ 20) : (entC told).length ≤ 20 * told.length := by
  have := entC_len h []
  simpa [entC] using this
end
section
open PySem PySem.W PySem.W.X PyProof.Rows PySem.Calls PySem.Spec PyProof
open LCg (NsObj lst)
set_option maxHeartbeats 1000000
/-- the book of a turn: as it stood, or new -/
noncomputable def BookAt (H : Heap) (mu : List Addr) (bd : Addr) (ob : Obj) (x : List (Addr × Obj)) : Prop := (x = [] ∧ Imm H mu bd ob) ∨ (x = [(bd, ob)] ∧ 183 ≤ bd)
theorem BookAt.get {H h' : Heap} {mu : List Addr} {bd : Addr} {ob : Obj} {x obs : List (Addr × Obj)} (b : BookAt H mu bd ob x) (N : Now H mu h' obs) (hs : ∀ p ∈ x, p ∈ obs) : h'.get? bd = some ob := by
  rcases b with ⟨_, c⟩ | ⟨rfl, _⟩
  · exact N.keep _ _ c.1 c.2.1
  · exact N.at_ (bd, ob) (hs _ (by simp))
theorem BookAt.hi {H : Heap} {mu : List Addr} {bd : Addr} {ob : Obj} {x : List (Addr × Obj)} (b : BookAt H mu bd ob x) : 183 ≤ bd := by
  rcases b with ⟨_, c⟩ | ⟨_, c⟩
  · exact c.2.2
  · exact c
theorem word_at {e : Nat → Nat} {q : List (Nat × Nat)} {items : List Value} {v : Value} {m : Str → Option Value} (h : vals e q items) (h0 : items = [] → ∃ t, v = .str (S "") t) (h1 : ∀ x r, items = x :: r → v = x) : WordAt e q items.tail (up m (S "word") v) := by
  cases h with
  | nil =>
    obtain ⟨t, rfl⟩ := h0 rfl
    exact ⟨rfl, t, up_self _ _ _⟩
  | cons x r =>
    obtain ⟨t, rfl⟩ := x
    rw [h1 _ _ rfl]
    exact ⟨⟨t, up_self _ _ _⟩, r⟩
theorem measR_len {s : Nat → Nat} : ∀ {q : List (Nat × Nat)}, (∀ p ∈ q, p.2 ≤ s p.1) → q.length ≤ measR s q
  | [], _ => Nat.zero_le _
  | p :: r, h => by
    have ih := measR_len fun x hx => h x (.tail _ hx)
    have := h p (.head _)
    have e : measR s (p :: r) = (s p.1 + 1 - p.2) + measR s r := by simp [measR]
    rw [e, List.length_cons]; lia
section
variable {w : World} {A : Around} {s : Shared} {E : Value → Shared → Prop} {tk : Nat}
/-- word = lexer.get_token() -/
theorem tail_w {Q : Flow → Shared → Prop} {f : RF} (ok : f.Ok w) (hh : (A.deeper (eR w f.L)).handled = none) (hroom : A.depth + 4 < recursionLimit) {H h : Heap} {oL od opl oq : Obj} {mx : Str → Option Value} {R : List (Addr × Obj)} {items : List Value}
    (X : (KK w.params).In h) (N : Now H f.mu h ((f.L, oL) :: (f.l.dl, od) :: (f.l.pl, opl) :: (f.l.q, oq) :: R)) (lin : f.l.In h) (nL : NsObj oL mx) (q1 : mx (S "lexer") = some (.ref f.l.lx)) (st : LexSt f.l od opl oq f.ln items) (hz : items.length ≤ 900)
    (hQ : ∀ h' tk' oL' od' opl' oq' v, Now H f.mu h' ((f.L, oL') :: (f.l.dl, od') :: (f.l.pl, opl') :: (f.l.q, oq') :: R) → NsObj oL' (up mx (S "word") v) → LexSt f.l od' opl' oq' f.ln items.tail → (items = [] → ∃ t, v = .str (S "") t) → (∀ x r, items = x :: r → v = x) → Q .next (St s h' tk')) :
    wpAny (MM w) (A.deeper (eR w f.L)) (execs (nthS bodyW 3) (eR w f.L)) Q E (St s h tk) := by
  refine Classical.byContradiction fun hng => ?_
  obtain ⟨m, p, t0, nq, io, lm, _, _, _⟩ := st.ex
  refine hng ?_
  conv => arg 3; arg 1; whnf
  with_reducible refine x_assign ?_ (by kernel_rfl)
  refine MethodCall_ ?_
  refine r_name (env := eR w f.L) (s := s) (N.get 0 rfl) nL q1 (by kernel_rfl) (by kernel_rfl) ?_ (by kernel_rfl)
  refine r_method (f := 59) X (lin.at 0 rfl) (N.get 1 rfl) io.ns (by kernel_rfl) (by kernel_rfl) (by kernel_rfl) (by kernel_rfl) (method_none lm (by kernel_rfl)) ?_
  refine callWith_meth0 (o := obAt (KK w.params) 59) (fd := fnAt (KK w.params) 59) (by kernel_rfl) (X 59 _ (by kernel_rfl)) ?_
  refine run_get X (by show A.depth + 1 + 2 < _; lia) hh ok.k lin (N.get 1 rfl) (N.get 2 rfl) (N.get 3 rfl) st hz fun h' tk' v od' opl' oq' D st' hv0 hv1 => ?_
  refine r_store (s := s) (N.lex D) 0 rfl nL (by kernel_rfl) (by kernel_rfl) fun h₂ o₂ tk₂ N₂ n₂ => ?_
  exact wpAny_execs_nil (hQ h₂ tk₂ o₂ od' opl' oq' v N₂ n₂ st' hv0 hv1)
theorem body_w {Q : Flow → Shared → Prop} {f : RF} (ok : f.Ok w) (hh : (A.deeper (eR w f.L)).handled = none) (hroom : A.depth + 4 < recursionLimit) {r : RS} {items : List Value} {H : Heap} {d : RD} {i dd : Nat} {rest : List (Nat × Nat)}
    (hq : r.q = (i, dd) :: rest) (W : WFR f.sz r) (R : RunAt w f r items H d) (Wd : WordAt f.e r.q items d.mx)
    (hQ : ∀ H' tk' d' items', RunAt w f (stepR f.sz f.m r) items' H' d' → WordAt f.e (stepR f.sz f.m r).q items' d'.mx → Now H f.mu H' [] → Q .next (St s H' tk')) :
    wpAny (MM w) (A.deeper (eR w f.L)) (execs bodyW (eR w f.L)) Q E (St s H tk) := by
  rw [hq] at Wd
  obtain ⟨⟨tw, q0⟩, hvals⟩ := Wd
  dsimp only at q0
  have hqi := W.qi (i, dd) (by rw [hq]; exact .head _)
  dsimp only at hqi
  obtain ⟨hi, h1, hds1⟩ := hqi
  have s5 := ok.s5 i hi
  have he := ok.he i hi
  obtain ⟨ts, hsz⟩ := ok.hsz i hi
  obtain ⟨tp, hpr⟩ := ok.hpr i hi
  have N₀ : Now H f.mu H [(f.L, d.oL), (f.l.dl, d.od), (f.l.pl, d.opl), (f.l.q, d.oq), (f.td, d.ot)] := Now.start (obs := [(f.L, d.oL), (f.l.dl, d.od), (f.l.pl, d.opl), (f.l.q, d.oq), (f.td, d.ot)]) (fun p hp => by
    simp only [List.mem_cons, List.not_mem_nil, or_false] at hp
    rcases hp with rfl | rfl | rfl | rfl | rfl
    · exact R.eL
    · exact R.edl
    · exact R.epl
    · exact R.eq
    · exact R.etd) ok.nd
  have XN : ∀ (h' : Heap) obs, Now H f.mu h' obs → (KK w.params).In h' := fun h' obs N' => kk_keep2 R.X N' fun a ha => .inr (ok.hi a ha _)
  have dS : ∀ (h' : Heap) obs, Now H f.mu h' obs → h'.DictOf (SK w) f.ds (intPairs f.sv) := fun h' obs N' => dictOf_at (R.eds.keep N').1 ok.ids
  have dP : ∀ (h' : Heap) obs, Now H f.mu h' obs → h'.DictOf (SK w) f.dp (intPairs f.pv) := fun h' obs N' => dictOf_at (R.edp.keep N').1 ok.idp
  have lin : ∀ (h' : Heap) obs, Now H f.mu h' obs → f.l.In h' := fun h' obs N' p hp => N'.keep _ _ (R.lin p hp) (ok.off p hp)
  have ld : ∀ {x : Str} {v : Value} {px : Pos} {Q' E' : Value → Shared → Prop} {hx : Heap} {tkx : Nat} {oLx : Obj} {mx : Str → Option Value}, hx.get? f.L = some oLx → NsObj oLx mx → mx x = some v → (eR w f.L).kindOf x = some .local → (x == ("__debug__" : Str)) = false → Q' v (St s hx tkx) →
      wpAny (MM w) (A.deeper (eR w f.L)) (eval (.Name x px) (eR w f.L)) Q' E' (St s hx tkx) := fun e nl hv hk hd q => r_name (env := eR w f.L) e nl hv (by kernel_rfl) hk q hd
  have nL := R.nL
  have q1 := R.q1; have q2 := R.q2; have q3 := R.q3; have q4 := R.q4; have q5 := R.q5; have q6 := R.q6; have q7 := R.q7
  conv => arg 3; arg 1; whnf
  with_reducible refine x_assign ?_ (by kernel_rfl)
  refine MethodCall_ ?_
  with_reducible refine ld (N₀.get 0 rfl) nL q0 (by kernel_rfl) (by kernel_rfl) ?_
  with_reducible refine GM.strip ?_
  with_reducible refine callWith_method1 ?_ (by kernel_rfl) (by kernel_rfl)
  with_reducible refine args_cons ?_ (by kernel_rfl)
  with_reducible refine r_str (s := s) fun t1 tk1 => ?_
  with_reducible refine args_nil ?_
  refine SC.stripChars (fun t2 tk2 => ?_) (by have := wd_len (e := f.e) hi he h1; rw [sizeLine_eq]; lia)
  have es : Txt.stripChars (wd f.e i dd) (Str.ofString ".\r\n") = nmL i := wd_strip hi he h1 (by lia)
  rw [es]
  refine r_store (s := s) N₀ 0 rfl nL (by kernel_rfl) (by kernel_rfl) fun h₁ o₁ tk₁ N₁ n₁ => ?_
  let R32 : List (Addr × Obj) := [(f.L, o₁), (f.l.dl, d.od), (f.l.pl, d.opl), (f.l.q, d.oq), (f.td, d.ot)]
  replace N₁ : Now H f.mu h₁ R32 := N₁
  change NsObj o₁ (up d.mx (S "name") (.str (nmL i) t2)) at n₁
  have g0 : up d.mx (S "name") (.str (nmL i) t2) (S "word") = some (.str (wd f.e i dd) tw) := by walk_at "lk"
  have g1 : up d.mx (S "name") (.str (nmL i) t2) (S "lexer") = some (.ref f.l.lx) := by walk_at "lk"
  have g2 : up d.mx (S "name") (.str (nmL i) t2) (S "sizes") = some (.ref f.ds) := by walk_at "lk"
  have g3 : up d.mx (S "name") (.str (nmL i) t2) (S "prices") = some (.ref f.dp) := by walk_at "lk"
  have g4 : up d.mx (S "name") (.str (nmL i) t2) (S "most") = some (.int f.m f.tm) := by walk_at "lk"
  have g5 : up d.mx (S "name") (.str (nmL i) t2) (S "book") = some (.ref d.bd) := by walk_at "lk"
  have g6 : up d.mx (S "name") (.str (nmL i) t2) (S "told") = some (.ref f.td) := by walk_at "lk"
  have g7 : up d.mx (S "name") (.str (nmL i) t2) (S "entry") = some (.ref d.ed) := by walk_at "lk"
  have g8 : up d.mx (S "name") (.str (nmL i) t2) (S "name") = some (.str (nmL i) t2) := up_self _ _ _
  generalize up d.mx (S "name") (.str (nmL i) t2) = m1 at n₁ g0 g1 g2 g3 g4 g5 g6 g7 g8
  clear nL q0 q1 q2 q3 q4 q5 q6 q7 es
  with_reducible refine wpAny_execs_cons ?_
  with_reducible refine wpAny_For ?_ (by intro _; kernel_rfl)
  have X₁ := XN _ _ N₁
  refine r_range (s := s) (n := f.m) X₁ (by kernel_rfl) (by kernel_rfl) (by kernel_rfl) (by kernel_rfl) N₁ (by have := ok.m5; lia) (by kernel_rfl) (fun Q' hq => ld (N₁.get 0 rfl) n₁ g4 (by kernel_rfl) (by kernel_rfl) (hq _ _)) fun h₂ tk₂ I oI N₂ hI hIc => ?_
  have bk0 : r.bk.length ≤ 20 := by have := W.bl; lia
  refine r_forW (s := s) (fun j obs' => ∃ oL mx bd ob rvb tw x, obs' = (f.L, oL) :: ([(f.l.dl, d.od), (f.l.pl, d.opl), (f.l.q, d.oq), (f.td, d.ot)] ++ x) ∧ NsObj oL mx ∧ BookAt H f.mu bd ob x ∧ ob.IsDictOf (SK w) (intPairs rvb) ∧ bk rvb = named nmL (sendK f.sz i j (dd, r.bk)).2 ∧
      mx (S "word") = some (.str (wd f.e i (sendK f.sz i j (dd, r.bk)).1) tw) ∧ mx (S "book") = some (.ref bd) ∧ (∀ x, (x == S "word") = false → (x == S "book") = false → (x == S "k") = false → mx x = m1 x))
    (walks_range hh f.m) (fun i h e => ⟨_, e⟩) hIc stays_range N₂ (by simpa using hI) ⟨o₁, m1, d.bd, d.ob, d.rvb, tw, [], rfl, n₁, .inl ⟨rfl, R.ebd⟩, R.ibd, R.bbd, g0, g5, fun _ _ _ _ => rfl⟩ ?_ ?_
  · intro j v h₃ tk₃ oI₃ _ E₁ hj hz1 hz2 N₃
    refine Classical.byContradiction fun hng => ?_
    obtain ⟨tv, rfl⟩ := hz1
    obtain ⟨oL₃, m3, bd₃, ob₃, rv₃, tw₃, x₃, rfl, n₃, hb₃, ib₃, bb₃, p1, p2, p3⟩ := hz2
    refine hng ?_
    have so := sendK_ok (s := f.sz) (i := i) (d0 := dd) (b0 := r.bk) (by lia) W.bnd j
    have so1 := so.lo; have so2 := so.hi; have so3 := so.ln
    have sk : sendK f.sz i (j + 1) (dd, r.bk) = send1 f.sz i (sendK f.sz i j (dd, r.bk)) := rfl
    rw [sk]
    generalize sendK f.sz i j (dd, r.bk) = xs at so1 so2 so3 bb₃ p1 ⊢
    refine r_store N₃ 0 rfl n₃ (by kernel_rfl) (by kernel_rfl) fun h₄ o₄ tk₄ N₄ n₄ => ?_
    let R33 : List (Addr × Obj) := (f.L, o₄) :: (([(f.l.dl, d.od), (f.l.pl, d.opl), (f.l.q, d.oq), (f.td, d.ot)] ++ x₃) ++ [(I, oI₃)])
    replace N₄ : Now H f.mu h₄ R33 := N₄
    change NsObj o₄ (up m3 (S "k") (.int j tv)) at n₄
    have c0 : up m3 (S "k") (.int j tv) (S "word") = some (.str (wd f.e i xs.1) tw₃) := by walk_at "lk"
    have c1 : up m3 (S "k") (.int j tv) (S "sizes") = some (.ref f.ds) := by rw [up_ne (by kernel_rfl), p3 _ (by kernel_rfl) (by kernel_rfl) (by kernel_rfl)]; exact g2
    have c2 : up m3 (S "k") (.int j tv) (S "name") = some (.str (nmL i) t2) := by rw [up_ne (by kernel_rfl), p3 _ (by kernel_rfl) (by kernel_rfl) (by kernel_rfl)]; exact g8
    have c3 : up m3 (S "k") (.int j tv) (S "book") = some (.ref bd₃) := by walk_at "lk"
    have c4 : ∀ x, (x == S "word") = false → (x == S "book") = false → (x == S "k") = false → up m3 (S "k") (.int j tv) x = m1 x := fun x e1 e2 e3 => (up_ne e3).trans (p3 x e1 e2 e3)
    generalize up m3 (S "k") (.int j tv) = m4 at n₄ c0 c1 c2 c3 c4
    obtain ⟨eb, hat⟩ := isDictOf_at ib₃
    have hl₃ : rv₃.length ≤ 50 := by
      have e1 : rv₃.length = (bk rv₃).length := by simp [bk]
      rw [e1, bb₃]
      unfold named
      rw [List.length_map]; lia
    refine wpAny_mono (body_k (A := A) (s := s) (E := E₁) (Q := fun fl s₃ => (fl = .next ∨ fl = .cont) ∧ _) (sz := f.sz) (e := f.e) (sv := f.sv) (ts := ts) (eb := eb) hh (by lia) (XN _ _ N₄) XN N₄ n₄ c0 c1 c2 c3 dS hsz (fun h' oL N' => hat _ _ (hb₃.get N' fun p hp => by simp [hp])) hb₃.hi hl₃ hi he (by lia) (by lia) s5.2 ?_ ?_) (fun fl s₃ h => h) (fun _ _ e => e)
    · intro c h₅ tk₅ oL₅ m5 bd₅ ob₅ rv₅ tw₅ N₅ n₅ a1 a2 a3 i₅ b₅ h5
      have es : send1 f.sz i xs = (xs.1 + 1, addN xs.2 i 1) := if_pos c
      rw [es]
      refine ⟨.inl rfl, h₅, tk₅, (f.L, oL₅) :: ([(f.l.dl, d.od), (f.l.pl, d.opl), (f.l.q, d.oq), (f.td, d.ot)] ++ [(bd₅, ob₅)]), rfl, ⟨oL₅, m5, bd₅, ob₅, rv₅, tw₅, [(bd₅, ob₅)], rfl, n₅, .inr ⟨rfl, h5⟩, i₅, ?_, a1, a2, fun x e1 e2 e3 => (a3 x e1 e2).trans (c4 x e1 e2 e3)⟩, ?_⟩
      · rw [b₅, bb₃, named_addN]
      · have N₆ := N₅.sub (obs' := (f.L, oL₅) :: (([(f.l.dl, d.od), (f.l.pl, d.opl), (f.l.q, d.oq), (f.td, d.ot)] ++ [(I, oI₃)]) ++ [(bd₅, ob₅)])) (by
          with_reducible refine .cons_cons _ (List.Sublist.append ?_ (List.Sublist.refl _))
          exact List.Sublist.append (List.sublist_append_left _ _) (List.Sublist.refl _))
        exact N₆.perm (by
          refine .cons _ (.cons _ (.cons _ (.cons _ (.cons _ ?_))))
          exact List.Perm.swap _ _ _)
    · intro c tk₅
      have es : send1 f.sz i xs = xs := if_neg (by lia)
      rw [es]
      exact ⟨.inl rfl, h₄, tk₅, (f.L, o₄) :: ([(f.l.dl, d.od), (f.l.pl, d.opl), (f.l.q, d.oq), (f.td, d.ot)] ++ x₃), rfl, ⟨o₄, m4, bd₃, ob₃, rv₃, tw₃, x₃, rfl, n₄, hb₃, ib₃, bb₃, c0, c3, c4⟩, N₄⟩
  · intro h₃ tk₃ _ hz3 N₃
    refine Classical.byContradiction fun hng => ?_
    obtain ⟨oL₃, m3, bd₃, ob₃, rv₃, tw₃, x₃, rfl, n₃, hb₃, ib₃, bb₃, p1, p2, p3⟩ := hz3
    refine hng ?_
    have so := sendK_ok (s := f.sz) (i := i) (d0 := dd) (b0 := r.bk) (by lia) W.bnd f.m
    have so1 := so.lo; have so2 := so.hi; have so3 := so.ln; have so4 := so.hr
    have est : stepR f.sz f.m r = if (sendK f.sz i f.m (dd, r.bk)).1 ≤ f.sz i then ⟨rest ++ [(i, (sendK f.sz i f.m (dd, r.bk)).1)], (sendK f.sz i f.m (dd, r.bk)).2, r.told⟩ else ⟨rest, (sendK f.sz i f.m (dd, r.bk)).2, r.told ++ [(i, (sendK f.sz i f.m (dd, r.bk)).2)]⟩ := by
      unfold stepR; rw [hq]
    have hW := (W.step ok.m1 hq).1
    rw [est] at hQ hW
    generalize sendK f.sz i f.m (dd, r.bk) = xs at so1 so2 so3 so4 bb₃ p1 hQ hW
    replace N₃ : Now H f.mu h₃ ((f.L, oL₃) :: (f.l.dl, d.od) :: (f.l.pl, d.opl) :: (f.l.q, d.oq) :: (f.td, d.ot) :: x₃) := N₃
    have X₃ := XN _ _ N₃
    have c1 : m3 (S "lexer") = some (.ref f.l.lx) := by rw [p3 _ (by kernel_rfl) (by kernel_rfl) (by kernel_rfl)]; exact g1
    have c2 : m3 (S "sizes") = some (.ref f.ds) := by rw [p3 _ (by kernel_rfl) (by kernel_rfl) (by kernel_rfl)]; exact g2
    have c3 : m3 (S "prices") = some (.ref f.dp) := by rw [p3 _ (by kernel_rfl) (by kernel_rfl) (by kernel_rfl)]; exact g3
    have c4 : m3 (S "most") = some (.int f.m f.tm) := by rw [p3 _ (by kernel_rfl) (by kernel_rfl) (by kernel_rfl)]; exact g4
    have c6 : m3 (S "told") = some (.ref f.td) := by rw [p3 _ (by kernel_rfl) (by kernel_rfl) (by kernel_rfl)]; exact g6
    have c7 : m3 (S "entry") = some (.ref d.ed) := by rw [p3 _ (by kernel_rfl) (by kernel_rfl) (by kernel_rfl)]; exact g7
    have c8 : m3 (S "name") = some (.str (nmL i) t2) := by rw [p3 _ (by kernel_rfl) (by kernel_rfl) (by kernel_rfl)]; exact g8
    have hil : items.length ≤ 100 := by
      have e1 := hvals.length
      have : rest.length ≤ measR f.sz r.q := by
        have := measR_len fun p hp => (W.qi p hp).2.2
        rw [hq, List.length_cons] at this
        rw [hq]; lia
      have := W.hr; have := W.h0
      lia
    have bimm : ∀ {h' : Heap} {obs : List (Addr × Obj)}, Now H f.mu h' obs → (∀ p ∈ x₃, p ∈ obs ∧ p.1 ∉ f.mu) → Imm h' f.mu bd₃ ob₃ := by
      intro h' obs N' hx
      rcases hb₃ with ⟨_, c⟩ | ⟨rfl, c⟩
      · exact c.keep N'
      · have := hx (bd₃, ob₃) (by simp)
        exact ⟨N'.at_ _ this.1, this.2, c⟩
    have xoff : ∀ {h' : Heap} {oL a b c t : Obj} {y : List (Addr × Obj)}, Now H f.mu h' ((f.L, oL) :: (f.l.dl, a) :: (f.l.pl, b) :: (f.l.q, c) :: (f.td, t) :: y) → ∀ p ∈ y, p.1 ∉ f.mu := by
      intro h' oL a b c t y N' p hp
      have nd := N'.nd
      simp only [List.map_cons, List.nodup_cons, List.mem_cons, not_or] at nd
      refine Classical.byContradiction fun hng => ?_
      obtain ⟨⟨_, _, _, _, n1⟩, ⟨_, _, _, n2⟩, ⟨_, _, n3⟩, ⟨_, n4⟩, n5, _⟩ := nd
      refine hng ?_
      have hm : p.1 ∈ y.map (·.1) := List.mem_map_of_mem hp
      simp only [List.mem_cons, List.not_mem_nil, or_false, not_or]
      exact ⟨fun e => n1 (e ▸ hm), fun e => n2 (e ▸ hm), fun e => n3 (e ▸ hm), fun e => n4 (e ▸ hm), fun e => n5 (e ▸ hm)⟩
    refine Classical.byContradiction fun hng => ?_
    obtain ⟨m, p, t0, nq, io, lm, _, _, _⟩ := R.lex.ex
    refine hng ?_
    with_reducible refine wpAny_execs_cons ?_
    with_reducible refine wpAny_If ?_
    refine cmp_word (A := A.deeper (eR w f.L)) (s := s) (e := f.e) (sz := f.sz) (sv := f.sv) (ts := ts) rfl (N₃.get 0 rfl) n₃ p1 c2 c8 (dS _ _ N₃) hsz hi he (by lia) (by lia) fun tk₄ => ?_
    by_cases c : xs.1 ≤ f.sz i
    · rw [if_pos c] at hQ hW
      rw [decide_eq_true c, if_pos rfl]
      with_reducible refine wpAny_execs_cons ?_
      with_reducible refine wpAny_Expr ?_ (by kernel_rfl) (by kernel_rfl)
      refine MethodCall_ ?_
      with_reducible refine ld (N₃.get 0 rfl) n₃ c1 (by kernel_rfl) (by kernel_rfl) ?_
      refine r_method (f := 66) X₃ ((lin _ _ N₃).at 0 rfl) (N₃.get 1 rfl) io.ns (by kernel_rfl) (by kernel_rfl) (by kernel_rfl) (by kernel_rfl) (method_none lm (by kernel_rfl)) ?_
      with_reducible refine callWith_methN (o := obAt (KK w.params) 66) (fd := fnAt (KK w.params) 66) (by kernel_rfl) ?_ (by kernel_rfl)
      with_reducible refine args_cons ?_ (by kernel_rfl)
      with_reducible refine ld (N₃.get 0 rfl) n₃ p1 (by kernel_rfl) (by kernel_rfl) ?_
      refine args_nil ⟨X₃ 66 _ (by kernel_rfl), ?_⟩
      refine run_push X₃ (by show A.depth + 1 < _; lia) hh ok.k (lin _ _ N₃) (N₃.get 1 rfl) (N₃.get 2 rfl) (N₃.get 3 rfl) R.lex (by lia) fun h₅ tk₅ oq₅ D₅ st₅ => ?_
      have N₅ := N₃.lex D₅
      with_reducible refine wpAny_execs_nil ?_
      refine tail_w ok hh hroom (XN _ _ N₅) N₅ (lin _ _ N₅) n₃ c1 st₅ (by rw [List.length_append, List.length_singleton]; lia) fun h₆ tk₆ oL₆ od₆ opl₆ oq₆ v N₆ n₆ st₆ hv0 hv1 => ?_
      have hm : ∀ x y, (x == S "word") = false → m3 x = some y → up m3 (S "word") v x = some y := fun x y e z => (up_ne e).trans z
      have hv : vals f.e (rest ++ [(i, xs.1)]) (items ++ [.str (wd f.e i xs.1) tw₃]) := hvals.snoc ⟨tw₃, rfl⟩
      with_reducible refine hQ h₆ tk₆ ⟨oL₆, up m3 (S "word") v, od₆, opl₆, oq₆, d.ot, bd₃, ob₃, rv₃, d.ed, d.ec, d.oc, d.rve, d.tl, d.t0, d.t1, d.t2, d.t3⟩ (items ++ [Value.str (wd f.e i xs.1) tw₃]).tail ?_ ?_ (N₆.sub (List.nil_sublist _))
      · exact {
          X := XN _ _ N₆, eL := N₆.get 0 rfl, nL := n₆, lin := lin _ _ N₆, edl := N₆.get 1 rfl, epl := N₆.get 2 rfl, eq := N₆.get 3 rfl, lex := st₆, etd := N₆.get 4 rfl, itd := R.itd
          told := R.told.imp fun a b x => x.keep N₆
          ebd := bimm N₆ fun p hp => ⟨by simp [hp], xoff N₆ p hp⟩
          ibd := ib₃, bbd := bb₃, eed := R.eed.keep N₆, eec := R.eec.keep N₆, iec := R.iec, bec := R.bec, eds := R.eds.keep N₆, edp := R.edp.keep N₆
          q1 := hm _ _ (by kernel_rfl) c1, q2 := hm _ _ (by kernel_rfl) c2, q3 := hm _ _ (by kernel_rfl) c3, q4 := hm _ _ (by kernel_rfl) c4
          q5 := hm _ _ (by kernel_rfl) p2, q6 := hm _ _ (by kernel_rfl) c6, q7 := hm _ _ (by kernel_rfl) c7 }
      · exact word_at hv hv0 hv1
    · rw [if_neg c] at hQ hW
      rw [decide_eq_false c, if_neg (by decide)]
      have hxd : xs.1 = f.sz i + 1 := by lia
      have ewd : wd f.e i xs.1 = wordD (97 + i) (f.sz i + 1) := by rw [hxd]; exact if_neg (by lia)
      rw [ewd] at p1
      have ho1 : 0 ≤ hourOf xs.2 ∧ hourOf xs.2 ≤ 100 := by have := W.hr; have := W.h0; lia
      obtain ⟨eb, hatb⟩ := isDictOf_at ib₃
      have gb : ∀ {h' : Heap} {obs : List (Addr × Obj)}, Now H f.mu h' obs → (∀ p ∈ x₃, p ∈ obs) → h'.DictAt (SK w) bd₃ (intPairs rv₃) eb := fun N' hx => hatb _ _ (hb₃.get N' hx)
      have hsum : (rv₃.map (·.2.1)).sum = hourOf xs.2 := by
        have e1 : rv₃.map (·.2.1) = (bk rv₃).map (·.2) := by simp [bk]
        rw [e1, bb₃]
        unfold named hourOf
        rw [List.map_map]; rfl
      have hl₃ : rv₃.length ≤ 50 := by
        have e1 : rv₃.length = (bk rv₃).length := by simp [bk]
        rw [e1, bb₃]
        unfold named
        rw [List.length_map]; have := W.bl; lia
      with_reducible refine x_assign ?_ (by kernel_rfl)
      with_reducible refine r_callD (s := s) (f := 122) (o := obAt (KK w.params) 122) (fd := fnAt (KK w.params) 122) X₃ (by kernel_rfl) (by kernel_rfl) (by kernel_rfl) (by kernel_rfl) (by kernel_rfl) (by kernel_rfl) (by kernel_rfl) ?_ (by kernel_rfl)
      with_reducible refine args_cons ?_ (by kernel_rfl)
      with_reducible refine ld (N₃.get 0 rfl) n₃ p2 (by kernel_rfl) (by kernel_rfl) ?_
      refine args_nil ⟨X₃ _ _ (by kernel_rfl), ?_⟩
      refine count_calls X₃ (by show A.depth + 1 < _; lia) hh (gb N₃ fun p hp => by simp [hp]) (ne_sys hb₃.hi) fun h₅ tk₅ t5 D₅ => ?_
      have N₅ := N₃.pure D₅
      rw [List.nil_append] at N₅
      rw [hsum]
      refine r_store (s := s) N₅ 0 rfl n₃ (by kernel_rfl) (by kernel_rfl) fun h₆ o₆ tk₆ N₆ n₆ => ?_
      let R34 : List (Addr × Obj) := (f.L, o₆) :: (f.l.dl, d.od) :: (f.l.pl, d.opl) :: (f.l.q, d.oq) :: (f.td, d.ot) :: x₃
      replace N₆ : Now H f.mu h₆ R34 := N₆
      change NsObj o₆ (up m3 (S "hour") (.int (hourOf xs.2) t5)) at n₆
      have v0 : up m3 (S "hour") (.int (hourOf xs.2) t5) (S "hour") = some (.int (hourOf xs.2) t5) := up_self _ _ _
      have v1 : up m3 (S "hour") (.int (hourOf xs.2) t5) (S "lexer") = some (.ref f.l.lx) := by walk_at "lk"
      have v2 : up m3 (S "hour") (.int (hourOf xs.2) t5) (S "sizes") = some (.ref f.ds) := by walk_at "lk"
      have v3 : up m3 (S "hour") (.int (hourOf xs.2) t5) (S "prices") = some (.ref f.dp) := by walk_at "lk"
      have v4 : up m3 (S "hour") (.int (hourOf xs.2) t5) (S "most") = some (.int f.m f.tm) := by walk_at "lk"
      have v5 : up m3 (S "hour") (.int (hourOf xs.2) t5) (S "book") = some (.ref bd₃) := by walk_at "lk"
      have v6 : up m3 (S "hour") (.int (hourOf xs.2) t5) (S "told") = some (.ref f.td) := by walk_at "lk"
      have v7 : up m3 (S "hour") (.int (hourOf xs.2) t5) (S "entry") = some (.ref d.ed) := by walk_at "lk"
      have v8 : up m3 (S "hour") (.int (hourOf xs.2) t5) (S "name") = some (.str (nmL i) t2) := by walk_at "lk"
      have v9 : up m3 (S "hour") (.int (hourOf xs.2) t5) (S "word") = some (.str (wordD (97 + i) (f.sz i + 1)) tw₃) := by walk_at "lk"
      generalize up m3 (S "hour") (.int (hourOf xs.2) t5) = m6 at n₆ v0 v1 v2 v3 v4 v5 v6 v7 v8 v9
      clear p1 p2 p3 c1 c2 c3 c4 c6 c7 c8 g0 g1 g2 g3 g4 g5 g6 g7 g8
      have X₆ := XN _ _ N₆
      with_reducible refine wpAny_execs_cons ?_
      with_reducible refine wpAny_Assign_Subscript ?_ (by kernel_rfl)
      with_reducible refine r_tuple ?_
      with_reducible refine args_cons ?_ (by kernel_rfl)
      with_reducible refine ld (N₆.get 0 rfl) n₆ v9 (by kernel_rfl) (by kernel_rfl) ?_
      with_reducible refine args_cons ?_ (by kernel_rfl)
      with_reducible refine ld (N₆.get 0 rfl) n₆ v5 (by kernel_rfl) (by kernel_rfl) ?_
      refine args_nil ⟨by show 2 ≤ sizeLine; rw [sizeLine_eq]; lia, ?_⟩
      have N₇ := N₆.allocE { cls := .type "tuple", data := .seq #[.str (wordD (97 + i) (f.sz i + 1)) tw₃, .ref bd₃] } rfl
      have hta := kk_size X₆
      generalize h₆.objs.size = ta at N₇ hta ⊢
      let R35 : List (Addr × Obj) := (f.L, o₆) :: (f.l.dl, d.od) :: (f.l.pl, d.opl) :: (f.l.q, d.oq) :: (f.td, d.ot) :: (x₃ ++ [(ta, { cls := .type "tuple", data := .seq #[.str (wordD (97 + i) (f.sz i + 1)) tw₃, .ref bd₃] })])
      replace N₇ : Now H f.mu (h₆.push { cls := .type "tuple", data := .seq #[.str (wordD (97 + i) (f.sz i + 1)) tw₃, .ref bd₃] }) R35 := N₇
      change wpAny (MM w) (A.deeper (eR w f.L)) (eval _ (eR w f.L)) _ _ (St s (h₆.push { cls := .type "tuple", data := .seq #[.str (wordD (97 + i) (f.sz i + 1)) tw₃, .ref bd₃] }) tk₆)
      generalize h₆.push { cls := .type "tuple", data := .seq #[.str (wordD (97 + i) (f.sz i + 1)) tw₃, .ref bd₃] } = h₇ at N₇ ⊢
      with_reducible refine ld (N₇.get 0 rfl) n₆ v6 (by kernel_rfl) (by kernel_rfl) ?_
      with_reducible refine ld (N₇.get 0 rfl) n₆ v8 (by kernel_rfl) (by kernel_rfl) ?_
      have htl := R.told.length
      have hln : r.told.length ≤ 3 := by have := W.ln; rw [hq, List.length_cons] at this; lia
      refine r_setItem (s := s) N₇ 4 rfl R.itd (is_key _ _) (by unfold toldKv; rw [List.length_map, ← htl, sizeLine_eq]; lia) fun h₈ ot₈ tk₈ N₈ i₈ => ?_
      replace N₈ : Now H f.mu h₈ ((f.L, o₆) :: (f.l.dl, d.od) :: (f.l.pl, d.opl) :: (f.l.q, d.oq) :: (f.td, ot₈) :: (x₃ ++ [(ta, { cls := .type "tuple", data := .seq #[.str (wordD (97 + i) (f.sz i + 1)) tw₃, .ref bd₃] })])) := N₈
      have hnk : nmL i ∉ (toldKv d.tl).map (·.1) := by
        intro hm
        unfold toldKv at hm
        rw [List.map_map] at hm
        obtain ⟨t, ht, et⟩ := List.mem_map.mp hm
        have et' := nmL_inj et
        obtain ⟨b, hb, x⟩ := R.told.right t ht
        have nd := W.nd
        rw [hq] at nd
        simp only [List.map_cons, List.cons_append, List.nodup_cons, List.mem_append, not_or] at nd
        exact nd.1.2 (List.mem_map.mpr ⟨b, hb, by rw [← x.1, et']⟩)
      have ek : stored (toldKv d.tl) (nmL i) (.ref ta) = toldKv (d.tl ++ [⟨i, ta, bd₃, ob₃, rv₃, tw₃⟩]) := by
        rw [stored_new hnk]; simp [toldKv]
      rw [ek] at i₈
      have X₈ := XN _ _ N₈
      with_reducible refine x_assign ?_ (by kernel_rfl)
      with_reducible refine r_callD (s := s) (f := 108) (o := obAt (KK w.params) 108) (fd := fnAt (KK w.params) 108) X₈ (by kernel_rfl) (by kernel_rfl) (by kernel_rfl) (by kernel_rfl) (by kernel_rfl) (by kernel_rfl) (by kernel_rfl) ?_ (by kernel_rfl)
      with_reducible refine args_cons ?_ (by kernel_rfl)
      with_reducible refine ld (N₈.get 0 rfl) n₆ v7 (by kernel_rfl) (by kernel_rfl) ?_
      with_reducible refine args_cons ?_ (by kernel_rfl)
      with_reducible refine r_tuple ?_
      with_reducible refine args_cons ?_ (by kernel_rfl)
      with_reducible refine r_int (s := s) fun t9 tk9 => ?_
      with_reducible refine args_cons ?_ (by kernel_rfl)
      with_reducible refine Subscript_ ?_
      with_reducible refine ld (N₈.get 0 rfl) n₆ v2 (by kernel_rfl) (by kernel_rfl) ?_
      with_reducible refine ld (N₈.get 0 rfl) n₆ v8 (by kernel_rfl) (by kernel_rfl) ?_
      with_reducible refine r_itemD2 (s := s) (dS _ _ N₈) (is_key _ _) hsz (fun tk10 => ?_) (by kernel_rfl)
      with_reducible refine args_cons ?_ (by kernel_rfl)
      with_reducible refine ld (N₈.get 0 rfl) n₆ v0 (by kernel_rfl) (by kernel_rfl) ?_
      with_reducible refine args_cons ?_ (by kernel_rfl)
      with_reducible refine wpAny_BinOp ?_
      with_reducible refine Subscript_ ?_
      with_reducible refine ld (N₈.get 0 rfl) n₆ v3 (by kernel_rfl) (by kernel_rfl) ?_
      with_reducible refine ld (N₈.get 0 rfl) n₆ v8 (by kernel_rfl) (by kernel_rfl) ?_
      with_reducible refine r_itemD2 (s := s) (dP _ _ N₈) (is_key _ _) hpr (fun tk11 => ?_) (by kernel_rfl)
      with_reducible refine ld (N₈.get 0 rfl) n₆ v0 (by kernel_rfl) (by kernel_rfl) ?_
      refine r_mul (mulOk_small (by lia) (by lia)) fun t12 tk12 => ?_
      with_reducible refine args_cons ?_ (by kernel_rfl)
      with_reducible refine ld (N₈.get 0 rfl) n₆ v5 (by kernel_rfl) (by kernel_rfl) ?_
      refine args_nil ⟨by show 5 ≤ sizeLine; rw [sizeLine_eq]; lia, ?_⟩
      have N₉ := N₈.allocE { cls := .type "tuple", data := .seq #[.int 1 t9, .int (f.sz i : Nat) ts, .int (hourOf xs.2) t5, .int (f.pr i * hourOf xs.2) t12, .ref bd₃] } rfl
      generalize h₈.objs.size = sa at N₉ ⊢
      have X₉ := XN _ _ N₉
      refine args_nil ⟨X₉ _ _ (by kernel_rfl), ?_⟩
      obtain ⟨et, hate⟩ := isDictOf_at R.iec
      have hlc : d.rve.length + rv₃.length ≤ 100 := by
        have e1 : d.rve.length = (bk d.rve).length := by simp [bk]
        have e2 : rv₃.length = (bk rv₃).length := by simp [bk]
        have := entC_length W.tl
        have := W.bl
        rw [e1, R.bec, e2, bb₃]
        have e3 : (named nmL xs.2).length = xs.2.length := by simp [named]
        rw [e3]; lia
      refine add_func_stats (s := s) X₉ (by show A.depth + 1 + 1 < _; lia) hh (dt := d.ec) (ds := bd₃) (tv := d.rve) (sv := rv₃) (et := et) (es := eb) ⟨_, (R.eed.keep N₉).1, rfl, _, rfl⟩ ⟨_, N₉.at_ (sa, { cls := .type "tuple", data := .seq #[.int 1 t9, .int (f.sz i : Nat) ts, .int (hourOf xs.2) t5, .int (f.pr i * hourOf xs.2) t12, .ref bd₃] }) (by simp), rfl, _, rfl⟩ (hate _ _ (R.eec.keep N₉).1) (gb N₉ fun p hp => by simp [hp]) R.eec.2.2 hb₃.hi hlc fun h₁₀ tk₁₀ dn on rv ar oar r0 r1 r2 r3 D₁₀ eoar io hrv hdn har => ?_
      have N₁₀ := N₉.pureE D₁₀
      refine r_store (s := s) N₁₀ 0 rfl n₆ (by kernel_rfl) (by kernel_rfl) fun h₁₁ o₁₁ tk₁₁ N₁₁ n₁₁ => ?_
      let R36 : List (Addr × Obj) := (f.L, o₁₁) :: (f.l.dl, d.od) :: (f.l.pl, d.opl) :: (f.l.q, d.oq) :: (f.td, ot₈) :: (((x₃ ++ [(ta, { cls := .type "tuple", data := .seq #[.str (wordD (97 + i) (f.sz i + 1)) tw₃, .ref bd₃] })]) ++ [(sa, { cls := .type "tuple", data := .seq #[.int 1 t9, .int (f.sz i : Nat) ts, .int (hourOf xs.2) t5, .int (f.pr i * hourOf xs.2) t12, .ref bd₃] })]) ++ [(ar, oar), (dn, on)])
      replace N₁₁ : Now H f.mu h₁₁ R36 := N₁₁
      change NsObj o₁₁ (up m6 (S "entry") (.ref ar)) at n₁₁
      with_reducible refine wpAny_execs_nil ?_
      refine tail_w ok hh hroom (XN _ _ N₁₁) N₁₁ (lin _ _ N₁₁) n₁₁ (by walk_at "lk") R.lex (by lia) fun h₁₂ tk₁₂ oL₁₂ od₁₂ opl₁₂ oq₁₂ v N₁₂ n₁₂ st₁₂ hv0 hv1 => ?_
      have he7 : up (up m6 (S "entry") (.ref ar)) (S "word") v (S "entry") = some (.ref ar) := (up_ne (by kernel_rfl)).trans (up_self _ _ _)
      have hm : ∀ x y, (x == S "word") = false → (x == S "entry") = false → m6 x = some y → up (up m6 (S "entry") (.ref ar)) (S "word") v x = some y := fun x y e e' z => (up_ne e).trans ((up_ne e').trans z)
      refine hQ h₁₂ tk₁₂ ⟨oL₁₂, up (up m6 (S "entry") (.ref ar)) (S "word") v, od₁₂, opl₁₂, oq₁₂, ot₈, bd₃, ob₃, rv₃, ar, dn, on, rv, d.tl ++ [⟨i, ta, bd₃, ob₃, rv₃, tw₃⟩], r0, r1, r2, r3⟩ items.tail ?_ ?_ (N₁₂.sub (List.nil_sublist _))
      · have bI := bimm N₁₂ fun p hp => ⟨by simp [hp], xoff N₁₂ p (by simp [hp])⟩
        exact {
          X := XN _ _ N₁₂, eL := N₁₂.get 0 rfl, nL := n₁₂, lin := lin _ _ N₁₂, edl := N₁₂.get 1 rfl, epl := N₁₂.get 2 rfl, eq := N₁₂.get 3 rfl, lex := st₁₂, etd := N₁₂.get 4 rfl, itd := i₈
          told := (R.told.imp fun a b x => x.keep N₁₂).snoc ⟨rfl, ⟨N₁₂.at_ (ta, { cls := .type "tuple", data := .seq #[.str (wordD (97 + i) (f.sz i + 1)) tw₃, .ref bd₃] }) (by simp), xoff N₁₂ (ta, { cls := .type "tuple", data := .seq #[.str (wordD (97 + i) (f.sz i + 1)) tw₃, .ref bd₃] }) (by simp), hta⟩, bI, ib₃, bb₃⟩
          ebd := bI
          ibd := ib₃, bbd := bb₃
          eed := by
            have ea := N₁₂.at_ (ar, oar) (by simp)
            have eo := xoff N₁₂ (ar, oar) (by simp)
            refine ⟨?_, eo, har⟩
            rw [ea, eoar]
            dsimp only
            rw [entS_snoc, entH_snoc, entD_snoc, List.length_append, List.length_singleton]
            have e1 : (((r.told.length + 1 : Nat) : Int)) = 1 + (r.told.length : Nat) := by lia
            rw [e1]
          eec := ⟨N₁₂.at_ (dn, on) (by simp), xoff N₁₂ (dn, on) (by simp), hdn⟩
          iec := io
          bec := by
            dsimp only
            rw [hrv, R.bec, bb₃, entC_snoc]
          eds := R.eds.keep N₁₂, edp := R.edp.keep N₁₂
          q1 := hm _ _ (by kernel_rfl) (by kernel_rfl) v1, q2 := hm _ _ (by kernel_rfl) (by kernel_rfl) v2, q3 := hm _ _ (by kernel_rfl) (by kernel_rfl) v3, q4 := hm _ _ (by kernel_rfl) (by kernel_rfl) v4
          q5 := hm _ _ (by kernel_rfl) (by kernel_rfl) v5, q6 := hm _ _ (by kernel_rfl) (by kernel_rfl) v6, q7 := he7 }
      · exact word_at hvals hv0 hv1
end
end
section
open PySem PySem.W PySem.W.X PyProof.Rows PySem.Calls PySem.Spec PyProof
open LCg (NsObj lst)
set_option maxHeartbeats 1000000
theorem Now.comp {a b c : Heap} {mu : List Addr} {o1 o2 : List (Addr × Obj)} (N : Now a mu b o1) (D : Now b mu c o2) : Now a mu c [] :=
  ⟨fun _ h => (nomatch h), List.nodup_nil, fun _ h => (nomatch h), fun x o e hx => D.keep x o (N.keep x o e hx) hx, D.live⟩
section
variable {w : World} {A : Around} {s : Shared} {E : Value → Shared → Prop} {tk : Nat} {h : Heap}
/-- the state of a run behind a get_token -/
theorem RunAt.got {f : RF} {r : RS} {items : List Value} {H H' : Heap} {d : RD} {oL' od' opl' oq' : Obj} {v : Value} {its : List Value} (ok : f.Ok w) (R : RunAt w f r items H d) (N : Now H f.mu H' [(f.L, oL'), (f.l.dl, od'), (f.l.pl, opl'), (f.l.q, oq'), (f.td, d.ot)])
    (nL : NsObj oL' (up d.mx (S "word") v)) (st : LexSt f.l od' opl' oq' f.ln its) :
    RunAt w f r its H' ⟨oL', up d.mx (S "word") v, od', opl', oq', d.ot, d.bd, d.ob, d.rvb, d.ed, d.ec, d.oc, d.rve, d.tl, d.t0, d.t1, d.t2, d.t3⟩ := by
  have hm : ∀ x y, (x == S "word") = false → d.mx x = some y → up d.mx (S "word") v x = some y := fun x y e z => (up_ne e).trans z
  exact {
    X := kk_keep2 R.X N fun a ha => .inr (ok.hi a ha _), eL := N.get 0 rfl, nL := nL, lin := fun p hp => N.keep _ _ (R.lin p hp) (ok.off p hp), edl := N.get 1 rfl, epl := N.get 2 rfl, eq := N.get 3 rfl, lex := st, etd := N.get 4 rfl, itd := R.itd
    told := R.told.imp fun a b x => x.keep N
    ebd := R.ebd.keep N, ibd := R.ibd, bbd := R.bbd, eed := R.eed.keep N, eec := R.eec.keep N, iec := R.iec, bec := R.bec, eds := R.eds.keep N, edp := R.edp.keep N
    q1 := hm _ _ (by kernel_rfl) R.q1, q2 := hm _ _ (by kernel_rfl) R.q2, q3 := hm _ _ (by kernel_rfl) R.q3, q4 := hm _ _ (by kernel_rfl) R.q4, q5 := hm _ _ (by kernel_rfl) R.q5, q6 := hm _ _ (by kernel_rfl) R.q6, q7 := hm _ _ (by kernel_rfl) R.q7 }
theorem RunAt.start {f : RF} {r : RS} {items : List Value} {H : Heap} {d : RD} (ok : f.Ok w) (R : RunAt w f r items H d) : Now H f.mu H [(f.L, d.oL), (f.l.dl, d.od), (f.l.pl, d.opl), (f.l.q, d.oq), (f.td, d.ot)] :=
  Now.start (obs := [(f.L, d.oL), (f.l.dl, d.od), (f.l.pl, d.opl), (f.l.q, d.oq), (f.td, d.ot)]) (fun p hp => by
    simp only [List.mem_cons, List.not_mem_nil, or_false] at hp
    rcases hp with rfl | rfl | rfl | rfl | rfl
    · exact R.eL
    · exact R.edl
    · exact R.epl
    · exact R.eq
    · exact R.etd) ok.nd
noncomputable def headS : List Stmt → Stmt | x :: _ => x | [] => .Pass ⟨0, 0, 0, 0⟩
noncomputable def sWhile : Stmt := headS (nthS bRun 5)
/-- the while loop of a run, and what comes behind it -/
theorem while_run {Q : Flow → Shared → Prop} {f : RF} (ok : f.Ok w) (hh : (A.deeper (eR w f.L)).handled = none) (hroom : A.depth + 4 < recursionLimit) {ord : List Nat} {items : List Value} {H : Heap} {d : RD}
    (W : WFR f.sz (initR ord)) (hmeas : measR f.sz (initR ord).q ≤ 20) (R : RunAt w f (initR ord) items H d) (Wd : WordAt f.e (initR ord).q items d.mx)
    (hQ : ∀ H' tk' d' k, k ≤ 20 → (runR f.sz f.m k (initR ord)).q = [] → RunAt w f (runR f.sz f.m k (initR ord)) [] H' d' → Now H f.mu H' [] → Q .next (St s H' tk')) :
    wpAny (MM w) (A.deeper (eR w f.L)) (exec sWhile (eR w f.L)) Q E (St s H tk) := by
  conv => arg 3; arg 1; whnf
  refine wpAny_While ?_
  let JW : Nat → Shared → Prop := fun n s' => ∃ k d' H' tk' items', s' = St s H' tk' ∧ n = measR f.sz (runR f.sz f.m k (initR ord)).q ∧ k + n ≤ 20 ∧ WFR f.sz (runR f.sz f.m k (initR ord)) ∧ RunAt w f (runR f.sz f.m k (initR ord)) items' H' d' ∧ WordAt f.e (runR f.sz f.m k (initR ord)).q items' d'.mx ∧ Now H f.mu H' []
  refine codeAny_whileLoop JW ?_ (measR f.sz (initR ord).q) ⟨0, d, H, tk, items, rfl, rfl, by lia, W, R, Wd, ⟨fun _ h => (nomatch h), List.nodup_nil, fun _ h => (nomatch h), fun _ _ e _ => e, fun a ha => ?_⟩⟩
  · intro n _ hz1
    refine Classical.byContradiction fun hng => ?_
    obtain ⟨k, d', H', tk', items', rfl, hn, hkn, W', R', Wd', N'⟩ := hz1
    refine hng ?_
    cases hq : (runR f.sz f.m k (initR ord)).q with
    | nil =>
      rw [hq] at Wd'
      obtain ⟨rfl, t, q0⟩ := Wd'
      refine isTrue_plain ?_ (by kernel_rfl)
      refine r_name (env := eR w f.L) (s := s) R'.eL R'.nL q0 (by kernel_rfl) (by kernel_rfl) ?_ (by kernel_rfl)
      refine PySem.P.truthy_str (by decide) ?_
      have e0 : (((S "").length : Int) != 0) = false := by decide
      rw [e0, if_neg Bool.false_ne_true]
      exact wpAny_execs_nil (hQ H' _ d' k (by lia) hq R' N')
    | cons p rest =>
      obtain ⟨i, dd⟩ := p
      have hqi := W'.qi (i, dd) (by rw [hq]; exact .head _)
      dsimp only at hqi
      have Wd'' := Wd'
      rw [hq] at Wd''
      obtain ⟨⟨t, q0⟩, _⟩ := Wd''
      dsimp only at q0
      have hlen := wd_len (e := f.e) hqi.1 (ok.he i hqi.1) hqi.2.1
      have hd6 := (ok.s5 i hqi.1).2
      refine isTrue_plain ?_ (by kernel_rfl)
      refine r_name (env := eR w f.L) (s := s) R'.eL R'.nL q0 (by kernel_rfl) (by kernel_rfl) ?_ (by kernel_rfl)
      refine PySem.P.truthy_str (by lia) ?_
      have e0 : (((wd f.e i dd).length : Int) != 0) = true := by
        have : ((wd f.e i dd).length : Int) ≠ 0 := by lia
        simpa using this
      rw [e0, if_pos rfl]
      have st := W'.step ok.m1 hq
      refine body_w ok hh hroom hq W' R' Wd' fun H'' tk'' d'' items'' R'' Wd'' N'' => ?_
      exact ⟨measR f.sz (stepR f.sz f.m (runR f.sz f.m k (initR ord))).q, by rw [hn]; exact st.2, k + 1, d'', H'', tk'', items'', rfl, rfl, by
        have := st.2
        show k + 1 + measR f.sz (stepR f.sz f.m (runR f.sz f.m k (initR ord))).q ≤ 20
        lia, st.1, R'', Wd'', N'.comp N''⟩
  · simp only [List.mem_cons, List.not_mem_nil, or_false] at ha
    rcases ha with rfl | rfl | rfl | rfl | rfl
    · exact ⟨_, R.eL⟩
    · exact ⟨_, R.edl⟩
    · exact ⟨_, R.epl⟩
    · exact ⟨_, R.eq⟩
    · exact ⟨_, R.etd⟩
end
end
section
open PySem PySem.W PySem.W.X PyProof.Rows PySem.Calls PySem.Spec PyProof
open LCg (NsObj lst)
set_option maxHeartbeats 1000000
section
variable {w : World} {A : Around} {s : Shared} {E : Value → Shared → Prop} {Q : Value → Shared → Prop} {tk : Nat} {h : Heap}
/-- the arguments of a run -/
structure RunIn (w : World) (h : Heap) (l : Lx) (ln : Int) (od opl oq : Obj) (lr ds dp : Addr) (ods odp : Obj) (sv pv : List (Str × Int × Tok)) (m : Nat) (sz e : Nat → Nat) (pr : Nat → Int) (ord : List Nat) (tw : Nat → Tok) : Prop where
  X : (KK w.params).In h
  k : l.Ok
  lin : l.In h
  edl : h.get? l.dl = some od
  epl : h.get? l.pl = some opl
  eq : h.get? l.q = some oq
  lex : LexSt l od opl oq ln []
  row : h.IsList lr (ord.map fun i => Value.str (wd e i 1) (tw i)).toArray
  rowo : lr ∉ [l.dl, l.pl, l.q]
  eds : h.get? ds = some ods ∧ ds ∉ [l.dl, l.pl, l.q] ∧ 183 ≤ ds
  edp : h.get? dp = some odp ∧ dp ∉ [l.dl, l.pl, l.q] ∧ 183 ≤ dp
  ids : ods.IsDictOf (SK w) (intPairs sv)
  idp : odp.IsDictOf (SK w) (intPairs pv)
  hsz : ∀ i, i < 4 → ∃ t, valueAt (intPairs sv) (nmL i) = some (.int (sz i : Nat) t)
  hpr : ∀ i, i < 4 → ∃ t, valueAt (intPairs pv) (nmL i) = some (.int (pr i) t)
  s5 : ∀ i, i < 4 → 1 ≤ sz i ∧ sz i ≤ 5
  he : ∀ i, i < 4 → e i = 10 ∨ e i = 13
  m1 : 1 ≤ m
  m5 : m ≤ 5
  o4 : ord.length = 4
  oi : ∀ i ∈ ord, i < 4
  on : ord.Nodup
theorem meas_init {sz : Nat → Nat} : ∀ {ord : List Nat}, (∀ i ∈ ord, sz i ≤ 5) → measR sz (initR ord).q ≤ 5 * ord.length
  | [], _ => by simp [initR, measR]
  | i :: r, h => by
    have ih := meas_init fun j hj => h j (.tail _ hj)
    have h1 := h i (.head _)
    have e : measR sz (initR (i :: r)).q = (sz i + 1 - 1) + measR sz (initR r).q := by simp [initR, measR]
    rw [e, List.length_cons]; lia
theorem init_ok {sz : Nat → Nat} {ord : List Nat} (o4 : ord.length = 4) (oi : ∀ i ∈ ord, i < 4) (on : ord.Nodup) (s5 : ∀ i, i < 4 → 1 ≤ sz i ∧ sz i ≤ 5) : WFR sz (initR ord) ∧ measR sz (initR ord).q ≤ 20 := by
  have hm : measR sz (initR ord).q ≤ 20 := by
    have := meas_init (ord := ord) fun i hi => (s5 i (oi i hi)).2
    lia
  refine ⟨⟨?_, ?_, (fun p hp => nomatch hp), List.nodup_nil, Int.le_refl _, ?_, ?_, (fun p hp => nomatch hp), ?_⟩, hm⟩
  · intro p hp
    obtain ⟨i, hi, rfl⟩ := List.mem_map.mp hp
    exact ⟨oi i hi, Nat.le_refl _, (s5 i (oi i hi)).1⟩
  · simp only [initR, List.map_map, List.map_nil, List.append_nil]
    have e : ((fun x : Nat × Nat => x.1) ∘ fun i => (i, 1)) = id := rfl
    rw [e, List.map_id]; exact on
  · show (0 : Int) + (measR sz (initR ord).q : Nat) ≤ 20
    lia
  · show 0 + measR sz (initR ord).q ≤ 20
    lia
  · simp [initR, o4]
theorem law_run (hh : A.handled = none) (hroom : A.depth + 4 < recursionLimit) {l : Lx} {ln : Int} {od opl oq : Obj} {lr ds dp : Addr} {ods odp : Obj} {sv pv : List (Str × Int × Tok)} {m : Nat} {tm : Tok} {sz e : Nat → Nat} {pr : Nat → Int} {ord : List Nat} {tw : Nat → Tok}
    (I : RunIn w h l ln od opl oq lr ds dp ods odp sv pv m sz e pr ord tw)
    (hQ : ∀ (f : RF) H' h' tk' d k tt, f.l = l → f.ln = ln → f.sz = sz → f.e = e → f.pr = pr → f.m = m → k ≤ 20 → (runR sz m k (initR ord)).q = [] → RunAt w f (runR sz m k (initR ord)) [] H' d →
      (∀ b o, H'.get? b = some o → h'.get? b = some o) → h'.get? tt = some { cls := .type "tuple", data := .seq #[.ref f.td, .ref d.ed] } → (∀ b o, h.get? b = some o → b ∉ [l.dl, l.pl, l.q] → h'.get? b = some o) → Q (.ref tt) (St s h' tk')) :
    wpAny (MM w) A (call (.ref 165) [.ref l.lx, .ref lr, .ref ds, .ref dp, .int m tm]) Q E (St s h tk) := by
  have X := I.X
  refine callF (s := St s h tk) X (by lia) (o := obAt (KK w.params) 165) (fd := fnAt (KK w.params) 165) (body := bRun) (binds := [(S "lexer", .ref l.lx), (S "row", .ref lr), (S "sizes", .ref ds), (S "prices", .ref dp), (S "most", .int m tm)]) (by kernel_rfl) (by kernel_rfl) (by kernel_rfl) (by kernel_rfl) (by kernel_rfl) (by kernel_rfl) (by kernel_rfl) (by kernel_rfl) (by kernel_rfl) (by kernel_rfl) ?_
  intro h₁ oL E' N nL
  dsimp only at N ⊢
  have hL := kk_size X
  have hfr := get?_size h
  generalize h.objs.size = L at N hL hfr ⊢
  have hh' : (A.deeper (eR w L)).handled = none := hh
  have q1 : (fun x => List.lookup x [(S "lexer", Value.ref l.lx), (S "row", .ref lr), (S "sizes", .ref ds), (S "prices", .ref dp), (S "most", .int m tm)].reverse) (S "lexer") = some (.ref l.lx) := by kernel_rfl
  have q0 : (fun x => List.lookup x [(S "lexer", Value.ref l.lx), (S "row", .ref lr), (S "sizes", .ref ds), (S "prices", .ref dp), (S "most", .int m tm)].reverse) (S "row") = some (.ref lr) := by kernel_rfl
  have q2 : (fun x => List.lookup x [(S "lexer", Value.ref l.lx), (S "row", .ref lr), (S "sizes", .ref ds), (S "prices", .ref dp), (S "most", .int m tm)].reverse) (S "sizes") = some (.ref ds) := by kernel_rfl
  have q3 : (fun x => List.lookup x [(S "lexer", Value.ref l.lx), (S "row", .ref lr), (S "sizes", .ref ds), (S "prices", .ref dp), (S "most", .int m tm)].reverse) (S "prices") = some (.ref dp) := by kernel_rfl
  have q4 : (fun x => List.lookup x [(S "lexer", Value.ref l.lx), (S "row", .ref lr), (S "sizes", .ref ds), (S "prices", .ref dp), (S "most", .int m tm)].reverse) (S "most") = some (.int m tm) := by kernel_rfl
  generalize (fun x => List.lookup x [(S "lexer", Value.ref l.lx), (S "row", .ref lr), (S "sizes", .ref ds), (S "prices", .ref dp), (S "most", .int m tm)].reverse) = mm at nL q0 q1 q2 q3 q4
  have ld : ∀ {x : Str} {v : Value} {px : Pos} {Q' E' : Value → Shared → Prop} {hx : Heap} {tkx : Nat} {oLx : Obj} {mx : Str → Option Value}, hx.get? L = some oLx → NsObj oLx mx → mx x = some v → (eR w L).kindOf x = some .local → (x == ("__debug__" : Str)) = false → Q' v (St s hx tkx) →
      wpAny (MM w) (A.deeper (eR w L)) (eval (.Name x px) (eR w L)) Q' E' (St s hx tkx) := fun e nl hv hk hd q => r_name (env := eR w L) e nl hv (by kernel_rfl) hk q hd
  have knd := I.k.nd
  have N₁ := N.more (olds := [(l.dl, od), (l.pl, opl), (l.q, oq)]) (fun p hp => by
    simp only [List.mem_cons, List.not_mem_nil, or_false] at hp
    rcases hp with rfl | rfl | rfl
    · exact I.edl
    · exact I.epl
    · exact I.eq) (by simpa using knd)
  replace N₁ : Now h [l.dl, l.pl, l.q] h₁ [(L, oL), (l.dl, od), (l.pl, opl), (l.q, oq)] := N₁
  have cc : ∀ a ∈ [l.dl, l.pl, l.q], Lo a := I.k.hi
  have XN : ∀ (h' : Heap) obs, Now h [l.dl, l.pl, l.q] h' obs → (KK w.params).In h' := fun h' obs N' => kk_keep X N' cc
  have lin : ∀ (h' : Heap) obs, Now h [l.dl, l.pl, l.q] h' obs → l.In h' := fun h' obs N' => I.lin.keep I.k fun b o e hb => N'.keep _ _ e hb
  have rowN : ∀ (h' : Heap) obs, Now h [l.dl, l.pl, l.q] h' obs → h'.IsList lr (ord.map fun i => Value.str (wd e i 1) (tw i)).toArray := fun h' obs N' => let ⟨o, eo, r⟩ := I.row; ⟨o, N'.keep _ _ eo I.rowo, r⟩
  change wpAny (MM w) (A.deeper (eR w L)) (execs bRun (eR w L)) _ E' (St s h₁ _)
  conv => arg 3; arg 1; whnf
  with_reducible refine wpAny_execs_cons ?_
  refine wpAny_For ?_ (by intro _; kernel_rfl)
  with_reducible refine ld (N₁.get 0 rfl) nL q0 (by kernel_rfl) (by kernel_rfl) ?_
  refine r_iterL (s := s) N₁ (rowN _ _ N₁) fun h₂ It oIt N₂ hI hl₂ hIc hne => ?_
  let J10 : Nat → List (Addr × Obj) → Prop := fun i obs' => ∃ oL mx oq', obs' = [(L, oL), (l.dl, od), (l.pl, opl), (l.q, oq')] ∧ NsObj oL mx ∧ mx (S "lexer") = some (.ref l.lx) ∧ mx (S "sizes") = some (.ref ds) ∧ mx (S "prices") = some (.ref dp) ∧ mx (S "most") = some (.int m tm) ∧ LexSt l od opl oq' ln ((ord.take i).map fun i => Value.str (wd e i 1) (tw i))
  refine r_forW2 (s := s) J10
    (Walks.list hh' It lr hne _) (fun i h ⟨⟨o, e, _⟩, _⟩ => ⟨o, e⟩) hIc (stays_list fun i obs' h' _ _ hk => let ⟨o, eo, r⟩ := I.row; ⟨o, hk _ _ eo I.rowo, r⟩) N₂ ⟨hI, hl₂⟩ ⟨oL, mm, oq, rfl, nL, q1, q2, q3, q4, I.lex⟩ ?_ ?_
  · intro i v h₃ tk₃ oI₃ _ E₁ Pz hi hP hz1 N₃ hpz
    refine Classical.byContradiction fun hng => ?_
    obtain ⟨oL₃, m3, oq₃, rfl, n₃, p1, p2, p3, p4, st₃⟩ := hz1
    refine hng ?_
    obtain ⟨j, hj, rfl⟩ : ∃ j, ord[i]? = some j ∧ v = Value.str (wd e j 1) (tw j) := by
      rw [List.getElem?_toArray, List.getElem?_map] at hP
      cases ej : ord[i]? with
      | none => rw [ej] at hP; cases hP
      | some j => rw [ej] at hP; cases hP; exact ⟨j, rfl, rfl⟩
    refine Classical.byContradiction fun hng => ?_
    obtain ⟨mL, p, t0, nq, io, lm, _, _, _⟩ := st₃.ex
    refine hng ?_
    refine r_store (s := s) N₃ 0 rfl n₃ (by kernel_rfl) (by kernel_rfl) fun h₄ o₄ tk₄ N₄ n₄ => ?_
    replace N₄ : Now h [l.dl, l.pl, l.q] h₄ [(L, o₄), (l.dl, od), (l.pl, opl), (l.q, oq₃), (It, oI₃)] := N₄
    have X₄ := XN _ _ N₄
    with_reducible refine wpAny_execs_cons ?_
    refine wpAny_Expr ?_ (by kernel_rfl) (by kernel_rfl)
    refine MethodCall_ ?_
    with_reducible refine ld (v := .ref l.lx) (N₄.get 0 rfl) n₄ (by walk_at "lk") (by kernel_rfl) (by kernel_rfl) ?_
    refine r_method (f := 66) X₄ ((lin _ _ N₄).at 0 rfl) (N₄.get 1 rfl) io.ns (by kernel_rfl) (by kernel_rfl) (by kernel_rfl) (by kernel_rfl) (method_none lm (by kernel_rfl)) ?_
    refine callWith_methN (o := obAt (KK w.params) 66) (fd := fnAt (KK w.params) 66) (by kernel_rfl) ?_ (by kernel_rfl)
    with_reducible refine args_cons ?_ (by kernel_rfl)
    with_reducible refine ld (v := .str (wd e j 1) (tw j)) (N₄.get 0 rfl) n₄ (by walk_at "lk") (by kernel_rfl) (by kernel_rfl) ?_
    refine args_nil ⟨X₄ 66 _ (by kernel_rfl), ?_⟩
    refine run_push X₄ (by show A.depth + 1 < _; lia) hh' I.k (lin _ _ N₄) (N₄.get 1 rfl) (N₄.get 2 rfl) (N₄.get 3 rfl) st₃ (by rw [List.length_map, List.length_take, I.o4]; lia) fun h₅ tk₅ oq₅ D₅ st₅ => ?_
    have N₅ := N₄.lex D₅
    refine wpAny_execs_nil (hpz _ _ ⟨.inl rfl, h₅, tk₅, [(L, o₄), (l.dl, od), (l.pl, opl), (l.q, oq₅)], rfl, ⟨o₄, _, oq₅, rfl, n₄, by walk_at "lk", by walk_at "lk", by walk_at "lk", by walk_at "lk", ?_⟩, N₅⟩)
    rw [List.take_add_one, hj, List.map_append]
    exact st₅
  · intro h₃ tk₃ _ hz2 N₃
    refine Classical.byContradiction fun hng => ?_
    obtain ⟨oL₃, m3, oq₃, rfl, n₃, p1, p2, p3, p4, st₃⟩ := hz2
    refine hng ?_
    have ez : (ord.map fun i => Value.str (wd e i 1) (tw i)).toArray.size = ord.length := by simp
    rw [ez, List.take_length] at st₃
    with_reducible refine x_assign ?_ (by kernel_rfl)
    refine r_dict0 (s := s) N₃ fun h₄ bd ob N₄ ib eb => ?_
    have hb1 : 183 ≤ bd := by rw [eb]; exact kk_size (XN _ _ N₃)
    replace N₄ := N₄.perm (List.perm_append_singleton _ _)
    refine r_store (s := s) N₄ 0 rfl n₃ (by kernel_rfl) (by kernel_rfl) fun h₅ o₅ tk₅ N₅ n₅ => ?_
    replace N₅ : Now h [l.dl, l.pl, l.q] h₅ [(L, o₅), (l.dl, od), (l.pl, opl), (l.q, oq₃), (bd, ob)] := N₅
    with_reducible refine x_assign ?_ (by kernel_rfl)
    refine r_dict0 (s := s) N₅ fun h₆ td ot N₆ it et => ?_
    have ht1 : 183 ≤ td := by rw [et]; exact kk_size (XN _ _ N₅)
    replace N₆ := N₆.perm (List.perm_append_singleton _ _)
    refine r_store (s := s) N₆ 0 rfl n₅ (by kernel_rfl) (by kernel_rfl) fun h₇ o₇ tk₇ N₇ n₇ => ?_
    let R4 : List (Addr × Obj) := [(L, o₇), (l.dl, od), (l.pl, opl), (l.q, oq₃), (bd, ob), (td, ot)]
    replace N₇ : Now h [l.dl, l.pl, l.q] h₇ R4 := N₇
    with_reducible refine x_assign ?_ (by kernel_rfl)
    with_reducible refine r_tuple ?_
    with_reducible refine args_cons ?_ (by kernel_rfl)
    with_reducible refine r_int (s := s) fun t0 tk8 => ?_
    with_reducible refine args_cons ?_ (by kernel_rfl)
    with_reducible refine r_int (s := s) fun t1 tk9 => ?_
    with_reducible refine args_cons ?_ (by kernel_rfl)
    with_reducible refine r_int (s := s) fun t2 tk10 => ?_
    with_reducible refine args_cons ?_ (by kernel_rfl)
    with_reducible refine r_int (s := s) fun t3 tk11 => ?_
    with_reducible refine args_cons ?_ (by kernel_rfl)
    refine r_dict0 (s := s) N₇ fun h₈ ec oc N₈ ic ecq => ?_
    have hc1 : 183 ≤ ec := by rw [ecq]; exact kk_size (XN _ _ N₇)
    replace N₈ := N₈.perm (List.perm_append_singleton _ _)
    let R5 : List (Addr × Obj) := [(L, o₇), (l.dl, od), (l.pl, opl), (l.q, oq₃), (bd, ob), (td, ot), (ec, oc)]
    replace N₈ : Now h [l.dl, l.pl, l.q] h₈ R5 := N₈
    refine args_nil ⟨by show 5 ≤ sizeLine; rw [sizeLine_eq]; lia, ?_⟩
    have N₉ := N₈.allocE (entO 0 0 0 0 t0 t1 t2 t3 ec) rfl
    have he1 := kk_size (XN _ _ N₈)
    refine r_store (s := s) (env := eR w L) N₉ 0 rfl n₇ (by kernel_rfl) (by kernel_rfl) fun h₁₀ o₁₀ tk₁₀ N₁₀ n₁₀ => ?_
    generalize h₈.objs.size = ed at N₁₀ he1 n₁₀
    replace N₁₀ : Now h [l.dl, l.pl, l.q] h₁₀ [(L, o₁₀), (l.dl, od), (l.pl, opl), (l.q, oq₃), (bd, ob), (td, ot), (ec, oc), (ed, entO 0 0 0 0 t0 t1 t2 t3 ec)] := N₁₀
    have nd := N₁₀.nd
    simp only [List.map_cons, List.map_nil, List.nodup_cons, List.mem_cons, List.not_mem_nil, or_false, not_or] at nd
    refine Classical.byContradiction fun hng => ?_
    obtain ⟨⟨a1, a2, a3, a4, a5, a6, a7⟩, ⟨b1, b2, b3, b4, b5, b6⟩, ⟨c1, c2, c3, c4, c5⟩, ⟨d1, d2, d3, d4⟩, ⟨e1, e2, e3⟩, ⟨f1, f2⟩, g1, _⟩ := nd
    refine hng ?_
    have htn : h.get? td = none := by
      rcases N₁₀.ok (td, ot) (by simp) with z | z
      · simp only [List.mem_cons, List.not_mem_nil, or_false] at z
        rcases z with z | z | z
        · exact absurd z.symm b4
        · exact absurd z.symm c3
        · exact absurd z.symm d2
      · exact z
    have offold : ∀ {a : Addr} {o : Obj}, h.get? a = some o → a ∉ [l.dl, l.pl, l.q] → a ∉ [L, l.dl, l.pl, l.q, td] := by
      intro a o ea hn
      simp only [List.mem_cons, List.not_mem_nil, or_false, not_or] at hn ⊢
      exact ⟨fun z => (by rw [z, hfr] at ea; cases ea), hn.1, hn.2.1, hn.2.2, fun z => (by rw [z, htn] at ea; cases ea)⟩
    have ok : RF.Ok w ⟨l, ln, L, td, ds, dp, ods, odp, sv, pv, m, tm, sz, e, pr⟩ := {
      k := I.k, off := fun p hp => offold (I.lin p hp) (I.k.off p.1 (by
        have e : l.fixed.map (·.1) = [l.lx, l.st, l.ds, l.rd, l.cp, l.ct, l.cd] := rfl
        rw [← e]; exact List.mem_map_of_mem hp))
      nd := by
        show [L, l.dl, l.pl, l.q, td].Nodup
        simp only [List.nodup_cons, List.mem_cons, List.not_mem_nil, or_false, not_or, List.nodup_nil, and_true, not_false_eq_true]
        exact ⟨⟨a1, a2, a3, a5⟩, ⟨b1, b2, b4⟩, ⟨c1, c3⟩, d2⟩
      hi := fun a ha => by
        have ha : a ∈ [L, l.dl, l.pl, l.q, td] := ha
        simp only [List.mem_cons, List.not_mem_nil, or_false] at ha
        rcases ha with rfl | rfl | rfl | rfl | rfl
        · exact lo_of hL
        · exact cc _ (by simp)
        · exact cc _ (by simp)
        · exact cc _ (by simp)
        · exact lo_of ht1
      ids := I.ids, idp := I.idp, hsz := I.hsz, hpr := I.hpr, s5 := I.s5, he := I.he, m1 := I.m1, m5 := I.m5 }
    refine Classical.byContradiction fun hng => ?_
    obtain ⟨f, hf⟩ : ∃ f : RF, f = ⟨l, ln, L, td, ds, dp, ods, odp, sv, pv, m, tm, sz, e, pr⟩ := ⟨_, rfl⟩
    refine hng ?_
    rw [← hf] at ok
    have emu : f.mu = [L, l.dl, l.pl, l.q, td] := by rw [hf]
    have imm : ∀ {a : Addr} {o : Obj}, h₁₀.get? a = some o → a ≠ L → a ≠ l.dl → a ≠ l.pl → a ≠ l.q → a ≠ td → 183 ≤ a → Imm h₁₀ f.mu a o := by
      intro a o ea n1 n2 n3 n4 n5 n6
      refine ⟨ea, ?_, n6⟩
      rw [emu]
      simp only [List.mem_cons, List.not_mem_nil, or_false, not_or]
      exact ⟨n1, n2, n3, n4, n5⟩
    have immo : ∀ {a : Addr} {o : Obj}, h.get? a = some o → a ∉ [l.dl, l.pl, l.q] → 183 ≤ a → Imm h₁₀ f.mu a o := by
      intro a o ea hn h183
      exact ⟨N₁₀.keep _ _ ea hn, by rw [emu]; exact offold ea hn, h183⟩
    have z1 : up (up (up m3 (S "book") (.ref bd)) (S "told") (.ref td)) (S "entry") (.ref ed) (S "lexer") = some (.ref l.lx) := by walk_at "lk"
    have z2 : up (up (up m3 (S "book") (.ref bd)) (S "told") (.ref td)) (S "entry") (.ref ed) (S "sizes") = some (.ref ds) := by walk_at "lk"
    have z3 : up (up (up m3 (S "book") (.ref bd)) (S "told") (.ref td)) (S "entry") (.ref ed) (S "prices") = some (.ref dp) := by walk_at "lk"
    have z4 : up (up (up m3 (S "book") (.ref bd)) (S "told") (.ref td)) (S "entry") (.ref ed) (S "most") = some (.int m tm) := by walk_at "lk"
    have z5 : up (up (up m3 (S "book") (.ref bd)) (S "told") (.ref td)) (S "entry") (.ref ed) (S "book") = some (.ref bd) := by walk_at "lk"
    have z6 : up (up (up m3 (S "book") (.ref bd)) (S "told") (.ref td)) (S "entry") (.ref ed) (S "told") = some (.ref td) := by walk_at "lk"
    have z7 : up (up (up m3 (S "book") (.ref bd)) (S "told") (.ref td)) (S "entry") (.ref ed) (S "entry") = some (.ref ed) := by walk_at "lk"
    have R₀ : RunAt w f (initR ord) (ord.map fun i => Value.str (wd e i 1) (tw i)) h₁₀ ⟨o₁₀, up (up (up m3 (S "book") (.ref bd)) (S "told") (.ref td)) (S "entry") (.ref ed), od, opl, oq₃, ot, bd, ob, [], ed, ec, oc, [], [], t0, t1, t2, t3⟩ := by
      subst hf
      exact {
        X := XN _ _ N₁₀, eL := N₁₀.get 0 rfl, nL := n₁₀, lin := lin _ _ N₁₀, edl := N₁₀.get 1 rfl, epl := N₁₀.get 2 rfl, eq := N₁₀.get 3 rfl, lex := st₃, etd := N₁₀.get 5 rfl, itd := it
        told := .nil
        ebd := imm (N₁₀.get 4 rfl) (fun z => a4 z.symm) (fun z => b3 z.symm) (fun z => c2 z.symm) (fun z => d1 z.symm) e1 hb1
        ibd := ib, bbd := rfl
        eed := imm (N₁₀.get 7 rfl) (fun z => a7 z.symm) (fun z => b6 z.symm) (fun z => c5 z.symm) (fun z => d4 z.symm) (fun z => f2 z.symm) he1
        eec := imm (N₁₀.get 6 rfl) (fun z => a6 z.symm) (fun z => b5 z.symm) (fun z => c4 z.symm) (fun z => d3 z.symm) (fun z => f1 z.symm) hc1
        iec := ic, bec := rfl, eds := immo I.eds.1 I.eds.2.1 I.eds.2.2, edp := immo I.edp.1 I.edp.2.1 I.edp.2.2
        q1 := z1, q2 := z2, q3 := z3, q4 := z4, q5 := z5, q6 := z6, q7 := z7 }
    have hi := init_ok I.o4 I.oi I.on I.s5
    have hvals : vals e (initR ord).q (ord.map fun i => Value.str (wd e i 1) (tw i)) := by
      have : ∀ o : List Nat, vals e (o.map fun i => (i, 1)) (o.map fun i => Value.str (wd e i 1) (tw i)) := by
        intro o
        induction o with
        | nil => exact .nil
        | cons a r ih => exact .cons ⟨tw a, rfl⟩ ih
      exact this ord
    have hLe : f.L = L := by rw [hf]
    have hle : f.l = l := by rw [hf]
    have N₁₁ := R₀.start ok
    with_reducible refine x_assign ?_ (by kernel_rfl)
    refine MethodCall_ ?_
    with_reducible refine ld (N₁₀.get 0 rfl) n₁₀ z1 (by kernel_rfl) (by kernel_rfl) ?_
    refine Classical.byContradiction fun hng => ?_
    obtain ⟨mL, p, t5, nq, io, lm, _, _, _⟩ := st₃.ex
    refine hng ?_
    have X₁₀ := XN _ _ N₁₀
    refine r_method (f := 59) X₁₀ ((lin _ _ N₁₀).at 0 rfl) (N₁₀.get 1 rfl) io.ns (by kernel_rfl) (by kernel_rfl) (by kernel_rfl) (by kernel_rfl) (method_none lm (by kernel_rfl)) ?_
    refine callWith_meth0 (o := obAt (KK w.params) 59) (fd := fnAt (KK w.params) 59) (by kernel_rfl) (X₁₀ 59 _ (by kernel_rfl)) ?_
    refine run_get X₁₀ (by show A.depth + 1 + 2 < _; lia) hh' I.k (lin _ _ N₁₀) (N₁₀.get 1 rfl) (N₁₀.get 2 rfl) (N₁₀.get 3 rfl) st₃ (by rw [List.length_map, I.o4]; lia) fun h₁₂ tk₁₂ v od₁₂ opl₁₂ oq₁₂ D₁₂ st₁₂ hv0 hv1 => ?_
    subst hf
    have N₁₂ := N₁₁.lex D₁₂
    refine r_store (s := s) N₁₂ 0 rfl n₁₀ (by kernel_rfl) (by kernel_rfl) fun h₁₃ o₁₃ tk₁₃ N₁₃ n₁₃ => ?_
    have R₁ := R₀.got ok N₁₃ n₁₃ st₁₂
    have Wd := word_at (m := up (up (up m3 (S "book") (.ref bd)) (S "told") (.ref td)) (S "entry") (.ref ed)) hvals hv0 hv1
    with_reducible refine wpAny_execs_cons ?_
    refine while_run ok hh' (by lia) hi.1 hi.2 R₁ Wd fun H' tk' d' k hk hqk Rk Nk => ?_
    refine x_ret ?_
    refine r_tuple ?_
    with_reducible refine args_cons ?_ (by kernel_rfl)
    refine ld (x := S "told") (v := .ref td) Rk.eL Rk.nL Rk.q6 (by kernel_rfl) (by kernel_rfl) ?_
    with_reducible refine args_cons ?_ (by kernel_rfl)
    refine ld (x := S "entry") (v := .ref d'.ed) Rk.eL Rk.nL Rk.q7 (by kernel_rfl) (by kernel_rfl) ?_
    refine args_nil ⟨by show 2 ≤ sizeLine; rw [sizeLine_eq]; lia, ?_⟩
    refine hQ ⟨l, ln, L, td, ds, dp, ods, odp, sv, pv, m, tm, sz, e, pr⟩ H' _ _ d' k _ rfl rfl rfl rfl rfl rfl hk hqk Rk (fun b o e => Heap.get?_push_of_some _ e) (Heap.get?_push_size _ rfl) fun b o eb hn => ?_
    exact Heap.get?_push_of_some _ (Nk.keep _ _ (N₁₃.keep _ _ (N₁₀.keep _ _ eb hn) (offold eb hn)) (offold eb hn))
end
end
section
open PySem PySem.W PySem.W.X PyProof.Rows
set_option maxHeartbeats 0
local macro_rules | `(tactic| x_close) => `(tactic| (
  refine $(Lean.mkIdent `hQ) _ _ _ _ _ _ _ _ _ _ _ _ _ _ _ _ _ _ _ _ _ _ _ (by assumption) rfl rfl rfl rfl rfl rfl rfl rfl ?_ rfl rfl rfl ?_ ?_ ?_ ?_ ?_ ?_ ?_ ?_ ?_ rfl rfl ?_ ?_
  all_goals kernel_rfl))
theorem stream_x {w : World} {h0 : Heap} {g : Array GenState} {d : Drawn} {t : Nat} {os : OsState} {tx : Str} {u : Tok} {env : Env} (X : (hd.heap_39 w.params).In h0) {Q E : Value → Shared → Prop}
   (hQ : ∀ (h' : Heap) (tk' : Nat) (news : List (Addr × Obj)) (ps : Array Value) (st ds rd cd pl cp ct : Addr) (ost ods ord ocd opl ocp oct : Obj) (fl fd : FuncData) (t1 : Tok) (hs : Int) (vs : Array Value),
      Mem h0 h' [(141, tableObj ps)] news → news[1]? = some (st, ost) → news[0]? = some (ds, ods) → news[8]? = some (rd, ord) → news[9]? = some (cd, ocd) → news[16]? = some (pl, opl) → news[17]? = some (cp, ocp) → news[18]? = some (ct, oct) →
      ost.cls = .type "function" → ost.dict = some ds → ost.data = .func fl → ods.data = .dict #[⟨hs, .str (S "read") t1, .ref rd⟩] 1 → ord.data = .func fd → fd.body = .stmts bRead → fd.scope = scRead → fd.params = pRead → fd.defaults = .none → fd.kwdefaults = .none →
      fd.closure.lookup (S "place") = some cp → fd.closure.lookup (S "text") = some ct → ocp.data = .cell (some (.ref pl)) → oct.data = .cell (some (.str tx u)) → fd.code = .ref cd → ocd.data = .fields vs → vs[1]?.map (fun v => v.isStr fd.qualname) = some true → opl = listObj #[.int 0 t] 0 → Q (.ref st) ⟨h', g, d, tk', os⟩) :
   wpAny (model PySem.Challenge.rw_re0030_01.row.prog w) (callerA.deeper env) (call (.ref 146) [.str tx u]) Q E ⟨h0, g, d, t, os⟩ := by
  revert X
  k_fill
  intro X
  x_run
end
section
open PySem PySem.W PySem.W.X PyProof.Rows PySem.Calls PySem.Spec PyProof
open LCg (NsObj lst)
set_option maxHeartbeats 1000000
noncomputable def bLaw : List Stmt := defBody "law" PR.main.body
noncomputable abbrev eW (w : World) (L : Addr) : Env := newEnv (fnAt (KK w.params) 182).scope L (fnAt (KK w.params) 182).globals (cellsFrom (L + 1) (fnAt (KK w.params) 182).scope.names []) ((fnAt (KK w.params) 182).qualname ++ ".<locals>.") (some 182) (fnAt (KK w.params) 182).code none (fnAt (KK w.params) 182).builtins
/-- the frame of the law and its cells: script names sizes words lexer books cells parts way -/
noncomputable abbrev lawObs (L : Addr) (oL : Obj) (v1 v2 v3 v4 v5 v6 v7 v8 v9 : Option Value) : List (Addr × Obj) :=
  [(L, oL), (L + 1, cellO v1), (L + 2, cellO v2), (L + 3, cellO v3), (L + 4, cellO v4), (L + 5, cellO v5), (L + 6, cellO v6), (L + 7, cellO v7), (L + 8, cellO v8), (L + 9, cellO v9)]
theorem snoc_fun {α β : Type} {f : Nat → α → β} {t : Nat → α} {i : Nat} {u : α} : ∃ t' : Nat → α, (List.range i).map (fun k => f k (t k)) ++ [f i u] = (List.range (i + 1)).map fun k => f k (t' k) := by
  refine ⟨fun k => if k = i then u else t k, ?_⟩
  rw [List.range_succ, List.map_append]
  congr 1
  · refine List.map_congr_left fun k hk => ?_
    have := List.mem_range.mp hk
    show f k (t k) = f k (if k = i then u else t k)
    rw [if_neg (by lia)]
  · simp
theorem get_fun {β : Type} {f : Nat → β} {n i : Nat} (hi : i < n) : ((List.range n).map f)[i]? = some (f i) := by
  rw [List.getElem?_map, List.getElem?_range hi]; rfl
theorem get_funA {β : Type} {f : Nat → β} {n i : Nat} (hi : i < n) : ((List.range n).map f).toArray[i]? = some (f i) := by
  rw [List.getElem?_toArray]; exact get_fun hi
theorem ints_fun {vs : List Value} {ns : List Int} (h : IntsAre vs ns) : ∃ p : List (Int × Tok), vs = p.map (fun q => Value.int q.1 q.2) ∧ p.length = ns.length := by
  induction h with
  | nil => exact ⟨[], rfl, rfl⟩
  | cons n t _ ih => obtain ⟨p, rfl, e⟩ := ih; exact ⟨(n, t) :: p, rfl, by simp [e]⟩
section
variable {w : World} {A : Around} {s : Shared} {h : Heap} {tk : Nat} {E : Value → Shared → Prop} {env : Env} {hb : Heap} {ch : List Addr} {obs : List (Addr × Obj)} {Q : Value → Shared → Prop}
theorem r_four {p pr pos : Pos} {k : Nat} {n : Nat} {K : Value → Shared → Prop} (X : (KK w.params).In h) (hk : env.scope.kind = .function) (hx : env.kindOf (S "range") = some .globalImplicit) (hg : env.globals = mainGlobals) (hbn : env.builtins = builtinsNs) (hn : n ≤ 1000)
    (he : starEach [.Constant (.int (n : Int)) k p] env = [(false, eval (.Constant (.int (n : Int)) k p) env)]) (N : Now hb ch h obs)
    (hq : ∀ h' tk' I oI, Now hb ch h' (obs ++ [(I, oI)]) → IsRangeIter h' I 0 n 1 → I ∉ ch → K (.ref I) (St s h' tk')) :
    wpAny (MM w) A (eval (.Call (.Name (S "range") pr) [.Constant (.int (n : Int)) k p] [] pos) env) (fun xv s₁ => wpAny (MM w) A (pyIter xv) K E s₁) E (St s h tk) :=
  r_range X hk hx hg hbn N hn he (fun _ hq' => r_int (s := s) fun t tk' => hq' t tk') hq
/-- [elt for k in range(n)], a value for each k -/
theorem lc4 {α : Type} [Inhabited α] (F : Nat → α → Value) {n : Nat} {elt : Expr} {x : Str} {px p pr pos rpos : Pos} {kk : Nat} {scope : Scope} {cl : List (Str × Addr)} (hh : A.handled = none) (X : (KK w.params).In h) (hk : env.scope.kind = .function) (hx : env.kindOf (S "range") = some .globalImplicit) (hg : env.globals = mainGlobals) (hbn : env.builtins = builtinsNs) (hn : n ≤ 1000)
    (he : starEach [.Constant (.int (n : Int)) kk p] env = [(false, eval (.Constant (.int (n : Int)) kk p) env)])
    (hclos : closureFor scope env = pure cl) (hkind : scope.kind = .function) (hnames : (scope.names.all fun y => !decide (y.2 = .local) || decide (scope.names.lookup y.1 = some .local)) = true) (hs : ∀ x, foldedSetIterable (.Call (.Name (S "range") pr) [.Constant (.int (n : Int)) kk p] [] rpos) env x = pure x)
    (hcell : (scope.names.all fun y => !decide (y.2 = .cell)) = true) (hxl : ∀ C, (compEnvC scope cl C env).kindOf x = some .local) (N : Now hb ch h obs)
    (turn : ∀ i t h' tk' C oC mC (ext : List (Addr × Obj)) (E' : Value → Shared → Prop), i < n → NsObj oC mC → mC x = some (.int (i : Nat) t) → h'.get? C = some oC → Now hb ch h' (obs ++ ext) →
      wpAny (MM w) A (eval elt (compEnvC scope cl C env)) (fun val s₄ => ∃ h'' tk'' u, s₄ = St s h'' tk'' ∧ val = F i u ∧ Now hb ch h'' (obs ++ ext)) E' (St s h' tk'))
    (done : ∀ h' tk' D (t : Nat → α), Now hb ch h' (obs ++ [(D, lst ((List.range n).map fun k => F k (t k)))]) → Q (.ref D) (St s h' tk')) :
    wpAny (MM w) A (eval (.ListComp elt [⟨.Name x px, .Call (.Name (S "range") pr) [.Constant (.int (n : Int)) kk p] [] rpos, [], 0⟩] scope pos) env) Q E (St s h tk) := by
  refine r_lc (cl := cl) hclos hkind hnames hs ?_
  refine r_four X hk hx hg hbn hn he N fun h₁ tk₁ I oI N₁ hI hIc => ?_
  let J16 : Nat → List (Addr × Obj) → List Value → Prop := fun i obs' items => obs' = obs ∧ ∃ t : Nat → α, items = (List.range i).map fun k => F k (t k)
  refine lcAll J16 (walks_range hh n) (fun i h e => ⟨_, e⟩) hIc hcell hkind hxl hn stays_range N₁ (by simpa using hI) ⟨rfl, fun _ => default, rfl⟩ ?_ ?_
  · intro i v h' tk' C D oC mC oI' _ items E' hi hz1 hz2 nC hC N'
    refine Classical.byContradiction fun hng => ?_
    obtain ⟨t, rfl⟩ := hz1
    obtain ⟨rfl, tf, rfl⟩ := hz2
    refine hng ?_
    refine wpAny_tests_nil ?_
    simp only [if_true]
    have eC : h'.get? C = some oC := N'.at_ (C, oC) (by simp)
    refine wpAny_mono (turn i t h' tk' C oC mC _ E' hi nC hC eC N') (fun val s₄ h₄ => ?_) fun _ _ e => e
    refine Classical.byContradiction fun hng => ?_
    obtain ⟨h'', tk'', u, rfl, rfl, N''⟩ := h₄
    refine hng ?_
    exact ⟨h'', tk'', _, rfl, ⟨rfl, snoc_fun⟩, N''⟩
  · rintro h' tk' C D oC mC _ items ⟨rfl, tf, rfl⟩ nC hC N'
    exact compEnd N' hC nC fun h₂ N₂ => done h₂ tk' D tf N₂
theorem stored_fun {i : Nat} {nm : Nat → Str} {g : Nat → Value} {v : Value} (hn : ∀ j, j < i → nm j ≠ nm i) : stored ((List.range i).map fun k => (nm k, g k)) (nm i) v = ((List.range i).map fun k => (nm k, g k)) ++ [(nm i, v)] := by
  refine stored_new ?_
  intro hm
  rw [List.map_map] at hm
  obtain ⟨j, hj, e⟩ := List.mem_map.mp hm
  exact hn j (List.mem_range.mp hj) e
/-- what the turn of a dict comprehension over range(n) has to show -/
noncomputable def DTurn (w : World) (A : Around) (s : Shared) (env : Env) (hb : Heap) (ch : List Addr) (obs : List (Addr × Obj)) {α : Type} (nm : Nat → Str) (F : Nat → α → Value) (n : Nat) (kx vx : Expr) (x : Str) (scope : Scope) (cl : List (Str × Addr)) : Prop :=
  ∀ i t h' tk' C oC mC (ext : List (Addr × Obj)) (E' : Value → Shared → Prop), i < n → NsObj oC mC → mC x = some (.int (i : Nat) t) → h'.get? C = some oC → Now hb ch h' (obs ++ ext) →
      wpAny (MM w) A (eval kx (compEnvC scope cl C env)) (fun kv s₄ => wpAny (MM w) A (eval vx (compEnvC scope cl C env)) (fun vv s₅ => ∃ h'' tk'' u, s₅ = St s h'' tk'' ∧ (SK w).is (nm i) kv = true ∧ vv = F i u ∧ Now hb ch h'' (obs ++ ext)) E' s₄) E' (St s h' tk')
theorem dcCore {α : Type} [Inhabited α] (nm : Nat → Str) (F : Nat → α → Value) {n : Nat} {kx vx : Expr} {x : Str} {px : Pos} {pos : Pos} {iter : Expr} {scope : Scope} {cl : List (Str × Addr)} {use : Option (Value → Sem Unit)} {I : Addr} {oI : Obj} (hh : A.handled = none) (hn : n ≤ 1000) (hnm : ∀ i j, i < n → j < n → nm i = nm j → i = j)
    (hkind : scope.kind = .function) (hcell : (scope.names.all fun y => !decide (y.2 = .cell)) = true) (hxl : ∀ C, (compEnvC scope cl C env).kindOf x = some .local) (N : Now hb ch h (obs ++ [(I, oI)])) (hI : IsRangeIter h I 0 n 1) (hIc : I ∉ ch)
    (turn : DTurn w A s env hb ch obs nm F n kx vx x scope cl)
    (done : ∀ h' tk' C D oC oD mC (t : Nat → α), NsObj oC mC → oD.IsDictOf (SK w) ((List.range n).map fun k => (nm k, F k (t k))) → h.objs.size ≤ D → C ∉ ch → Now hb ch h' ((obs ++ [(D, oD)]) ++ [(C, oC)]) → compPost (MM w) A E use Q (.ref D) C (.ok .next) (St s h' tk')) :
    CompG w A env E (.DictComp kx vx [⟨.Name x px, iter, [], 0⟩] scope pos) scope cl newDict use Q (.ref I) (St s h tk) := by
  let J17 : Nat → List (Addr × Obj) → List (Str × Value) → Prop := fun i obs' kvs => obs' = obs ∧ ∃ t : Nat → α, kvs = (List.range i).map fun k => (nm k, F k (t k))
  refine dcAll J17 (walks_range hh n) (fun i h e => ⟨_, e⟩) hIc hcell hkind hxl hn stays_range N (by simpa using hI) ⟨rfl, fun _ => default, rfl⟩ ?_ ?_
  · intro i v h' tk' C D oC mC oI' oD _ kvs E' hi hz3 hz4 nC hC N'
    refine Classical.byContradiction fun hng => ?_
    obtain ⟨t, rfl⟩ := hz3
    obtain ⟨rfl, tf, rfl⟩ := hz4
    refine hng ?_
    refine wpAny_tests_nil ?_
    simp only [if_true]
    have eC : h'.get? C = some oC := N'.at_ (C, oC) (by simp)
    refine wpAny_mono (turn i t h' tk' C oC mC _ E' hi nC hC eC N') (fun kv s₄ h₄ => wpAny_mono h₄ (fun vv s₅ h₅ => ?_) fun _ _ e => e) fun _ _ e => e
    refine Classical.byContradiction fun hng => ?_
    obtain ⟨h'', tk'', u, rfl, hkey, rfl, N''⟩ := h₅
    refine hng ?_
    refine ⟨nm i, h'', tk'', _, rfl, hkey, ⟨rfl, ?_⟩, N''⟩
    rw [stored_fun fun j hj e => Nat.ne_of_lt hj (hnm j i (Nat.lt_trans hj hi) hi e)]
    exact snoc_fun (f := fun k u => (nm k, F k u))
  · rintro h' tk' C D oC oD mC _ kvs ⟨rfl, tf, rfl⟩ nC iD hD hC N'
    exact done h' tk' C D oC oD mC tf nC iD hD hC N'
/-- {kx: vx for k in range(n)}, in an expression -/
theorem dc4 {α : Type} [Inhabited α] (nm : Nat → Str) (F : Nat → α → Value) {n : Nat} {kx vx : Expr} {x : Str} {px p pr pos rpos : Pos} {kk : Nat} {scope : Scope} {cl : List (Str × Addr)} (hh : A.handled = none) (X : (KK w.params).In h) (hk : env.scope.kind = .function) (hx : env.kindOf (S "range") = some .globalImplicit) (hg : env.globals = mainGlobals) (hbn : env.builtins = builtinsNs) (hn : n ≤ 1000) (hnm : ∀ i j, i < n → j < n → nm i = nm j → i = j)
    (he : starEach [.Constant (.int (n : Int)) kk p] env = [(false, eval (.Constant (.int (n : Int)) kk p) env)])
    (hclos : closureFor scope env = pure cl) (hkind : scope.kind = .function) (hnames : (scope.names.all fun y => !decide (y.2 = .local) || decide (scope.names.lookup y.1 = some .local)) = true) (hs : ∀ x, foldedSetIterable (.Call (.Name (S "range") pr) [.Constant (.int (n : Int)) kk p] [] rpos) env x = pure x)
    (hcell : (scope.names.all fun y => !decide (y.2 = .cell)) = true) (hxl : ∀ C, (compEnvC scope cl C env).kindOf x = some .local) (N : Now hb ch h obs)
    (turn : DTurn w A s env hb ch obs nm F n kx vx x scope cl)
    (done : ∀ h' tk' D oD (t : Nat → α), oD.IsDictOf (SK w) ((List.range n).map fun k => (nm k, F k (t k))) → 183 ≤ D → Now hb ch h' (obs ++ [(D, oD)]) → Q (.ref D) (St s h' tk')) (hc : ∀ a ∈ ch, Lo a) (Xb : (KK w.params).In hb) :
    wpAny (MM w) A (eval (.DictComp kx vx [⟨.Name x px, .Call (.Name (S "range") pr) [.Constant (.int (n : Int)) kk p] [] rpos, [], 0⟩] scope pos) env) Q E (St s h tk) := by
  refine r_dc (cl := cl) hclos hkind hnames hs ?_
  refine r_four X hk hx hg hbn hn he N fun h₁ tk₁ I oI N₁ hI hIc => ?_
  refine dcCore nm F hh hn hnm hkind hcell hxl N₁ hI hIc turn fun h' tk' C D oC oD mC t nC iD hD hC N' => ?_
  exact compEnd N' hC nC fun h₂ N₂ => done h₂ tk' D oD t iD (Nat.le_trans (kk_size (kk_keep Xb N₁ hc)) hD) N₂
/-- y = {kx: vx for k in range(n)}, y a local -/
theorem dcA4 {α : Type} [Inhabited α] (nm : Nat → Str) (F : Nat → α → Value) {n j : Nat} {oL : Obj} {m : Str → Option Value} {Q : Flow → Shared → Prop} {kx vx : Expr} {x y : Str} {px py p pr pos rpos spos : Pos} {kk : Nat} {scope : Scope} {cl : List (Str × Addr)} (hh : A.handled = none) (X : (KK w.params).In h) (hk : env.scope.kind = .function) (hx : env.kindOf (S "range") = some .globalImplicit) (hg : env.globals = mainGlobals) (hbn : env.builtins = builtinsNs) (hn : n ≤ 1000) (hnm : ∀ i j, i < n → j < n → nm i = nm j → i = j)
    (he : starEach [.Constant (.int (n : Int)) kk p] env = [(false, eval (.Constant (.int (n : Int)) kk p) env)])
    (hsw : swapsWith (.DictComp kx vx [⟨.Name x px, .Call (.Name (S "range") pr) [.Constant (.int (n : Int)) kk p] [] rpos, [], 0⟩] scope pos) (some (.Name y py)) spos.line env = pure true)
    (hclos : closureFor scope env = pure cl) (hkind : scope.kind = .function) (hnames : (scope.names.all fun y => !decide (y.2 = .local) || decide (scope.names.lookup y.1 = some .local)) = true) (hs : ∀ x, foldedSetIterable (.Call (.Name (S "range") pr) [.Constant (.int (n : Int)) kk p] [] rpos) env x = pure x)
    (hcell : (scope.names.all fun y => !decide (y.2 = .cell)) = true) (hxl : ∀ C, (compEnvC scope cl C env).kindOf x = some .local) (N : Now hb ch h obs)
    (hj : obs[j]? = some (env.locals, oL)) (hm : NsObj oL m) (hy : env.kindOf y = some .local) (hp : (env.scope.kind == .class || (env.scope.kind == .module && env.locals != env.globals)) = false)
    (turn : DTurn w A s env hb ch obs nm F n kx vx x scope cl)
    (done : ∀ h' tk' D oD oL' (t : Nat → α), oD.IsDictOf (SK w) ((List.range n).map fun k => (nm k, F k (t k))) → 183 ≤ D → NsObj oL' (up m y (.ref D)) → Now hb ch h' ((obs ++ [(D, oD)]).set j (env.locals, oL')) → Q .next (St s h' tk')) (hc : ∀ a ∈ ch, Lo a) (Xb : (KK w.params).In hb) :
    wpAny (MM w) A (exec (.Assign [.Name y py] (.DictComp kx vx [⟨.Name x px, .Call (.Name (S "range") pr) [.Constant (.int (n : Int)) kk p] [] rpos, [], 0⟩] scope pos) spos) env) Q E (St s h tk) := by
  refine r_dcA (cl := cl) hsw hclos hkind hnames hs ?_
  refine r_four X hk hx hg hbn hn he N fun h₁ tk₁ I oI N₁ hI hIc => ?_
  refine dcCore nm F hh hn hnm hkind hcell hxl N₁ hI hIc turn fun h' tk' C D oC oD mC t nC iD hD hC N' => ?_
  have hj' : (obs ++ [(D, oD)])[j]? = some (env.locals, oL) := by rw [List.getElem?_append_left (List.getElem?_eq_some_iff.mp hj).1]; exact hj
  exact compEndA N' hC nC hj' hm hy hp fun h₂ oL' tk₂ N₂ n₂ => done h₂ tk₂ D oD oL' t iD (Nat.le_trans (kk_size (kk_keep Xb N₁ hc)) hD) n₂ N₂
end
end
section
open PySem PySem.W PySem.W.X PyProof.Rows PySem.Calls PySem.Spec PyProof
open LCg (NsObj lst)
set_option maxHeartbeats 1000000
section
variable {w : World} {A : Around} {s : Shared} {h : Heap} {tk : Nat} {E : Value → Shared → Prop} {env : Env} {hb : Heap} {ch : List Addr} {obs : List (Addr × Obj)} {Q : Value → Shared → Prop}
/-- l[lo:hi:st], the slice object just made -/
theorem r_sliceL {value slice : Expr} {l : Addr} {vals : List (Int × Tok)} {vl vu vk : Value} {lo hi st : Option Int} (N : Now hb ch h obs) (hl : h.IsList l (vals.map fun p => Value.int p.1 p.2).toArray) (hz : vals.length ≤ 1000)
    (pl : IsPart vl lo) (pu : IsPart vu hi) (pk : IsPart vk st) (h0 : st ≠ some 0)
    (hq : ∀ (h' : Heap) D (vals' : List (Int × Tok)), Now hb ch h' obs → h'.IsList D (vals'.map fun p => Value.int p.1 p.2).toArray → Q (.ref D) (St s h' tk))
    (hs : subscripted slice false (.ref l) (.ref h.objs.size) = operate [.ref l, .ref h.objs.size] (getItem (.ref l) (.ref h.objs.size))) (ht : ∀ r, letTemporaryGo value (.ref l) r = pure ()) :
    wpAny (MM w) A (subscriptTail value slice (.ref l) (.ref h.objs.size)) Q E (St s (h.push { cls := .type "slice", data := .fields #[vl, vu, vk] }) tk) := by
  have N1 := N.allocE { cls := .type "slice", data := .fields #[vl, vu, vk] } rfl
  have N2 := N1.allocE { cls := .type "list", data := .seq (slicePick (vals.map fun p => Value.int p.1 p.2).toArray lo hi st) } rfl
  have hsz : (vals.map fun p => Value.int p.1 p.2).toArray.size ≤ sizeLine := by rw [List.size_toArray, List.length_map, sizeLine_eq]; lia
  have hi' : IntsAre (vals.map fun p => Value.int p.1 p.2) (vals.map (·.1)) := by
    clear hl hz hsz N1 N2
    induction vals with
    | nil => exact .nil
    | cons p r ih => exact .cons _ _ ih
  obtain ⟨p', e', _⟩ := ints_fun (hi'.pick lo hi st)
  refine subscriptTail_ops (s := St s (h.push { cls := .type "slice", data := .fields #[vl, vu, vk] }) tk) (hl.push _).typeIs list_getitem_lookup
    (wpAny_getItem_list_slice (s := St s (h.push { cls := .type "slice", data := .fields #[vl, vu, vk] }) tk) (hl.push _) (Heap.IsSliceOf.new ..) pl pu pk h0 ?_ hsz) hs ht
  refine hq _ _ p' (N2.sub ?_) ⟨_, Heap.get?_push_size _ rfl, rfl, 0, ?_⟩
  · rw [List.append_assoc]; exact List.sublist_append_left _ _
  · rw [← e', Array.toArray_toList]
theorem r_sumS {l : Addr} {vals : List (Int × Tok)} (hh : A.handled = none) (hl : h.IsList l (vals.map fun p => Value.int p.1 p.2).toArray) (N : Now hb ch h obs)
    (hq : ∀ h' tk' t x, Now hb ch h' obs → Q (.int x t) (St s h' tk')) : wpAny (MM w) A (call (.builtin "sum") [.ref l]) Q E (St s h tk) :=
  r_sumL hh hl N fun h' tk' t N' => hq h' tk' t _ N'
end
noncomputable def szN (c : Nat → Int) (k : Nat) : Nat := ((c k).fmod 5 + 1).toNat
noncomputable def eN (c : Nat → Int) (k : Nat) : Nat := if ((c k).fdiv 5).fmod 2 = 0 then 10 else 13
noncomputable def bN (c : Nat → Int) (k : Nat) : Bool := decide (((c k).fdiv 10).fmod 2 = 1)
noncomputable def textOf (c : Nat → Int) : Str := Txt.join (S "") ((List.range 4).map fun k => spelled (wd (eN c) k 1) (bN c k))
theorem fmod_bounds (x : Int) {n : Int} (hn : 0 < n) : 0 ≤ x.fmod n ∧ x.fmod n < n := ⟨Int.fmod_nonneg_of_pos x hn, Int.fmod_lt_of_pos x hn⟩
theorem szN_eq (c : Nat → Int) (k : Nat) : (c k).fmod 5 + 1 = (szN c k : Nat) := by
  have := fmod_bounds (c k) (n := 5) (by decide)
  unfold szN; lia
theorem szN_bd (c : Nat → Int) (k : Nat) : 1 ≤ szN c k ∧ szN c k ≤ 5 := by
  have := fmod_bounds (c k) (n := 5) (by decide)
  unfold szN; lia
theorem eN_or (c : Nat → Int) (k : Nat) : eN c k = 10 ∨ eN c k = 13 := by unfold eN; split <;> simp
section
variable {w : World} {A : Around} {s : Shared} {E : Value → Shared → Prop} {Q : Flow → Shared → Prop} {hb h : Heap} {tk : Nat} {L sc : Addr} {oL : Obj}
theorem law1 (X : (KK w.params).In hb) (hh : A.handled = none) {p : List (Int × Tok)} (hsc : hb.IsList sc (p.map fun q => Value.int q.1 q.2).toArray) (hp : p.length ≤ 63)
    (N : Now hb [] h (lawObs L oL (some (.ref sc)) none none none none none none none none)) (nL : NsObj oL (fun _ => none))
    (hq : ∀ h' tk' oL' T tT (c : Nat → Int × Tok) (tn tp : Nat → Tok) ca na pa,
      Now hb [] h' (lawObs L oL' (some (.ref sc)) (some (.ref na)) none none none none (some (.ref ca)) (some (.ref pa)) none ++
        [(ca, lst ((List.range 4).map fun k => .int (c k).1 (c k).2)), (na, listObj ((List.range 4).map fun k => Value.str (nmL k) (tn k)).toArray 0), (pa, lst ((List.range 4).map fun k => .int (szN (fun k => (c k).1) k : Nat) (tp k)))]) →
      NsObj oL' (up (fun _ => none) (S "total") (.int T tT)) → wpAny (MM w) A (execs (bLaw.drop 4) (eW w L)) Q E (St s h' tk')) :
    wpAny (MM w) A (execs bLaw (eW w L)) Q E (St s h tk) := by
  let R28 : List (Addr × Obj) := lawObs L oL (some (.ref sc)) none none none none none none none none
  replace N : Now hb [] h R28 := N
  have XN : ∀ {h' : Heap} {obs : List (Addr × Obj)}, Now hb [] h' obs → (KK w.params).In h' := fun N' => kk_keep X N' (by simp)
  have lS : ∀ {h' : Heap} {obs : List (Addr × Obj)}, Now hb [] h' obs → h'.IsList sc (p.map fun q => Value.int q.1 q.2).toArray := fun N' => let ⟨o, e, r⟩ := hsc; ⟨o, N'.keep _ _ e (by simp), r⟩
  have ld : ∀ {x : Str} {v : Value} {px : Pos} {Q' E' : Value → Shared → Prop} {hx : Heap} {tkx : Nat} {oLx : Obj} {mx : Str → Option Value}, hx.get? L = some oLx → NsObj oLx mx → mx x = some v → (eW w L).kindOf x = some .local → (x == ("__debug__" : Str)) = false → Q' v (St s hx tkx) →
      wpAny (MM w) A (eval (.Name x px) (eW w L)) Q' E' (St s hx tkx) := fun e nl hv hk hd q => r_name (env := eW w L) e nl hv (by kernel_rfl) hk q hd
  conv => arg 3; arg 1; whnf
  with_reducible refine x_assign ?_ (by kernel_rfl)
  refine lc4 (n := 4) (cl := [(S "script", L + 1)]) (fun _ (u : Int × Tok) => .int u.1 u.2) hh (XN N) (by kernel_rfl) (by kernel_rfl) (by kernel_rfl) (by kernel_rfl) (by decide) (by kernel_rfl) (by kernel_rfl) (by kernel_rfl) (by kernel_rfl) (by intro _; kernel_rfl) (by kernel_rfl) (by intro _; kernel_rfl) N ?_ fun h₁ tk₁ ca c N₁ => ?_
  · intro i t h' tk' C oC mC ext E' hi nC hC eC N'
    with_reducible refine wpAny_BinOp ?_
    with_reducible refine Subscript_ ?_
    with_reducible refine r_tuple (s := s) ?_
    with_reducible refine args_cons ?_ (by kernel_rfl)
    with_reducible refine r_int (s := s) fun t1 tk1 => ?_
    with_reducible refine args_cons ?_ (by kernel_rfl)
    with_reducible refine r_int (s := s) fun t2 tk2 => ?_
    with_reducible refine args_cons ?_ (by kernel_rfl)
    with_reducible refine r_int (s := s) fun t3 tk3 => ?_
    with_reducible refine args_cons ?_ (by kernel_rfl)
    with_reducible refine r_int (s := s) fun t4 tk4 => ?_
    refine args_nil ⟨by simp [sizeLine_eq], ?_⟩
    have N2 := N'.allocE { cls := .type "tuple", data := .seq #[.int 7 t1, .int 25 t2, .int 13 t3, .int 41 t4] } rfl
    have eC2 := Heap.get?_push_of_some { cls := .type "tuple", data := .seq #[.int 7 t1, .int 25 t2, .int 13 t3, .int 41 t4] } eC
    refine r_name (s := s) (v := .int (i : Nat) t) eC2 nC hC (by kernel_rfl) (by kernel_rfl) ?_ (by kernel_rfl)
    have hit : ∃ x tx, (#[.int 7 t1, .int 25 t2, .int 13 t3, .int 41 t4] : Array Value)[i]? = some (.int x tx) := by
      have : i = 0 ∨ i = 1 ∨ i = 2 ∨ i = 3 := by lia
      rcases this with rfl | rfl | rfl | rfl <;> exact ⟨_, _, rfl⟩
    obtain ⟨x, tx, hit⟩ := hit
    refine r_itemT2 (s := s) (items := #[.int 7 t1, .int 25 t2, .int 13 t3, .int 41 t4]) ⟨_, Heap.get?_push_size _ rfl, rfl, _, rfl⟩ (by lia) hit ?_ (by kernel_rfl)
    have N3 := N2.drop
    with_reducible refine r_callB (s := s) (id := "sum") (XN N3) (by kernel_rfl) (by kernel_rfl) (by kernel_rfl) (by kernel_rfl) (by kernel_rfl) (by kernel_rfl) (by kernel_rfl) (by kernel_rfl) ?_ (by kernel_rfl)
    with_reducible refine args_cons ?_ (by kernel_rfl)
    with_reducible refine Subscript_ ?_
    refine r_cell (s := s) (c := L + 1) (v := .ref sc) (by kernel_rfl) (by kernel_rfl) (by kernel_rfl) (N3.get 1 rfl) ?_ (by kernel_rfl)
    with_reducible refine wpAny_Slice ?_
    with_reducible refine evalPart_some_step ?_
    refine r_name (s := s) (v := .int (i : Nat) t) eC2 nC hC (by kernel_rfl) (by kernel_rfl) ?_ (by kernel_rfl)
    rw [evalPart_none]
    with_reducible refine wpAny_pure ?_
    with_reducible refine evalPart_some_step ?_
    with_reducible refine r_int (s := s) fun t5 tk5 => ?_
    refine r_sliceL (s := s) (lo := some (i : Int)) (hi := none) (st := some 4) N3 (lS N3) (by lia) (.int _ _) .none (.int _ _) (by decide) (fun h4 D vals' N4 l4 => ?_) (by kernel_rfl) (by intro _; kernel_rfl)
    with_reducible refine args_nil ?_
    with_reducible refine r_sumS hh l4 N4 fun h5 tk5 t6 x2 N5 => ?_
    with_reducible refine r_add (s := s) fun t7 tk7 => ?_
    exact ⟨_, _, (_, _), rfl, rfl, N5⟩
  refine r_storeC (env := eW w L) (s := s) (c := L + 7) N₁ 7 rfl (by kernel_rfl) (by kernel_rfl) (by kernel_rfl) fun h₂ N₂ => ?_
  let R30 : List (Addr × Obj) := lawObs L oL (some (.ref sc)) none none none none none (some (.ref ca)) none none ++ [(ca, lst ((List.range 4).map fun k => .int (c k).1 (c k).2))]
  replace N₂ : Now hb [] h₂ R30 := N₂
  with_reducible refine x_assign ?_ (by kernel_rfl)
  with_reducible refine r_callB (s := s) (id := "sum") (XN N₂) (by kernel_rfl) (by kernel_rfl) (by kernel_rfl) (by kernel_rfl) (by kernel_rfl) (by kernel_rfl) (by kernel_rfl) (by kernel_rfl) ?_ (by kernel_rfl)
  with_reducible refine args_cons ?_ (by kernel_rfl)
  refine r_cell (s := s) (c := L + 1) (v := .ref sc) (by kernel_rfl) (by kernel_rfl) (by kernel_rfl) (N₂.get 1 rfl) ?_ (by kernel_rfl)
  with_reducible refine args_nil ?_
  with_reducible refine r_sumS hh (lS N₂) N₂ fun h₃ tk₃ tT T N₃ => ?_
  refine r_store (s := s) N₃ 0 rfl nL (by kernel_rfl) (by kernel_rfl) fun h₄ o₄ tk₄ N₄ n₄ => ?_
  let R31 : List (Addr × Obj) := lawObs L o₄ (some (.ref sc)) none none none none none (some (.ref ca)) none none ++ [(ca, lst ((List.range 4).map fun k => .int (c k).1 (c k).2))]
  replace N₄ : Now hb [] h₄ R31 := N₄
  with_reducible refine x_assign ?_ (by kernel_rfl)
  with_reducible refine r_list (s := St s h₄ tk₄) ?_
  with_reducible refine args_cons ?_ (by kernel_rfl)
  with_reducible refine r_str (s := s) fun t1 tk1 => ?_
  with_reducible refine args_cons ?_ (by kernel_rfl)
  with_reducible refine r_str (s := s) fun t2 tk2 => ?_
  with_reducible refine args_cons ?_ (by kernel_rfl)
  with_reducible refine r_str (s := s) fun t3 tk3 => ?_
  with_reducible refine args_cons ?_ (by kernel_rfl)
  with_reducible refine r_str (s := s) fun t4 tk4 => ?_
  refine args_nil ⟨by simp [sizeLine_eq], ?_⟩
  have N₅ := N₄.allocE (listObj #[.str (S "a") t1, .str (S "b") t2, .str (S "c") t3, .str (S "d") t4] 0) rfl
  let tn : Nat → Tok := fun k => [t1, t2, t3, t4].getD k 0
  have en : listObj #[.str (S "a") t1, .str (S "b") t2, .str (S "c") t3, .str (S "d") t4] 0 = listObj ((List.range 4).map fun k => Value.str (nmL k) (tn k)).toArray 0 := by kernel_rfl
  rw [en] at N₅
  refine r_storeC (env := eW w L) (s := s) (c := L + 2) N₅ 2 rfl (by kernel_rfl) (by kernel_rfl) (by kernel_rfl) fun h₆ N₆ => ?_
  generalize h₄.objs.size = na at N₆ ⊢
  replace N₆ : Now hb [] h₆ (lawObs L o₄ (some (.ref sc)) (some (.ref na)) none none none none (some (.ref ca)) none none ++ [(ca, lst ((List.range 4).map fun k => .int (c k).1 (c k).2)), (na, listObj ((List.range 4).map fun k => Value.str (nmL k) (tn k)).toArray 0)]) := N₆
  clear en
  generalize tn = tn at N₆ ⊢
  with_reducible refine x_assign ?_ (by kernel_rfl)
  refine r_lc (cl := []) (by kernel_rfl) (by kernel_rfl) (by kernel_rfl) (by intro _; kernel_rfl) ?_
  refine r_cell (env := eW w L) (s := s) (c := L + 7) (v := .ref ca) (by kernel_rfl) (by kernel_rfl) (by kernel_rfl) (N₆.get 7 rfl) ?_ (by kernel_rfl)
  refine r_iterL N₆ (items := ((List.range 4).map fun k => Value.int (c k).1 (c k).2).toArray) ⟨_, N₆.get 10 rfl, rfl, _, rfl⟩ fun h₇ I oI N₇ hI hl₇ hIc hne => ?_
  refine lcAll (fun i obs' items => obs' = (lawObs L o₄ (some (.ref sc)) (some (.ref na)) none none none none (some (.ref ca)) none none ++ [(ca, lst ((List.range 4).map fun k => .int (c k).1 (c k).2)), (na, listObj ((List.range 4).map fun k => Value.str (nmL k) (tn k)).toArray 0)]) ∧
      ∃ t : Nat → Tok, items = (List.range i).map fun k => .int (szN (fun k => (c k).1) k : Nat) (t k))
    (Walks.list hh I ca hne _) (fun i h ⟨⟨o, e, _⟩, _⟩ => ⟨o, e⟩) hIc (by kernel_rfl) (by kernel_rfl) (by intro C; kernel_rfl) (by simp)
    (stays_list fun i obs' h' ⟨_, e, _⟩ ho _ => ⟨_, ho (ca, lst ((List.range 4).map fun k => .int (c k).1 (c k).2)) (by rw [e]; simp), rfl, _, rfl⟩) N₇ ⟨hI, hl₇⟩ ⟨rfl, fun _ => 0, rfl⟩ ?_ ?_
  · rintro i v h' tk' C D oC mC oI' _ items E' hi hP ⟨rfl, tf, rfl⟩ nC hC N'
    have hi4 : i < 4 := by simpa using hi
    rw [get_funA hi4] at hP
    obtain rfl := Option.some.inj hP
    with_reducible refine wpAny_tests_nil ?_
    simp only [if_true]
    with_reducible refine wpAny_BinOp ?_
    with_reducible refine wpAny_BinOp ?_
    refine r_name (s := s) (v := .int (c i).1 (c i).2) (N'.get 13 rfl) nC hC (by kernel_rfl) (by kernel_rfl) ?_ (by kernel_rfl)
    with_reducible refine r_int (s := s) fun t5 tk5 => ?_
    refine r_mod (s := s) (by decide) fun t6 tk6 => ?_
    with_reducible refine r_int (s := s) fun t7 tk7 => ?_
    with_reducible refine r_add (s := s) fun t8 tk8 => ?_
    refine ⟨_, _, _, rfl, ⟨rfl, ?_⟩, N'⟩
    rw [szN_eq (fun k => (c k).1) i]
    exact snoc_fun (f := fun k u => Value.int (szN (fun k => (c k).1) k : Nat) u)
  · rintro h' tk' C D oC mC _ items ⟨rfl, tf, rfl⟩ nC hC N'
    with_reducible refine compEnd N' hC nC fun h₈ N₈ => ?_
    refine r_storeC (env := eW w L) (s := s) (c := L + 8) N₈ 8 rfl (by kernel_rfl) (by kernel_rfl) (by kernel_rfl) fun h₉ N₉ => ?_
    exact hq h₉ _ o₄ T tT c tn tf ca na D N₉ n₄
end
end
section
open PySem PySem.W PySem.W.X PyProof.Rows PySem.Calls PySem.Spec PyProof
open LCg (NsObj lst)
set_option maxHeartbeats 1000000
/-- a word as it stands in the text -/
noncomputable def spF (k e : Nat) (b : Bool) : Str := if b then ⟨#[46, 97 + k, 92, e, 9]⟩ else ⟨#[34, 46, 97 + k, e, 34, 9]⟩
theorem spelled_all : ∀ k ∈ [0, 1, 2, 3], ∀ e ∈ [10, 13], ∀ b ∈ [false, true], (spelled (wordF (97 + k) e) b == spF k e b) = true := by decide +kernel
theorem spelled_eq {k e : Nat} {b : Bool} (hk : k < 4) (he : e = 10 ∨ e = 13) : spelled (wordF (97 + k) e) b = spF k e b := by
  with_reducible refine eq_of_beq (spelled_all k ?_ e ?_ b ?_)
  · have : k = 0 ∨ k = 1 ∨ k = 2 ∨ k = 3 := by lia
    rcases this with rfl | rfl | rfl | rfl <;> simp
  · rcases he with rfl | rfl <;> simp
  · cases b <;> simp
theorem spF_len (k e : Nat) (b : Bool) : 5 ≤ (spF k e b).length ∧ (spF k e b).length ≤ 6 := by
  unfold spF
  cases b <;> simp [Str.length]
theorem word_all : ∀ k ∈ [0, 1, 2, 3], ((S "." ++ letter (97 + k) ++ Txt.item (S "\n\r") 0 == wordF (97 + k) 10) && (S "." ++ letter (97 + k) ++ Txt.item (S "\n\r") 1 == wordF (97 + k) 13)) = true := by decide +kernel
theorem word_eq (c : Nat → Int) {k : Nat} (hk : k < 4) : S "." ++ nmL k ++ Txt.item (S "\n\r") (((c k).fdiv 5).fmod 2) = wd (eN c) k 1 := by
  have hm : k ∈ [0, 1, 2, 3] := by
    have : k = 0 ∨ k = 1 ∨ k = 2 ∨ k = 3 := by lia
    rcases this with rfl | rfl | rfl | rfl <;> simp
  have := word_all k hm
  rw [Bool.and_eq_true] at this
  have hb := fmod_bounds ((c k).fdiv 5) (n := 2) (by decide)
  unfold wd eN nmL
  rw [if_pos rfl]
  by_cases q : ((c k).fdiv 5).fmod 2 = 0
  · rw [if_pos q, q]; exact eq_of_beq this.1
  · have q1 : ((c k).fdiv 5).fmod 2 = 1 := by lia
    rw [if_neg q, q1]; exact eq_of_beq this.2
theorem wd_one (c : Nat → Int) (k : Nat) : wd (eN c) k 1 = wordF (97 + k) (eN c k) := by unfold wd; rw [if_pos rfl]
theorem textOf_eq (c : Nat → Int) : textOf c = Txt.join (S "") ((List.range 4).map fun k => spF k (eN c k) (bN c k)) := by
  unfold textOf
  congr 1
  with_reducible refine List.map_congr_left fun k hk => ?_
  rw [wd_one]; exact spelled_eq (List.mem_range.mp hk) (eN_or c k)
theorem joinOk_text (c : Nat → Int) : JoinOk (S "") ((List.range 4).map fun k => spelled (wd (eN c) k 1) (bN c k)) = true := by
  have e : ((List.range 4).map fun k => spelled (wd (eN c) k 1) (bN c k)) = (List.range 4).map fun k => spF k (eN c k) (bN c k) := by
    with_reducible refine List.map_congr_left fun k hk => ?_
    rw [wd_one]; exact spelled_eq (List.mem_range.mp hk) (eN_or c k)
  rw [e]
  unfold JoinOk
  rw [Bool.not_eq_true']
  refine StrLaws.joinFits (B := 6) (fun y hy => ?_) (by have : (S "").length = 0 := rfl; simp [this])
  obtain ⟨k, _, rfl⟩ := List.mem_map.mp hy
  exact (spF_len _ _ _).2
section
variable {w : World} {A : Around} {s : Shared} {E : Value → Shared → Prop} {Q : Flow → Shared → Prop} {hb h : Heap} {tk : Nat} {L sc : Addr} {oL : Obj} {m : Str → Option Value}
theorem law2 (X : (KK w.params).In hb) (hh : A.handled = none) (hroom : A.depth + 1 < recursionLimit) {vs : Value} {c : Nat → Int} {tc tn tp : Nat → Tok} {ca na pa : Addr} 
    (N : Now hb [] h (lawObs L oL (some vs) (some (.ref na)) none none none none (some (.ref ca)) (some (.ref pa)) none ++
        [(ca, lst ((List.range 4).map fun k => .int (c k) (tc k))), (na, listObj ((List.range 4).map fun k => Value.str (nmL k) (tn k)).toArray 0), (pa, lst ((List.range 4).map fun k => .int (szN c k : Nat) (tp k)))])) (nL : NsObj oL m)
    (hq : ∀ h' tk' oL' ods odp (ts tq tw : Nat → Tok) tt ds dp wa,
      Now hb [] h' (lawObs L oL' (some vs) (some (.ref na)) (some (.ref ds)) (some (.ref wa)) none none (some (.ref ca)) (some (.ref pa)) none ++
        [(ca, lst ((List.range 4).map fun k => .int (c k) (tc k))), (na, listObj ((List.range 4).map fun k => Value.str (nmL k) (tn k)).toArray 0), (pa, lst ((List.range 4).map fun k => .int (szN c k : Nat) (tp k))),
          (ds, ods), (dp, odp), (wa, lst ((List.range 4).map fun k => .str (wd (eN c) k 1) (tw k)))]) →
      NsObj oL' (up (up m (S "prices") (.ref dp)) (S "text") (.str (textOf c) tt)) → ods.IsDictOf (SK w) ((List.range 4).map fun k => (nmL k, Value.int (szN c k : Nat) (ts k))) → odp.IsDictOf (SK w) ((List.range 4).map fun k => (nmL k, Value.int (c k) (tq k))) →
      183 ≤ ds → 183 ≤ dp → wpAny (MM w) A (execs (bLaw.drop 8) (eW w L)) Q E (St s h' tk')) :
    wpAny (MM w) A (execs (bLaw.drop 4) (eW w L)) Q E (St s h tk) := by
  let R16 : List (Addr × Obj) := lawObs L oL (some vs) (some (.ref na)) none none none none (some (.ref ca)) (some (.ref pa)) none ++ [(ca, lst ((List.range 4).map fun k => .int (c k) (tc k))), (na, listObj ((List.range 4).map fun k => Value.str (nmL k) (tn k)).toArray 0), (pa, lst ((List.range 4).map fun k => .int (szN c k : Nat) (tp k)))]
  replace N : Now hb [] h R16 := N
  have XN : ∀ {h' : Heap} {obs : List (Addr × Obj)}, Now hb [] h' obs → (KK w.params).In h' := fun N' => kk_keep X N' (by simp)
  have hnm : ∀ i j, i < 4 → j < 4 → nmL i = nmL j → i = j := fun i j _ _ e => nmL_inj e
  conv => arg 3; arg 1; whnf
  with_reducible refine x_assign ?_ (by kernel_rfl)
  refine dc4 (n := 4) (cl := [(S "parts", L + 8), (S "names", L + 2)]) nmL (fun k (u : Tok) => .int (szN c k : Nat) u) hh (XN N) (by kernel_rfl) (by kernel_rfl) (by kernel_rfl) (by kernel_rfl) (by decide) hnm (by kernel_rfl) (by kernel_rfl) (by kernel_rfl) (by kernel_rfl) (by intro _; kernel_rfl) (by kernel_rfl) (by intro _; kernel_rfl) N ?_ (fun h₁ tk₁ ds ods ts ids hds N₁ => ?_) (by simp) X
  · intro i t h' tk' C oC mC ext E' hi nC hC eC N'
    with_reducible refine Subscript_ ?_
    refine r_cell (s := s) (c := L + 2) (v := .ref na) (by kernel_rfl) (by kernel_rfl) (by kernel_rfl) (N'.get 2 rfl) ?_ (by kernel_rfl)
    refine r_name (s := s) (v := .int (i : Nat) t) eC nC hC (by kernel_rfl) (by kernel_rfl) ?_ (by kernel_rfl)
    refine r_itemL (s := s) (items := ((List.range 4).map fun k => Value.str (nmL k) (tn k)).toArray) ⟨_, N'.get 11 rfl, rfl, _, rfl⟩ (by lia) (get_funA hi) ?_ (by kernel_rfl) (by intro _; kernel_rfl)
    with_reducible refine Subscript_ ?_
    refine r_cell (s := s) (c := L + 8) (v := .ref pa) (by kernel_rfl) (by kernel_rfl) (by kernel_rfl) (N'.get 8 rfl) ?_ (by kernel_rfl)
    refine r_name (s := s) (v := .int (i : Nat) t) eC nC hC (by kernel_rfl) (by kernel_rfl) ?_ (by kernel_rfl)
    refine r_itemL (s := s) (items := ((List.range 4).map fun k => Value.int (szN c k : Nat) (tp k)).toArray) ⟨_, N'.get 12 rfl, rfl, _, rfl⟩ (by lia) (get_funA hi) ?_ (by kernel_rfl) (by intro _; kernel_rfl)
    exact ⟨_, _, tp i, rfl, is_key _ _, rfl, N'⟩
  refine r_storeC (env := eW w L) (s := s) (c := L + 3) N₁ 3 rfl (by kernel_rfl) (by kernel_rfl) (by kernel_rfl) fun h₂ N₂ => ?_
  replace N₂ : Now hb [] h₂ (lawObs L oL (some vs) (some (.ref na)) (some (.ref ds)) none none none (some (.ref ca)) (some (.ref pa)) none ++
        [(ca, lst ((List.range 4).map fun k => .int (c k) (tc k))), (na, listObj ((List.range 4).map fun k => Value.str (nmL k) (tn k)).toArray 0), (pa, lst ((List.range 4).map fun k => .int (szN c k : Nat) (tp k))), (ds, ods)]) := N₂
  with_reducible refine wpAny_execs_cons ?_
  refine dcA4 (n := 4) (j := 0) (cl := [(S "names", L + 2), (S "cells", L + 7)]) nmL (fun k (u : Tok) => .int (c k) u) hh (XN N₂) (by kernel_rfl) (by kernel_rfl) (by kernel_rfl) (by kernel_rfl) (by decide) hnm (by kernel_rfl) (by kernel_rfl) (by kernel_rfl) (by kernel_rfl) (by kernel_rfl) (by intro _; kernel_rfl) (by kernel_rfl) (by intro _; kernel_rfl) N₂ rfl nL (by kernel_rfl) (by kernel_rfl) ?_ (fun h₃ tk₃ dp odp o₃ tq idp hdp n₃ N₃ => ?_) (by simp) X
  · intro i t h' tk' C oC mC ext E' hi nC hC eC N'
    with_reducible refine Subscript_ ?_
    refine r_cell (s := s) (c := L + 2) (v := .ref na) (by kernel_rfl) (by kernel_rfl) (by kernel_rfl) (N'.get 2 rfl) ?_ (by kernel_rfl)
    refine r_name (s := s) (v := .int (i : Nat) t) eC nC hC (by kernel_rfl) (by kernel_rfl) ?_ (by kernel_rfl)
    refine r_itemL (s := s) (items := ((List.range 4).map fun k => Value.str (nmL k) (tn k)).toArray) ⟨_, N'.get 11 rfl, rfl, _, rfl⟩ (by lia) (get_funA hi) ?_ (by kernel_rfl) (by intro _; kernel_rfl)
    with_reducible refine Subscript_ ?_
    refine r_cell (s := s) (c := L + 7) (v := .ref ca) (by kernel_rfl) (by kernel_rfl) (by kernel_rfl) (N'.get 7 rfl) ?_ (by kernel_rfl)
    refine r_name (s := s) (v := .int (i : Nat) t) eC nC hC (by kernel_rfl) (by kernel_rfl) ?_ (by kernel_rfl)
    refine r_itemL (s := s) (items := ((List.range 4).map fun k => Value.int (c k) (tc k)).toArray) ⟨_, N'.get 10 rfl, rfl, _, rfl⟩ (by lia) (get_funA hi) ?_ (by kernel_rfl) (by intro _; kernel_rfl)
    exact ⟨_, _, tc i, rfl, is_key _ _, rfl, N'⟩
  replace N₃ : Now hb [] h₃ (lawObs L o₃ (some vs) (some (.ref na)) (some (.ref ds)) none none none (some (.ref ca)) (some (.ref pa)) none ++
        [(ca, lst ((List.range 4).map fun k => .int (c k) (tc k))), (na, listObj ((List.range 4).map fun k => Value.str (nmL k) (tn k)).toArray 0), (pa, lst ((List.range 4).map fun k => .int (szN c k : Nat) (tp k))), (ds, ods), (dp, odp)]) := N₃
  with_reducible refine x_assign ?_ (by kernel_rfl)
  refine lc4 (n := 4) (cl := [(S "names", L + 2), (S "cells", L + 7)]) (fun k (u : Tok) => .str (wd (eN c) k 1) u) hh (XN N₃) (by kernel_rfl) (by kernel_rfl) (by kernel_rfl) (by kernel_rfl) (by decide) (by kernel_rfl) (by kernel_rfl) (by kernel_rfl) (by kernel_rfl) (by intro _; kernel_rfl) (by kernel_rfl) (by intro _; kernel_rfl) N₃ ?_ fun h₄ tk₄ wa tw N₄ => ?_
  · intro i t h' tk' C oC mC ext E' hi nC hC eC N'
    with_reducible refine wpAny_BinOp ?_
    with_reducible refine wpAny_BinOp ?_
    with_reducible refine r_str (s := s) fun t1 tk1 => ?_
    with_reducible refine Subscript_ ?_
    refine r_cell (s := s) (c := L + 2) (v := .ref na) (by kernel_rfl) (by kernel_rfl) (by kernel_rfl) (N'.get 2 rfl) ?_ (by kernel_rfl)
    refine r_name (s := s) (v := .int (i : Nat) t) eC nC hC (by kernel_rfl) (by kernel_rfl) ?_ (by kernel_rfl)
    refine r_itemL (s := s) (items := ((List.range 4).map fun k => Value.str (nmL k) (tn k)).toArray) ⟨_, N'.get 11 rfl, rfl, _, rfl⟩ (by lia) (get_funA hi) ?_ (by kernel_rfl) (by intro _; kernel_rfl)
    refine PyProof.Rows.add_str (fun t2 tk2 => ?_) (by rw [sizeLine_eq]; exact Nat.le_of_ble_eq_true rfl)
    with_reducible refine Subscript_ ?_
    with_reducible refine r_str (s := s) fun t3 tk3 => ?_
    with_reducible refine wpAny_BinOp ?_
    with_reducible refine wpAny_BinOp ?_
    with_reducible refine Subscript_ ?_
    refine r_cell (s := s) (c := L + 7) (v := .ref ca) (by kernel_rfl) (by kernel_rfl) (by kernel_rfl) (N'.get 7 rfl) ?_ (by kernel_rfl)
    refine r_name (s := s) (v := .int (i : Nat) t) eC nC hC (by kernel_rfl) (by kernel_rfl) ?_ (by kernel_rfl)
    refine r_itemL (s := s) (items := ((List.range 4).map fun k => Value.int (c k) (tc k)).toArray) ⟨_, N'.get 10 rfl, rfl, _, rfl⟩ (by lia) (get_funA hi) ?_ (by kernel_rfl) (by intro _; kernel_rfl)
    with_reducible refine r_int (s := s) fun t4 tk4 => ?_
    refine r_fdiv (s := s) (by decide) (by decide) fun t5 tk5 => ?_
    with_reducible refine r_int (s := s) fun t6 tk6 => ?_
    refine r_mod (s := s) (by decide) fun t7 tk7 => ?_
    have hbd := fmod_bounds ((c i).fdiv 5) (n := 2) (by decide)
    with_reducible refine item_str (s := St s h' tk7) (by unfold fitsSsize; simp; lia) (by have : (Str.ofString "\n\r").length = 2 := rfl; lia) (by have : (Str.ofString "\n\r").length = 2 := rfl; lia) (fun hlen => ?_) (by kernel_rfl) (by intro _; kernel_rfl)
    with_reducible refine PyProof.Rows.add_str (fun t8 tk8 => ?_) (by
      have e1 : (S "." ++ nmL i).length = 2 := rfl
      have e2 := hlen.2
      rw [sizeLine_eq]; rw [e1]; lia)
    refine ⟨_, _, t8, rfl, ?_, N'⟩
    rw [word_eq c hi]
  refine r_storeC (env := eW w L) (s := s) (c := L + 4) N₄ 4 rfl (by kernel_rfl) (by kernel_rfl) (by kernel_rfl) fun h₅ N₅ => ?_
  replace N₅ : Now hb [] h₅ (lawObs L o₃ (some vs) (some (.ref na)) (some (.ref ds)) (some (.ref wa)) none none (some (.ref ca)) (some (.ref pa)) none ++
        [(ca, lst ((List.range 4).map fun k => .int (c k) (tc k))), (na, listObj ((List.range 4).map fun k => Value.str (nmL k) (tn k)).toArray 0), (pa, lst ((List.range 4).map fun k => .int (szN c k : Nat) (tp k))), (ds, ods), (dp, odp), (wa, lst ((List.range 4).map fun k => .str (wd (eN c) k 1) (tw k)))]) := N₅
  with_reducible refine x_assign ?_ (by kernel_rfl)
  refine MethodCall_ ?_
  with_reducible refine r_str (s := s) fun t1 tk1 => ?_
  with_reducible refine GM.join ?_
  with_reducible refine callWith_method1 ?_ (by kernel_rfl) (by kernel_rfl)
  with_reducible refine args_cons ?_ (by kernel_rfl)
  refine lc4 (n := 4) (cl := [(S "words", L + 4), (S "cells", L + 7)]) (fun k (u : Tok) => .str (spelled (wd (eN c) k 1) (bN c k)) u) hh (XN N₅) (by kernel_rfl) (by kernel_rfl) (by kernel_rfl) (by kernel_rfl) (by decide) (by kernel_rfl) (by kernel_rfl) (by kernel_rfl) (by kernel_rfl) (by intro _; kernel_rfl) (by kernel_rfl) (by intro _; kernel_rfl) N₅ ?_ fun h₆ tk₆ xa tx N₆ => ?_
  · intro i t h' tk' C oC mC ext E' hi nC hC eC N'
    with_reducible refine r_callD (s := s) (f := 153) (o := obAt (KK w.params) 153) (fd := fnAt (KK w.params) 153) (XN N') (by kernel_rfl) (by kernel_rfl) (by kernel_rfl) (by kernel_rfl) (by kernel_rfl) (by kernel_rfl) (by kernel_rfl) ?_ (by kernel_rfl)
    with_reducible refine args_cons ?_ (by kernel_rfl)
    with_reducible refine Subscript_ ?_
    refine r_cell (s := s) (c := L + 4) (v := .ref wa) (by kernel_rfl) (by kernel_rfl) (by kernel_rfl) (N'.get 4 rfl) ?_ (by kernel_rfl)
    refine r_name (s := s) (v := .int (i : Nat) t) eC nC hC (by kernel_rfl) (by kernel_rfl) ?_ (by kernel_rfl)
    refine r_itemL (s := s) (items := ((List.range 4).map fun k => Value.str (wd (eN c) k 1) (tw k)).toArray) ⟨_, N'.get 15 rfl, rfl, _, rfl⟩ (by lia) (get_funA hi) ?_ (by kernel_rfl) (by intro _; kernel_rfl)
    with_reducible refine args_cons ?_ (by kernel_rfl)
    with_reducible refine wpAny_Compare1 ?_
    with_reducible refine wpAny_BinOp ?_
    with_reducible refine wpAny_BinOp ?_
    with_reducible refine Subscript_ ?_
    refine r_cell (s := s) (c := L + 7) (v := .ref ca) (by kernel_rfl) (by kernel_rfl) (by kernel_rfl) (N'.get 7 rfl) ?_ (by kernel_rfl)
    refine r_name (s := s) (v := .int (i : Nat) t) eC nC hC (by kernel_rfl) (by kernel_rfl) ?_ (by kernel_rfl)
    refine r_itemL (s := s) (items := ((List.range 4).map fun k => Value.int (c k) (tc k)).toArray) ⟨_, N'.get 10 rfl, rfl, _, rfl⟩ (by lia) (get_funA hi) ?_ (by kernel_rfl) (by intro _; kernel_rfl)
    with_reducible refine r_int (s := s) fun t4 tk4 => ?_
    refine r_fdiv (s := s) (by decide) (by decide) fun t5 tk5 => ?_
    with_reducible refine r_int (s := s) fun t6 tk6 => ?_
    refine r_mod (s := s) (by decide) fun t7 tk7 => ?_
    with_reducible refine r_int (s := s) fun t8 tk8 => ?_
    with_reducible refine PyProof.Rows.eq_int ?_
    refine args_nil ⟨(XN N') _ _ (by kernel_rfl), ?_⟩
    have hln := (wd_len (e := eN c) (i := i) (d := 1) hi (eN_or c i) (by decide))
    refine law_spelled (s := s) (XN N') (Nat.lt_of_succ_lt hroom) hln.1 (by lia) fun h₇ tk₇ t9 D => ?_
    refine ⟨_, _, t9, rfl, ?_, (N'.pureE D).sub (List.sublist_append_left _ _)⟩
    have e1 : (((c i).fdiv 10).fmod 2 == 1) = bN c i := by unfold bN; rfl
    rw [e1]
  with_reducible refine args_nil ?_
  refine SC.join (l := (List.range 4).map fun k => (spelled (wd (eN c) k 1) (bN c k), tx k)) (texts := (List.range 4).map fun k => spelled (wd (eN c) k 1) (bN c k)) ⟨_, N₆.get 16 rfl, rfl, _, rfl⟩ rfl (joinOk_text c) fun t2 tk2 => ?_
  have N₇ := N₆.drop
  refine r_store (s := s) N₇ 0 rfl n₃ (by kernel_rfl) (by kernel_rfl) fun h₈ o₈ tk₈ N₈ n₈ => ?_
  exact hq h₈ tk₈ o₈ ods odp ts tq tw t2 ds dp wa N₈ n₈ ids idp hds hdp
end
end
section
open PySem PySem.W PySem.W.X PyProof.Rows PySem.Calls PySem.Spec PyProof
open LCg (NsObj lst)
set_option maxHeartbeats 1000000
section
variable {hb h h' : Heap} {ch : List Addr} {obs : List (Addr × Obj)}
theorem Now.pick (N : Now hb ch h obs) (is : List Nat) (hn : is.Nodup) : Now hb ch h (is.filterMap (obs[·]?)) := by
  have mem : ∀ p ∈ is.filterMap (obs[·]?), ∃ i ∈ is, obs[i]? = some p := fun p hp => by
    obtain ⟨i, hi, e⟩ := List.mem_filterMap.mp hp
    exact ⟨i, hi, e⟩
  refine ⟨fun p hp => ?_, ?_, fun p hp => ?_, N.keep, N.live⟩
  · obtain ⟨i, _, e⟩ := mem p hp; exact N.at_ p (List.mem_of_getElem? e)
  · clear mem
    induction is with
    | nil => exact List.nodup_nil
    | cons i is ih =>
      rw [List.nodup_cons] at hn
      cases e : obs[i]? with
      | none => rw [List.filterMap_cons, e]; exact ih hn.2
      | some p =>
        rw [List.filterMap_cons, e, List.map_cons, List.nodup_cons]
        refine ⟨fun hm => ?_, ih hn.2⟩
        obtain ⟨q, hq, eq⟩ := List.mem_map.mp hm
        obtain ⟨j, hj, ej⟩ := List.mem_filterMap.mp hq
        have hij : i ≠ j := fun z => hn.1 (z ▸ hj)
        exact N.ne i j (b := q.1) (ob := q.2) (a := p.1) (oa := p.2) e ej hij eq.symm
  · obtain ⟨i, _, e⟩ := mem p hp; exact N.ok p (List.mem_of_getElem? e)
theorem Now.ofMem1 {a : Addr} {o : Obj} {news : List (Addr × Obj)} (D : Mem hb h [(a, o)] news) (ha : ∃ o', hb.get? a = some o') : Now hb [a] h ((a, o) :: news) where
  at_ := fun p hp => by
    rcases List.mem_cons.mp hp with rfl | hp
    · exact (D.ch _ (by simp)).1
    · exact (D.nw p hp).1
  nd := by
    rw [List.map_cons, List.nodup_cons]
    refine ⟨fun hm => ?_, List.Pairwise.imp (R := fun a b => a > b) (fun {a b} q => Nat.ne_of_gt q) D.ord⟩
    obtain ⟨p, hp, e⟩ := List.mem_map.mp hm
    obtain ⟨o', e'⟩ := ha
    have := (D.nw p hp).2
    rw [e, e'] at this; cases this
  ok := fun p hp => by
    rcases List.mem_cons.mp hp with rfl | hp
    · exact .inl (by simp)
    · exact .inr (D.nw p hp).2
  keep := fun b ob e hm => D.keep b ob e (by
    have : away [(a, o)] b = true := by
      have hne : a ≠ b := fun z => hm (by simp [z])
      have : Nat.beq a b = false := by
        cases q : Nat.beq a b with
        | false => rfl
        | true => exact absurd (Nat.eq_of_beq_eq_true q) hne
      simp [away, this]
    rw [this, Bool.or_true])
  live := fun b hb' => by
    rcases List.mem_singleton.mp hb' with rfl
    exact ⟨o, (D.ch (b, o) (by simp)).1⟩
/-- two known places change -/
theorem Now.upd2 {a b : Addr} {oa ob oa' ob' : Obj} (N : Now hb ch h obs) (i j : Nat) (hi : obs[i]? = some (a, oa)) (hj : obs[j]? = some (b, ob)) (hij : i ≠ j) (D : Now h [a, b] h' [(a, oa'), (b, ob')]) : Now hb ch h' ((obs.set i (a, oa')).set j (b, ob')) := by
  have hmap : ((obs.set i (a, oa')).set j (b, ob')).map (·.1) = obs.map (·.1) := by
    have one : ∀ (l : List (Addr × Obj)) (k : Nat) (x : Addr) (o o' : Obj), l[k]? = some (x, o) → (l.set k (x, o')).map (·.1) = l.map (·.1) := by
      intro l k x o o' e
      rw [List.map_set]
      refine List.ext_getElem? fun n => ?_
      rw [List.getElem?_set]
      split
      · rename_i q; subst q
        rw [List.getElem?_map, e, if_pos (by rw [List.length_map]; exact (List.getElem?_eq_some_iff.mp e).1)]; rfl
      · rfl
    rw [one _ j b ob ob' (by rw [List.getElem?_set, if_neg hij]; exact hj), one _ i a oa oa' hi]
  refine N.step D ?_ ?_ (by rw [hmap]; exact N.nd)
  · intro x hx
    rcases List.mem_cons.mp hx with rfl | hx
    · exact List.mem_map.mpr ⟨_, List.mem_of_getElem? hi, rfl⟩
    · rcases List.mem_singleton.mp hx with rfl
      exact List.mem_map.mpr ⟨_, List.mem_of_getElem? hj, rfl⟩
  · intro p hp
    obtain ⟨k, hk⟩ := List.mem_iff_getElem?.mp hp
    rw [List.getElem?_set] at hk
    split at hk
    · split at hk
      · cases hk; exact .inl (by simp)
      · cases hk
    · rename_i hkj
      rw [List.getElem?_set] at hk
      split at hk
      · split at hk
        · cases hk; exact .inl (by simp)
        · cases hk
      · rename_i hki
        refine .inr ⟨List.mem_of_getElem? hk, ?_⟩
        simp only [List.mem_cons, List.not_mem_nil, or_false, not_or]
        exact ⟨fun e => N.ne i k hi (b := p.1) (ob := p.2) hk (fun z => hki z) e.symm, fun e => N.ne j k hj (b := p.1) (ob := p.2) hk (fun z => hkj z) e.symm⟩
end
theorem lookup_filter {P : Addr × Obj → Bool} (hP : ∀ a o o', P (a, o) = P (a, o')) : ∀ {l : List (Addr × Obj)} {a : Addr} {o : Obj}, (l.filter P).lookup a = some o → l.lookup a = some o
  | [], _, _, e => by cases e
  | (b, q) :: r, a, o, e => by
    rw [List.filter_cons] at e
    rw [List.lookup_cons]
    by_cases hb : (a == b) = true
    · have hab : a = b := by simpa using hb
      subst hab
      rw [hb]
      by_cases hp : P (a, q) = true
      · rw [if_pos hp, List.lookup_cons, hb] at e; exact e
      · rw [if_neg hp] at e
        exfalso
        have : ∀ {m : List (Addr × Obj)}, (m.filter P).lookup a = none := by
          intro m
          induction m with
          | nil => rfl
          | cons x m ih =>
            obtain ⟨c, z⟩ := x
            rw [List.filter_cons]
            split
            · rename_i hz
              rw [List.lookup_cons]
              split
              · rename_i hc
                have : a = c := by simpa using hc
                subst this
                rw [hP a z q] at hz; exact absurd hz hp
              · exact ih
            · exact ih
        rw [this] at e; cases e
    · have hb' : (a == b) = false := by simpa using hb
      rw [hb']
      by_cases hp : P (b, q) = true
      · rw [if_pos hp, List.lookup_cons, hb'] at e; exact lookup_filter hP e
      · rw [if_neg hp] at e; exact lookup_filter hP e
theorem kk_of {w : World} {h : Heap} (X : (hd.heap_39 w.params).In h) : (KK w.params).In h := fun a o e => X a o (lookup_filter (fun _ _ _ => rfl) e)
theorem lo_table1 : Lo 141 := fun P => by kernel_rfl
theorem lo_table2 : Lo 179 := fun P => by kernel_rfl
theorem kk_keys (P P' : Params) (a : Addr) : (KK P).lookup a = none → (KK P').lookup a = none := by
  have e : (KK P).map (·.1) = (KK P').map (·.1) := by kernel_rfl
  have key : ∀ {l : List (Addr × Obj)}, l.lookup a = none ↔ a ∉ l.map (·.1) := by
    intro l
    induction l with
    | nil => simp
    | cons x l ih =>
      obtain ⟨b, o⟩ := x
      rw [List.lookup_cons, List.map_cons]
      by_cases c : a = b
      · subst c; simp
      · have : (a == b) = false := by simpa using c
        rw [this]
        simp only [List.mem_cons, not_or]
        exact ⟨fun z => ⟨c, ih.mp z⟩, fun z => ih.mpr z.2⟩
  intro z
  rw [key] at z ⊢
  rw [← e]; exact z
theorem lo_fresh {w : World} {h : Heap} {a : Addr} (X : (KK w.params).In h) (e : h.get? a = none) : Lo a := fun P => by
  refine kk_keys w.params P a ?_
  cases q : (KK w.params).lookup a with
  | none => rfl
  | some o => have := X a o q; rw [e] at this; cases this
end
section
open PySem PySem.W PySem.W.X PyProof.Rows PySem.Calls PySem.Spec PyProof
open LCg (NsObj lst)
set_option maxHeartbeats 1000000
theorem Ns1Obj.empty : Ns1Obj emptyDict (fun _ => none) := ⟨#[], 0, rfl, fun e he => by simp at he, List.Pairwise.nil, fun _ => rfl⟩
theorem within_nil : Within (fun _ => (none : Option Value)) [] := fun _ h => (h rfl).elim
section
variable {w : World} {A : Around} {s : Shared} {h : Heap} {tk : Nat} {E : Value → Shared → Prop} {Q : Value → Shared → Prop}
/-- C(..), C a class with an __init__ of its own: up to its frame -/
theorem r_new {C fI : Addr} {o : Obj} {fd : FuncData} {body : List Stmt} {rest : List Value} {binds : List (Str × Value)} (X : (KK w.params).In h) (hm : makesIn (KK w.params) C = true) (hi : findIn (KK w.params) (.ref C) "__init__" = some (some (.ref fI))) (hf : typeIn (KK w.params) (.ref fI) = some (.type "function"))
    (hroom : (A.under (.builtin "type.__call__" ⟨.ref C :: rest, []⟩)).depth < recursionLimit) (ho : (KK w.params).lookup fI = some o) (hdata : o.data = .func fd) (hcd : codeIn (KK w.params) fd.code fd.qualname = true) (hbody : fd.body = .stmts body) (hbind : bindArgs fd ⟨.ref (h.objs.size + 1) :: rest, []⟩ = pure binds)
    (hcell : (fd.scope.names.all fun x => !decide (x.2 = .cell)) = true) (hloc : (binds.all fun x => decide (fd.scope.names.lookup x.1 = some .local)) = true) (hco : fd.scope.isCoroutine = false) (hgen : fd.scope.isGenerator = false) (hk : fd.scope.kind = .function)
    (hq : ∀ h₁ oL L (E' : Value → Shared → Prop), Now h [] h₁ [(L, oL), (h.objs.size, emptyDict), (h.objs.size + 1, instObj C h.objs.size)] → NsObj oL (fun x => binds.reverse.lookup x) →
      wpAny (MM w) ((A.under (.builtin "type.__call__" ⟨.ref C :: rest, []⟩)).deeper (callEnv fd L fI)) (execs body (callEnv fd L fI)) (fun fl s' => fl = .next ∧ Q (.ref (h.objs.size + 1)) s') E' (St s h₁ (tk + binds.length))) :
    wpAny (MM w) A (call (.ref C) rest) Q E (St s h tk) := by
  refine wpAny_call (make_core (makes_of X hm) (looks_findIn X hi) (fun self => bind_fn X self hf) (.inl rfl) ?_)
  have N0 : Now h [] ((h.push emptyDict).push (instObj C h.objs.size)) [(h.objs.size, emptyDict), (h.objs.size + 1, instObj C h.objs.size)] := by
    have := ((Now.refl (hb := h)).allocE emptyDict rfl).allocE (instObj C h.objs.size) rfl
    rw [Heap.size_push] at this
    exact this
  refine enter (s := St s ((h.push emptyDict).push (instObj C h.objs.size)) tk) (kk_keep X N0 (by simp)) hroom ho hdata hcd hbody hbind hcell hloc (fun h₁ oL N nL => ?_) hco hgen hk
  have N1 := N0.pure N
  refine wpAny_mono (hq h₁ oL _ _ N1 nL) (fun fl s' z => ?_) fun _ _ e => e
  obtain ⟨rfl, z⟩ := z
  exact ⟨rfl, z⟩
/-- TupleComp(cl) -/
theorem comp_h {env : Env} {cl : Addr} (X : (KK w.params).In h)
    (hQ : ∀ h' tk' tc dt odt mT, Now h [] h' [(tc, instObj 97 dt), (dt, odt)] → NsObj odt mT → mT (S "comp_select_list") = some (.ref cl) → mT (S "compare") = none → Q (.ref tc) (St s h' tk')) :
    wpAny (MM w) (callerA.deeper env) (call (.ref 97) [.ref cl]) Q E (St s h tk) := by
  refine r_new (C := 97) (fI := 87) (o := obAt (KK w.params) 87) (fd := fnAt (KK w.params) 87) (body := defBody "__init__" (clsBody "TupleComp" PR.main.body)) (binds := [(S "self", .ref (h.objs.size + 1)), (S "comp_select_list", .ref cl)]) X (by kernel_rfl) (by kernel_rfl) (by kernel_rfl) (of_decide_eq_true (by kernel_rfl)) (by kernel_rfl) (by kernel_rfl) (by kernel_rfl) (by kernel_rfl) (by kernel_rfl) (by kernel_rfl) (by kernel_rfl) (by kernel_rfl) (by kernel_rfl) (by kernel_rfl) ?_
  intro h₁ oL L E' N nL
  have q1 : (fun x => List.lookup x [(S "self", Value.ref (h.objs.size + 1)), (S "comp_select_list", .ref cl)].reverse) (S "self") = some (.ref (h.objs.size + 1)) := by kernel_rfl
  have q2 : (fun x => List.lookup x [(S "self", Value.ref (h.objs.size + 1)), (S "comp_select_list", .ref cl)].reverse) (S "comp_select_list") = some (.ref cl) := by kernel_rfl
  generalize (fun x => List.lookup x [(S "self", Value.ref (h.objs.size + 1)), (S "comp_select_list", .ref cl)].reverse) = mm at nL q1 q2
  have X₁ : (KK w.params).In h₁ := kk_keep X N (by simp)
  generalize h.objs.size = dx at N q1 ⊢
  conv => arg 3; arg 1; whnf
  with_reducible refine wpAny_execs_cons ?_
  refine plainObj_wpAny_Assign_Attribute ?_ (by kernel_rfl)
  refine r_name (s := s) (v := .ref cl) (N.get 0 rfl) nL q2 (by kernel_rfl) (by kernel_rfl) ?_ (by kernel_rfl)
  refine r_name (s := s) (v := .ref (dx + 1)) (N.get 0 rfl) nL q1 (by kernel_rfl) (by kernel_rfl) ?_ (by kernel_rfl)
  refine r_setattr (s := s) X₁ N 1 rfl (C := 97) (N.get 2 rfl) Ns1Obj.empty within_nil (by decide) (by kernel_rfl) (by kernel_rfl) (by kernel_rfl) (by kernel_rfl) fun h₂ od tk₂ N₂ io => ?_
  replace N₂ : Now h [] h₂ [(L, oL), (dx, od), (dx + 1, instObj 97 dx)] := N₂
  have N₃ := (N₂.sub (obs' := [(dx, od), (dx + 1, instObj 97 dx)]) (.cons _ (List.Sublist.refl _))).perm (List.Perm.swap (dx, od) (dx + 1, instObj 97 dx) [])
  exact wpAny_execs_nil ⟨rfl, hQ h₂ tk₂ (dx + 1) dx od _ N₃ io.ns (up_self _ _ _) ((up_ne (by kernel_rfl)).trans rfl)⟩
/-- _netrclex(st) -/
theorem lexer_h {env : Env} {st : Addr} (X : (KK w.params).In h)
    (hQ : ∀ h' tk' q lx dl odl mx ta tb, Now h [] h' [(q, listObj #[] 0), (lx, instObj 69 dl), (dl, odl)] → Ns1Obj odl mx → mx (S "lineno") = some (.int 1 ta) → mx (S "instream") = some (.ref st) → mx (S "whitespace") = some (.str (S "\n\t\r ") tb) → mx (S "pushback") = some (.ref q) → Within mx lexNames → Q (.ref lx) (St s h' tk')) :
    wpAny (MM w) (callerA.deeper env) (call (.ref 69) [.ref st]) Q E (St s h tk) := by
  refine r_new (C := 69) (fI := 45) (o := obAt (KK w.params) 45) (fd := fnAt (KK w.params) 45) (body := defBody "__init__" (clsBody "_netrclex" PR.main.body)) (binds := [(S "self", .ref (h.objs.size + 1)), (S "fp", .ref st)]) X (by kernel_rfl) (by kernel_rfl) (by kernel_rfl) (of_decide_eq_true (by kernel_rfl)) (by kernel_rfl) (by kernel_rfl) (by kernel_rfl) (by kernel_rfl) (by kernel_rfl) (by kernel_rfl) (by kernel_rfl) (by kernel_rfl) (by kernel_rfl) (by kernel_rfl) ?_
  intro h₁ oL L E' N nL
  have q1 : (fun x => List.lookup x [(S "self", Value.ref (h.objs.size + 1)), (S "fp", .ref st)].reverse) (S "self") = some (.ref (h.objs.size + 1)) := by kernel_rfl
  have q2 : (fun x => List.lookup x [(S "self", Value.ref (h.objs.size + 1)), (S "fp", .ref st)].reverse) (S "fp") = some (.ref st) := by kernel_rfl
  generalize (fun x => List.lookup x [(S "self", Value.ref (h.objs.size + 1)), (S "fp", .ref st)].reverse) = mm at nL q1 q2
  have XN : ∀ {h' : Heap} {obs : List (Addr × Obj)}, Now h [] h' obs → (KK w.params).In h' := fun N' => kk_keep X N' (by simp)
  generalize h.objs.size = dx at N q1 ⊢
  conv => arg 3; arg 1; whnf
  with_reducible refine wpAny_execs_cons ?_
  refine plainObj_wpAny_Assign_Attribute ?_ (by kernel_rfl)
  refine r_int (s := s) fun ta tk₁ => ?_
  refine r_name (s := s) (v := .ref (dx + 1)) (N.get 0 rfl) nL q1 (by kernel_rfl) (by kernel_rfl) ?_ (by kernel_rfl)
  refine r_setattr (s := s) (XN N) N 1 rfl (C := 69) (N.get 2 rfl) Ns1Obj.empty within_nil (by decide) (by kernel_rfl) (by kernel_rfl) (by kernel_rfl) (by kernel_rfl) fun h₂ od₂ tk₂ N₂ io₂ => ?_
  replace N₂ : Now h [] h₂ [(L, oL), (dx, od₂), (dx + 1, instObj 69 dx)] := N₂
  have w₂ := Within.cons (S "lineno") (.int 1 ta) within_nil
  with_reducible refine wpAny_execs_cons ?_
  refine plainObj_wpAny_Assign_Attribute ?_ (by kernel_rfl)
  refine r_name (s := s) (v := .ref st) (N₂.get 0 rfl) nL q2 (by kernel_rfl) (by kernel_rfl) ?_ (by kernel_rfl)
  refine r_name (s := s) (v := .ref (dx + 1)) (N₂.get 0 rfl) nL q1 (by kernel_rfl) (by kernel_rfl) ?_ (by kernel_rfl)
  refine r_setattr (s := s) (XN N₂) N₂ 1 rfl (C := 69) (N₂.get 2 rfl) io₂ w₂ (by decide) (by kernel_rfl) (by kernel_rfl) (by kernel_rfl) (by kernel_rfl) fun h₃ od₃ tk₃ N₃ io₃ => ?_
  replace N₃ : Now h [] h₃ [(L, oL), (dx, od₃), (dx + 1, instObj 69 dx)] := N₃
  have w₃ := Within.cons (S "instream") (.ref st) w₂
  with_reducible refine wpAny_execs_cons ?_
  refine plainObj_wpAny_Assign_Attribute ?_ (by kernel_rfl)
  refine r_str (s := s) fun tb tk₄ => ?_
  refine r_name (s := s) (v := .ref (dx + 1)) (N₃.get 0 rfl) nL q1 (by kernel_rfl) (by kernel_rfl) ?_ (by kernel_rfl)
  refine r_setattr (s := s) (XN N₃) N₃ 1 rfl (C := 69) (N₃.get 2 rfl) io₃ w₃ (by decide) (by kernel_rfl) (by kernel_rfl) (by kernel_rfl) (by kernel_rfl) fun h₄ od₄ tk₅ N₄ io₄ => ?_
  replace N₄ : Now h [] h₄ [(L, oL), (dx, od₄), (dx + 1, instObj 69 dx)] := N₄
  have w₄ := Within.cons (S "whitespace") (.str (S "\n\t\r ") tb) w₃
  with_reducible refine wpAny_execs_cons ?_
  refine plainObj_wpAny_Assign_Attribute ?_ (by kernel_rfl)
  refine r_list (s := St s h₄ tk₅) ?_
  refine args_nil ⟨by simp [sizeLine_eq], ?_⟩
  have N₅ := N₄.allocE (listObj #[] 0) rfl
  generalize h₄.objs.size = q at N₅ ⊢
  refine r_name (s := s) (v := .ref (dx + 1)) (N₅.get 0 rfl) nL q1 (by kernel_rfl) (by kernel_rfl) ?_ (by kernel_rfl)
  refine r_setattr (s := s) (XN N₅) N₅ 1 rfl (C := 69) (N₅.get 2 rfl) io₄ w₄ (by decide) (by kernel_rfl) (by kernel_rfl) (by kernel_rfl) (by kernel_rfl) fun h₆ od₆ tk₆ N₆ io₆ => ?_
  replace N₆ : Now h [] h₆ [(L, oL), (dx, od₆), (dx + 1, instObj 69 dx), (q, listObj #[] 0)] := N₆
  have w₆ := Within.cons (S "pushback") (.ref q) w₄
  have N₇ := N₆.pick [3, 2, 1] (by decide)
  refine wpAny_execs_nil ⟨rfl, hQ h₆ tk₆ q (dx + 1) dx od₆ _ ta tb N₇ io₆ ((up_ne (by kernel_rfl)).trans ((up_ne (by kernel_rfl)).trans ((up_ne (by kernel_rfl)).trans (up_self _ _ _)))) ((up_ne (by kernel_rfl)).trans ((up_ne (by kernel_rfl)).trans (up_self _ _ _))) ((up_ne (by kernel_rfl)).trans (up_self _ _ _)) (up_self _ _ _) ?_⟩
  intro x hx
  have := w₆ x hx
  simp only [List.mem_cons, List.not_mem_nil, or_false] at this ⊢
  rcases this with rfl | rfl | rfl | rfl <;> simp
end
end
section
open PySem PySem.W PySem.W.X PyProof.Rows PySem.Calls PySem.Spec PyProof
open LCg (NsObj lst)
set_option maxHeartbeats 1000000
theorem textOf_cps (c : Nat → Int) : (textOf c).cps.toList = (spF 0 (eN c 0) (bN c 0)).cps.toList ++ ((spF 1 (eN c 1) (bN c 1)).cps.toList ++ ((spF 2 (eN c 2) (bN c 2)).cps.toList ++ (spF 3 (eN c 3) (bN c 3)).cps.toList)) := by
  rw [textOf_eq]
  have e0 : (S "").cps = #[] := rfl
  have ea : ∀ a b : Str, (a ++ b).cps = a.cps ++ b.cps := fun _ _ => rfl
  show (Txt.join (S "") [_, _, _, _]).cps.toList = _
  unfold Txt.join
  rw [StrLaws.glued_eq_join]
  simp [Str.join, ea, e0]
theorem textOf_len (c : Nat → Int) : (textOf c).length ≤ 24 := by
  have h0 := (spF_len 0 (eN c 0) (bN c 0)).2
  have h1 := (spF_len 1 (eN c 1) (bN c 1)).2
  have h2 := (spF_len 2 (eN c 2) (bN c 2)).2
  have h3 := (spF_len 3 (eN c 3) (bN c 3)).2
  have e := congrArg List.length (textOf_cps c)
  simp only [List.length_append, Array.length_toList] at e
  unfold Str.length at *
  lia
theorem isStr_of {v : Option Value} {n : Str} (h : v.map (fun v => v.isStr n) = some true) : ∃ t, v = some (.str n t) := by
  cases v with
  | none => cases h
  | some v =>
    have h' : v.isStr n = true := by simpa using h
    cases v with
    | str x t => exact ⟨t, by have : x = n := by simpa [Value.isStr] using h'
                              rw [this]⟩
    | _ => cases h'
noncomputable def tab1 (w : World) : Obj := ((hd.heap_39 w.params).lookup 141).getD default
noncomputable def tab2 (w : World) : Obj := ((hd.heap_39 w.params).lookup 179).getD default
/-- the lists of the law: cells names parts sizes prices words -/
noncomputable abbrev lawLists (c : Nat → Int) (tc tn tp tw : Nat → Tok) (ca na pa ds dp wa : Addr) (ods odp : Obj) : List (Addr × Obj) :=
  [(ca, lst ((List.range 4).map fun k => .int (c k) (tc k))), (na, listObj ((List.range 4).map fun k => Value.str (nmL k) (tn k)).toArray 0), (pa, lst ((List.range 4).map fun k => .int (szN c k : Nat) (tp k))),
          (ds, ods), (dp, odp), (wa, lst ((List.range 4).map fun k => .str (wd (eN c) k 1) (tw k)))]
noncomputable abbrev lexObs (l : Lx) (od opl oq : Obj) : List (Addr × Obj) := [(l.st, l.ost), (l.ds, l.ods), (l.rd, l.ord), (l.cd, l.ocd), (l.pl, opl), (l.cp, l.ocp), (l.ct, l.oct), (l.q, oq), (l.lx, instObj 69 l.dl), (l.dl, od)]
section
variable {w : World} {s : Shared} {E : Value → Shared → Prop} {Q : Flow → Shared → Prop} {hb h : Heap} {tk : Nat} {L : Addr} {oL : Obj} {m : Str → Option Value}
theorem law3 (X : (hd.heap_39 w.params).In hb) {vs : Value} {c : Nat → Int} {tc tn tp tw : Nat → Tok} {ca na pa ds dp wa : Addr} {ods odp : Obj} {tt : Tok}
    (N : Now hb [] h (lawObs L oL (some vs) (some (.ref na)) (some (.ref ds)) (some (.ref wa)) none none (some (.ref ca)) (some (.ref pa)) none ++ lawLists c tc tn tp tw ca na pa ds dp wa ods odp)) (nL : NsObj oL m) (hm : m (S "text") = some (.str (textOf c) tt))
    (hq : ∀ h' tk' l od opl oq mx t0 ps, Now hb [141, 179] h' (lawObs L oL (some vs) (some (.ref na)) (some (.ref ds)) (some (.ref wa)) (some (.ref l.lx)) none (some (.ref ca)) (some (.ref pa)) none ++ lawLists c tc tn tp tw ca na pa ds dp wa ods odp ++ [(141, tableObj ps), (179, tab2 w)] ++ lexObs l od opl oq) →
      l.Ok → l.tx = textOf c → Ns1Obj od mx → LexMap l mx 1 → LsObj opl #[.int 0 t0] → oq = listObj #[] 0 →
      wpAny (MM w) (callerA.deeper (eW w L)) (execs (bLaw.drop 9) (eW w L)) Q E (St s h' tk')) :
    wpAny (MM w) (callerA.deeper (eW w L)) (execs (bLaw.drop 8) (eW w L)) Q E (St s h tk) := by
  have XK : (KK w.params).In hb := kk_of X
  have XN : ∀ {h' : Heap} {obs : List (Addr × Obj)}, Now hb [] h' obs → (KK w.params).In h' := fun N' => kk_keep XK N' (by simp)
  have e141 : (hd.heap_39 w.params).lookup 141 = some (tab1 w) := by kernel_rfl
  have e179 : (hd.heap_39 w.params).lookup 179 = some (tab2 w) := by kernel_rfl
  have Xh : (hd.heap_39 w.params).In h := fun a o e => N.keep a o (X a o e) (by simp)
  conv => arg 3; arg 1; whnf
  with_reducible refine x_assign ?_ (by kernel_rfl)
  refine Call_Name rfl ?_
  refine r_global (v := .ref 69) (s := s) (XN N) (by kernel_rfl) (by kernel_rfl) (by kernel_rfl) (by kernel_rfl) ?_ (by kernel_rfl)
  refine callWith_K (K := KK w.params) (h₀ := h) (XN N) (by kernel_rfl) ?_ (by kernel_rfl) (by kernel_rfl)
  refine args_cons ?_ (by kernel_rfl)
  refine r_callD (s := s) (f := 146) (o := obAt (KK w.params) 146) (fd := fnAt (KK w.params) 146) (XN N) (by kernel_rfl) (by kernel_rfl) (by kernel_rfl) (by kernel_rfl) (by kernel_rfl) (by kernel_rfl) (by kernel_rfl) ?_ (by kernel_rfl)
  refine args_cons ?_ (by kernel_rfl)
  refine r_name (env := eW w L) (s := s) (v := .str (textOf c) tt) (N.get 0 rfl) nL hm (by kernel_rfl) (by kernel_rfl) ?_ (by kernel_rfl)
  refine args_nil ⟨(XN N) _ _ (by kernel_rfl), ?_⟩
  refine stream_x (env := eW w L) Xh fun h₁ tk₁ news ps st dS rd cd pl cp ct ost odS ord ocd opl ocp oct fl fd t1 hs vs' M e1 e0 e8 e9 e16 e17 e18 q1 q2 q3 q4 q5 q6 q7 q8 q9 q10 q11 q12 q13 q14 q15 q16 q17 q18 => ?_
  have N0 := ((N.add (X _ _ e141) (by simp)).add (X _ _ e179) (by simp))
  have D1 := (Now.ofMem1 M ⟨_, Xh _ _ e141⟩).pick [0, 2, 1, 9, 10, 17, 18, 19] (by decide)
  have ep : ([0, 2, 1, 9, 10, 17, 18, 19].filterMap (((141, tableObj ps) :: news)[·]?)) = [(141, tableObj ps), (st, ost), (dS, odS), (rd, ord), (cd, ocd), (pl, opl), (cp, ocp), (ct, oct)] := by
    simp [e1, e0, e8, e9, e16, e17, e18]
  rw [ep] at D1
  have N1 := (N0.one 16 rfl D1).front (obs := [(st, ost), (dS, odS), (rd, ord), (cd, ocd), (pl, opl), (cp, ocp), (ct, oct)])
  let R22 : List (Addr × Obj) := lawObs L oL (some vs) (some (.ref na)) (some (.ref ds)) (some (.ref wa)) none none (some (.ref ca)) (some (.ref pa)) none ++ lawLists c tc tn tp tw ca na pa ds dp wa ods odp ++ [(141, tableObj ps), (179, tab2 w)] ++ [(st, ost), (dS, odS), (rd, ord), (cd, ocd), (pl, opl), (cp, ocp), (ct, oct)]
  replace N1 : Now hb [141, 179] h₁ R22 := N1
  have hlo : ∀ a ∈ [141, 179], Lo a := fun a ha => by
    rcases List.mem_cons.mp ha with rfl | ha
    · exact lo_table1
    · rcases List.mem_singleton.mp ha with rfl; exact lo_table2
  have XM : ∀ {h' : Heap} {obs : List (Addr × Obj)}, Now hb [141, 179] h' obs → (KK w.params).In h' := fun N' => kk_keep XK N' hlo
  refine args_nil ⟨XM N1, ?_⟩
  refine lexer_h (env := eW w L) (XM N1) fun h₂ tk₂ q lx dl odl mx ta tb D2 io y1 y2 y3 y4 y5 => ?_
  have N2 := N1.pureE D2
  refine r_storeC (env := eW w L) (s := s) (c := L + 5) N2 5 rfl (by kernel_rfl) (by kernel_rfl) (by kernel_rfl) fun h₃ N3 => ?_
  let ms : Str → Option Value := fun y => nsFind #[⟨hs, .str (S "read") t1, .ref rd⟩] y
  let l : Lx := ⟨lx, dl, st, dS, rd, cp, ct, cd, pl, q, ost, odS, ord, ocp, oct, ocd, fl, fd, textOf c, tt, ms⟩
  let R23 : List (Addr × Obj) := lawObs L oL (some vs) (some (.ref na)) (some (.ref ds)) (some (.ref wa)) (some (.ref lx)) none (some (.ref ca)) (some (.ref pa)) none ++ lawLists c tc tn tp tw ca na pa ds dp wa ods odp ++ [(141, tableObj ps), (179, tab2 w)] ++ lexObs l odl opl (listObj #[] 0)
  replace N3 : Now hb [141, 179] h₃ R23 := N3
  obtain ⟨tcd, hcd⟩ := isStr_of q17
  have lof : ∀ a ∈ [dl, pl, q], Lo a := fun a ha => by
    have : ∃ o, (a, o) ∈ (lawObs L oL (some vs) (some (.ref na)) (some (.ref ds)) (some (.ref wa)) (some (.ref lx)) none (some (.ref ca)) (some (.ref pa)) none ++ lawLists c tc tn tp tw ca na pa ds dp wa ods odp ++ [(141, tableObj ps), (179, tab2 w)] ++ lexObs l odl opl (listObj #[] 0)) := by
      rcases List.mem_cons.mp ha with rfl | ha
      · exact ⟨odl, List.mem_append_right _ (by simp [lexObs, l])⟩
      · rcases List.mem_cons.mp ha with rfl | ha
        · exact ⟨opl, List.mem_append_right _ (by simp [lexObs, l])⟩
        · rcases List.mem_singleton.mp ha with rfl; exact ⟨listObj #[] 0, List.mem_append_right _ (by simp [lexObs, l])⟩
    obtain ⟨o, ho⟩ := this
    rcases N3.ok _ ho with z | z
    · exact hlo _ z
    · exact lo_fresh XK z
  have key : ∀ i j a b oa ob, (lexObs l odl opl (listObj #[] 0))[i]? = some (a, oa) → (lexObs l odl opl (listObj #[] 0))[j]? = some (b, ob) → i ≠ j → a ≠ b := fun i j a b oa ob ei ej hij =>
    (N3.front.sub (List.sublist_append_left _ _)).ne i j ei ej hij
  have ok : l.Ok := by
    refine ⟨q1, q2, q3, ?_, ?_, q5, q6, q7, q8, q9, q10, q11, q12, q13, q14, q15, ⟨vs', tcd, q16, hcd⟩, ?_, ?_, Nat.le_trans (textOf_len c) (by decide), lof⟩
    · exact ⟨_, _, q4, fun e he => by obtain rfl := Array.mem_singleton.mp he; exact ⟨_, _, rfl⟩, fun _ => rfl⟩
    · kernel_rfl
    · intro a ha hm
      have ia : ∃ i o, (lexObs l odl opl (listObj #[] 0))[i]? = some (a, o) ∧ i ≠ 4 ∧ i ≠ 7 ∧ i ≠ 9 := by
        rcases List.mem_cons.mp ha with rfl | ha
        · exact ⟨8, _, rfl, by decide, by decide, by decide⟩
        rcases List.mem_cons.mp ha with rfl | ha
        · exact ⟨0, _, rfl, by decide, by decide, by decide⟩
        rcases List.mem_cons.mp ha with rfl | ha
        · exact ⟨1, _, rfl, by decide, by decide, by decide⟩
        rcases List.mem_cons.mp ha with rfl | ha
        · exact ⟨2, _, rfl, by decide, by decide, by decide⟩
        rcases List.mem_cons.mp ha with rfl | ha
        · exact ⟨5, _, rfl, by decide, by decide, by decide⟩
        rcases List.mem_cons.mp ha with rfl | ha
        · exact ⟨6, _, rfl, by decide, by decide, by decide⟩
        rcases List.mem_singleton.mp ha with rfl
        exact ⟨3, _, rfl, by decide, by decide, by decide⟩
      refine Classical.byContradiction fun hng => ?_
      obtain ⟨i, o, ei, n4, n7, n9⟩ := ia
      refine hng ?_
      rcases List.mem_cons.mp hm with rfl | hm
      · exact key i 9 _ _ _ _ ei rfl n9 rfl
      rcases List.mem_cons.mp hm with rfl | hm
      · exact key i 4 _ _ _ _ ei rfl n4 rfl
      rcases List.mem_singleton.mp hm with rfl
      exact key i 7 _ _ _ _ ei rfl n7 rfl
    · have k1 := key 9 4 _ _ _ _ rfl rfl (by decide)
      have k2 := key 9 7 _ _ _ _ rfl rfl (by decide)
      have k3 := key 4 7 _ _ _ _ rfl rfl (by decide)
      simp only [List.nodup_cons, List.mem_cons, List.not_mem_nil, or_false, not_or, not_false_eq_true, List.nodup_nil, and_true]
      exact ⟨⟨k1, k2⟩, k3⟩
  have lm : LexMap l mx 1 := ⟨⟨ta, y1⟩, y2, ⟨tb, y3⟩, y4, y5⟩
  exact hq h₃ tk₂ l odl opl (listObj #[] 0) mx tk ps N3 ok rfl io lm (by rw [q18]; exact ⟨rfl, 0, rfl⟩) rfl
end
end
section
open PySem PySem.W PySem.W.X PyProof.Rows PySem.Calls PySem.Spec PyProof
open LCg (NsObj lst)
set_option maxHeartbeats 1000000
noncomputable def lenP (c : Nat → Int) (k : Nat) : Nat := if bN c k then 5 else 6
noncomputable def startP (c : Nat → Int) : Nat → Nat
  | 0 => 0
  | k + 1 => startP c k + lenP c k
noncomputable def feeds (c : Nat → Int) : Nat → Int
  | 0 => 0
  | k + 1 => feeds c k + if eN c k = 10 then 1 else 0
theorem spF_size (c : Nat → Int) (k e : Nat) : (spF k e (bN c k)).cps.toList.length = lenP c k := by
  unfold spF lenP
  cases bN c k <;> rfl
theorem text_at (c : Nat → Int) {k j : Nat} (hk : k < 4) (hj : j < lenP c k) : (textOf c).cps[startP c k + j]? = (spF k (eN c k) (bN c k)).cps[j]? := by
  rw [← Array.getElem?_toList, ← Array.getElem?_toList, textOf_cps]
  have s0 := spF_size c 0 (eN c 0)
  have s1 := spF_size c 1 (eN c 1)
  have s2 := spF_size c 2 (eN c 2)
  have s3 := spF_size c 3 (eN c 3)
  have : k = 0 ∨ k = 1 ∨ k = 2 ∨ k = 3 := by lia
  rcases this with rfl | rfl | rfl | rfl
  · simp only [startP, Nat.zero_add]
    rw [List.getElem?_append_left (by lia)]
  · simp only [startP, Nat.zero_add]
    rw [List.getElem?_append_right (by lia), List.getElem?_append_left (by lia)]
    congr 1; lia
  · simp only [startP, Nat.zero_add]
    rw [List.getElem?_append_right (by lia), List.getElem?_append_right (by lia), List.getElem?_append_left (by lia)]
    congr 1; lia
  · simp only [startP, Nat.zero_add]
    rw [List.getElem?_append_right (by lia), List.getElem?_append_right (by lia), List.getElem?_append_right (by lia)]
    congr 1; lia
theorem text_len (c : Nat → Int) : (textOf c).length = startP c 4 := by
  have s0 := spF_size c 0 (eN c 0)
  have s1 := spF_size c 1 (eN c 1)
  have s2 := spF_size c 2 (eN c 2)
  have s3 := spF_size c 3 (eN c 3)
  have e := congrArg List.length (textOf_cps c)
  simp only [List.length_append, s0, s1, s2, s3, Array.length_toList] at e
  simp only [startP, Nat.zero_add]
  unfold Str.length
  lia
noncomputable abbrev one (x : Nat) : Str := ⟨#[x]⟩
theorem ch_at (c : Nat → Int) {k j x : Nat} {p : Int} (hk : k < 4) (hj : j < lenP c k) (hx : (spF k (eN c k) (bN c k)).cps[j]? = some x) (hp : p = (startP c k : Nat) + (j : Nat)) : chAt (textOf c) p = one x := by
  have := chAt_at (tx := textOf c) (p := startP c k + j) (c := x) (by rw [text_at c hk hj]; exact hx)
  rw [hp]
  have e : ((startP c k + j : Nat) : Int) = (startP c k : Nat) + (j : Nat) := by lia
  rw [← e]; exact this
theorem plain_all : ∀ x ∈ [46, 97, 98, 99, 100, 10, 13], ((S "" == one x) == false && (one x == S "\"") == false && (one x == S "\\") == false && decide ((one x).length ≤ 1)) = true := by decide +kernel
theorem ws_all : ∀ x ∈ [46, 97, 98, 99, 100], (inWs (one x) == false) = true := by decide +kernel
theorem plain_of {x : Nat} (hx : x ∈ [46, 97, 98, 99, 100, 10, 13]) : Plain (one x) := by
  have := plain_all x hx
  simp only [Bool.and_eq_true, beq_iff_eq, decide_eq_true_eq] at this
  exact ⟨this.1.1.1, this.1.1.2, this.1.2, this.2⟩
theorem mem_let {k : Nat} (hk : k < 4) : 97 + k ∈ [97, 98, 99, 100] := mem_letter hk
theorem ln_step {x : Nat} {ln : Int} (hx : x ≠ 10) : lnUp (one x) ln = ln := by
  unfold lnUp
  have : (one x == S "\n") = false := by
    rw [Bool.eq_false_iff]
    intro h
    have := eq_of_beq h
    have e : (S "\n") = one 10 := by kernel_rfl
    rw [e] at this
    injection this with this
    have : [x] = [10] := by simpa using this
    simp at this; exact hx this
  first
    | rw [this]; simp
    | simp [this]
    | (rw [if_neg]; rw [this]; decide)
theorem ln_feed {ln : Int} : lnUp (one 10) ln = ln + 1 := by
  unfold lnUp
  have : (one 10 == S "\n") = true := by kernel_rfl
  first
    | rw [this]; simp
    | simp [this]
/-- where the lexer stands ahead of word i -/
noncomputable def PosAt (c : Nat → Int) (p : Int) (i : Nat) : Prop := p = (startP c i : Nat) ∨ ((startP c i : Nat) = p + 1 ∧ chAt (textOf c) p = S "\t")
theorem word_cat {k e : Nat} : S "" ++ one 46 ++ one (97 + k) ++ one e = wordF (97 + k) e := by kernel_rfl
section
variable {w : World} {A : Around} {s : Shared} {E : Value → Shared → Prop} {h : Heap} {tk : Nat}
/-- word i is read -/
theorem read_word {Q : Value → Shared → Prop} (hh : A.handled = none) (X : (KK w.params).In h) (hroom : A.depth + 2 < recursionLimit) {l : Lx} (k : l.Ok) (I : l.In h) {od opl oq : Obj} {m : Str → Option Value} {ln p : Int} {t0 : Tok} {c : Nat → Int} {i : Nat}
    (htx : l.tx = textOf c) (hi : i < 4) (hdl : h.get? l.dl = some od) (io : Ns1Obj od m) (lm : LexMap l m ln) (hpl : h.get? l.pl = some opl) (hol : LsObj opl #[.int p t0]) (hq : h.get? l.q = some oq) (hoq : LsObj oq #[]) (hp : PosAt c p i)
    (hQ : ∀ h' tk' t2 t3 od' opl' m' p', Now h [l.dl, l.pl] h' [(l.dl, od'), (l.pl, opl')] → Ns1Obj od' m' → LexMap l m' (ln + if eN c i = 10 then 1 else 0) → LsObj opl' #[.int p' t2] → PosAt c p' (i + 1) → Q (.str (wd (eN c) i 1) t3) (St s h' tk')) :
    wpAny (MM w) A (call (.ref 59) [.ref l.lx]) Q E (St s h tk) := by
  have hlen : 5 ≤ lenP c i := by unfold lenP; split <;> lia
  have m1 : 97 + i ∈ [46, 97, 98, 99, 100, 10, 13] := by
    have := mem_let hi
    simp at this ⊢; lia
  have m2 : eN c i ∈ [46, 97, 98, 99, 100, 10, 13] := by rcases eN_or c i with e | e <;> simp [e]
  have at_ : ∀ j x (p : Int), j < lenP c i → (spF i (eN c i) (bN c i)).cps[j]? = some x → p = (startP c i : Nat) + (j : Nat) → chAt l.tx p = one x := fun j x p hj hx e => by rw [htx]; exact ch_at c hi hj hx e
  refine get_word (c1 := one 46) (c2 := one (97 + i)) (c3 := one (eN c i)) (p' := (startP c i : Nat)) hh X hroom k I hdl io lm hpl hol hq hoq ?_ (plain_of (by simp)) (plain_of m1) (plain_of m2) ?_ ?_ ?_ ?_
  · rcases hp with e | ⟨e, e'⟩
    · exact .inl e.symm
    · exact .inr ⟨e, by rw [htx]; exact e'⟩
  · simpa using ws_all 46 (by simp)
  · have := ws_all (97 + i) (by have := mem_let hi; simp at this ⊢; lia)
    simpa using this
  · cases hb : bN c i with
    | false =>
      have h6 : lenP c i = 6 := by unfold lenP; rw [hb]; rfl
      rw [hb] at at_
      refine .inl ⟨at_ 0 34 _ (by lia) rfl (by lia), at_ 1 46 _ (by lia) rfl (by lia), at_ 2 (97 + i) _ (by lia) rfl (by lia), at_ 3 (eN c i) _ (by lia) rfl (by lia), at_ 4 34 _ (by lia) rfl (by lia)⟩
    | true =>
      have h5 : lenP c i = 5 := by unfold lenP; rw [hb]; rfl
      rw [hb] at at_
      refine .inr ⟨at_ 0 46 _ (by lia) rfl (by lia), at_ 1 (97 + i) _ (by lia) rfl (by lia), at_ 2 92 _ (by lia) rfl (by lia), at_ 3 (eN c i) _ (by lia) rfl (by lia), at_ 4 9 _ (by lia) rfl (by lia)⟩
  · intro h' tk' t2 t3 od' opl' m' D io' lm' hol'
    have e1 : lnUp (one 46) ln = ln := ln_step (by decide)
    have e2 : lnUp (one (97 + i)) ln = ln := ln_step (by lia)
    rw [e1, e2] at lm'
    have e3 : lnUp (one (eN c i)) ln = ln + if eN c i = 10 then 1 else 0 := by
      rcases eN_or c i with e | e
      · rw [e, if_pos rfl]; exact ln_feed
      · rw [e, if_neg (by decide), ln_step (by decide)]; lia
    rw [e3] at lm'
    rw [word_cat]
    have := hQ h' tk' t2 t3 od' opl' m' _ D io' lm' hol' (by
      unfold PosAt
      cases hb : bN c i with
      | true =>
        have h5 : lenP c i = 5 := by unfold lenP; rw [hb]; rfl
        left; simp only [startP]; lia
      | false =>
        have h6 : lenP c i = 6 := by unfold lenP; rw [hb]; rfl
        right
        refine ⟨by simp only [startP]; lia, ?_⟩
        have : (spF i (eN c i) (bN c i)).cps[5]? = some 9 := by rw [hb]; rfl
        exact ch_at c hi (j := 5) (by lia) this (by lia))
    rw [wd_one] at this
    exact this
/-- the fifth call: nothing is left -/
theorem read_none {Q : Value → Shared → Prop} (hh : A.handled = none) (X : (KK w.params).In h) (hroom : A.depth + 2 < recursionLimit) {l : Lx} (k : l.Ok) (I : l.In h) {od opl oq : Obj} {m : Str → Option Value} {ln p : Int} {t0 : Tok} {c : Nat → Int}
    (htx : l.tx = textOf c) (hdl : h.get? l.dl = some od) (io : Ns1Obj od m) (lm : LexMap l m ln) (hpl : h.get? l.pl = some opl) (hol : LsObj opl #[.int p t0]) (hq : h.get? l.q = some oq) (hoq : LsObj oq #[]) (hp : PosAt c p 4)
    (hQ : ∀ h' tk' t2 t3 od' opl' m' p', Now h [l.dl, l.pl] h' [(l.dl, od'), (l.pl, opl')] → Ns1Obj od' m' → LexMap l m' ln → LsObj opl' #[.int p' t2] → (l.tx.length : Int) ≤ p' → Q (.str (S "") t3) (St s h' tk')) :
    wpAny (MM w) A (call (.ref 59) [.ref l.lx]) Q E (St s h tk) := by
  have hl : (l.tx.length : Int) = (startP c 4 : Nat) := by rw [htx, text_len]
  rcases hp with e | ⟨e, e'⟩
  · exact get_end hh X hroom k I hdl io lm hpl hol hq hoq (chAt_end (by lia)) fun h' tk' t2 t3 od' opl' m' D io' lm' hol' => hQ h' tk' t2 t3 od' opl' m' _ D io' lm' hol' (by lia)
  · exact get_tab hh X hroom k I hdl io lm hpl hol hq hoq (by rw [htx]; exact e') (chAt_end (by lia)) fun h' tk' t2 t3 od' opl' m' D io' lm' hol' => hQ h' tk' t2 t3 od' opl' m' _ D io' lm' hol' (by lia)
end
end
section
open PySem PySem.W PySem.W.X PyProof.Rows PySem.Calls PySem.Spec PyProof
open LCg (NsObj lst)
set_option maxHeartbeats 1000000
theorem cnt_word (c : Nat → Int) (k : Nat) : cnt 10 (spF k (eN c k) (bN c k)).cps.toList = if eN c k = 10 then 1 else 0 := by
  have hk : ¬ (97 + k = 10) := by lia
  unfold spF
  cases bN c k
  · show cnt 10 [34, 46, 97 + k, eN c k, 34, 9] = _
    simp [cnt_cons, cnt_nil, hk]
  · show cnt 10 [46, 97 + k, 92, eN c k, 9] = _
    simp [cnt_cons, cnt_nil, hk]
theorem count_feeds (c : Nat → Int) : (Txt.count (textOf c) (S "\n") : Int) = feeds c 4 := by
  have e : S "\n" = ⟨#[10]⟩ := by kernel_rfl
  rw [e, count_cnt, textOf_cps, cnt_append, cnt_append, cnt_append, cnt_word, cnt_word, cnt_word, cnt_word]
  simp only [feeds]
  lia
section
variable {w : World} {A : Around} {s : Shared} {h : Heap} {tk : Nat} {E : Value → Shared → Prop} {env : Env} {hb : Heap} {ch : List Addr} {obs : List (Addr × Obj)} {Q : Value → Shared → Prop}
theorem r_addL {l b : Addr} {vs ws : List Value} (N : Now hb ch h obs) (hl : h.IsList l vs.toArray) (hb' : h.IsList b ws.toArray) (hz : vs.length + ws.length ≤ 1000)
    (hq : ∀ h' D, Now hb ch h' (obs ++ [(D, listObj (vs ++ ws).toArray 0)]) → Q (.ref D) (St s h' tk)) : wpAny (MM w) A (binaryOp .Add (.ref l) (.ref b)) Q E (St s h tk) := by
  refine Classical.byContradiction fun hng => ?_
  obtain ⟨⟨cls, dd, data, sl⟩, ho, hc, n, hd⟩ := id hl
  refine hng ?_
  refine Classical.byContradiction fun hng => ?_
  obtain ⟨⟨cls2, dd2, data2, sl2⟩, ho2, hc2, n2, hd2⟩ := id hb'
  refine hng ?_
  simp only at hc hd hc2 hd2
  subst hc hd hc2 hd2
  have e : vs.toArray ++ ws.toArray = (vs ++ ws).toArray := by simp
  refine concat_meets (s := St s h tk) ⟨_, ho, rfl⟩ ⟨_, ho2, rfl⟩ noFill_list_add seq_list_add PySem.F.slot_list_add PySem.F.entry_list_add (PySem.F.args_list_add_2 _ _) (list_addW l b vs.toArray ws.toArray n n2 dd dd2 sl sl2 (by rw [List.size_toArray, List.size_toArray, sizeLine_eq]; lia)) ⟨ho, ho2, ?_⟩
  rw [e]
  exact hq _ _ (N.allocE (listObj (vs ++ ws).toArray 0) rfl)
/-- two lists that are equal item by item -/
theorem r_neL {l b : Addr} {xs ys : Array Value} (hl : h.IsList l xs) (hb' : h.IsList b ys) (hsz : xs.size = ys.size) (hu : A.units < cLine)
    (he : ∀ j (h1 : j < xs.size) (h2 : j < ys.size), SeqAt.EqAt A.in1 (St s h tk) xs[j] ys[j] true) (hq : Q (.bool false) (St s h tk)) : wpAny (MM w) A (compareOp .NotEq (.ref l) (.ref b)) Q E (St s h tk) := by
  refine SeqAt.RcNeAt.lists (s := St s h tk) (e := fun _ => true) hl hb' hsz hu he PR w E Q ?_
  have : (!(List.range xs.size).all fun _ => true) = false := by simp
  rw [this]; exact hq
end
noncomputable abbrev lawAll (L : Addr) (oL : Obj) (vs : Value) (v6 v9 : Option Value) (l : Lx) (c : Nat → Int) (tc tn tp tw : Nat → Tok) (ca na pa ds dp wa : Addr) (ods odp t1 t2 od opl oq : Obj) : List (Addr × Obj) :=
  lawObs L oL (some vs) (some (.ref na)) (some (.ref ds)) (some (.ref wa)) (some (.ref l.lx)) v6 (some (.ref ca)) (some (.ref pa)) v9 ++ lawLists c tc tn tp tw ca na pa ds dp wa ods odp ++ [(141, t1), (179, t2)] ++ lexObs l od opl oq
theorem lawAll_in {hb h : Heap} {ch : List Addr} {L : Addr} {oL : Obj} {vs : Value} {v6 v9 : Option Value} {l : Lx} {c : Nat → Int} {tc tn tp tw : Nat → Tok} {ca na pa ds dp wa : Addr} {ods odp t1 t2 od opl oq : Obj} {r : List (Addr × Obj)}
    (N : Now hb ch h (lawAll L oL vs v6 v9 l c tc tn tp tw ca na pa ds dp wa ods odp t1 t2 od opl oq ++ r)) : l.In h := by
  intro p hp
  rcases List.mem_cons.mp hp with rfl | hp
  · exact N.get 26 rfl
  rcases List.mem_cons.mp hp with rfl | hp
  · exact N.get 18 rfl
  rcases List.mem_cons.mp hp with rfl | hp
  · exact N.get 19 rfl
  rcases List.mem_cons.mp hp with rfl | hp
  · exact N.get 20 rfl
  rcases List.mem_cons.mp hp with rfl | hp
  · exact N.get 23 rfl
  rcases List.mem_cons.mp hp with rfl | hp
  · exact N.get 24 rfl
  rcases List.mem_singleton.mp hp with rfl
  exact N.get 21 rfl
end
section
open PySem PySem.W PySem.W.X PyProof.Rows PySem.Calls PySem.Spec PyProof
open LCg (NsObj lst)
set_option maxHeartbeats 1000000
theorem lt4 {i : Nat} (h : i < 4) : i = 0 ∨ i = 1 ∨ i = 2 ∨ i = 3 := by lia
section
variable {w : World} {A : Around} {s : Shared} {E : Value → Shared → Prop} {Q : Flow → Shared → Prop} {hb h : Heap} {tk : Nat} {L : Addr} {oL : Obj} {m : Str → Option Value}
theorem law4 (X : (KK w.params).In hb) (hh : A.handled = none) (hroom : A.depth + 4 < recursionLimit) (hu : A.units < cLine) {vs : Value} {c : Nat → Int} {tc tn tp tw : Nat → Tok} {ca na pa ds dp wa : Addr} {ods odp t1 t2 od opl : Obj} {tt t0 : Tok} {l : Lx} {mx : Str → Option Value}
    (N : Now hb [141, 179] h (lawAll L oL vs none none l c tc tn tp tw ca na pa ds dp wa ods odp t1 t2 od opl (listObj #[] 0))) (nL : NsObj oL m) (hm : m (S "text") = some (.str (textOf c) tt))
    (k : l.Ok) (htx : l.tx = textOf c) (io : Ns1Obj od mx) (lm : LexMap l mx 1) (hol : LsObj opl #[.int 0 t0])
    (hq : ∀ h' tk' od opl, Now hb [141, 179] h' (lawAll L oL vs none none l c tc tn tp tw ca na pa ds dp wa ods odp t1 t2 od opl (listObj #[] 0)) → LexSt l od opl (listObj #[] 0) (1 + feeds c 4) [] →
      wpAny (MM w) A (execs (bLaw.drop 11) (eW w L)) Q E (St s h' tk')) :
    wpAny (MM w) A (execs (bLaw.drop 9) (eW w L)) Q E (St s h tk) := by
  let R63 : List (Addr × Obj) := lawAll L oL vs none none l c tc tn tp tw ca na pa ds dp wa ods odp t1 t2 od opl (listObj #[] 0)
  replace N : Now hb [141, 179] h R63 := N
  have hlo : ∀ a ∈ [141, 179], Lo a := fun a ha => by
    rcases List.mem_cons.mp ha with rfl | ha
    · exact lo_table1
    · rcases List.mem_singleton.mp ha with rfl; exact lo_table2
  have XN : ∀ {h' : Heap} {obs : List (Addr × Obj)}, Now hb [141, 179] h' obs → (KK w.params).In h' := fun N' => kk_keep X N' hlo
  conv => arg 3; arg 1; whnf
  with_reducible refine wpAny_execs_cons ?_
  with_reducible refine wpAny_If ?_
  refine wpAny_isTrue_Compare1 ?_ (by kernel_rfl)
  refine r_lc (cl := [(S "lexer", L + 5)]) (by kernel_rfl) (by kernel_rfl) (by kernel_rfl) (by intro _; kernel_rfl) ?_
  refine r_four (n := 5) (XN N) (by kernel_rfl) (by kernel_rfl) (by kernel_rfl) (by kernel_rfl) (by decide) (by kernel_rfl) N fun h₁ tk₁ I oI N₁ hI hIc => ?_
  let J13 : Nat → List (Addr × Obj) → List Value → Prop := fun i obs' items => ∃ od opl mx p t0, obs' = lawAll L oL vs none none l c tc tn tp tw ca na pa ds dp wa ods odp t1 t2 od opl (listObj #[] 0) ∧ Ns1Obj od mx ∧ LexMap l mx (1 + feeds c (min i 4)) ∧ LsObj opl #[.int p t0] ∧ (i ≤ 4 → PosAt c p i) ∧ (i = 5 → (l.tx.length : Int) ≤ p) ∧ ∃ t : Nat → Tok, items = (List.range i).map fun k => .str (if k < 4 then wd (eN c) k 1 else S "") (t k)
  refine lcAll J13
    (walks_range hh 5) (fun i h e => ⟨_, e⟩) hIc (by kernel_rfl) (by kernel_rfl) (by intro C; kernel_rfl) (by decide) stays_range N₁ (by simpa using hI) ⟨od, opl, mx, 0, t0, rfl, io, by simpa [feeds] using lm, hol, fun _ => .inl rfl, fun e => (by lia), fun _ => 0, rfl⟩ ?_ ?_
  · intro i v h' tk' C D oC mC oI' _ items E' hi hz1 hz2 nC hC N'
    refine Classical.byContradiction fun hng => ?_
    obtain ⟨t, rfl⟩ := hz1
    obtain ⟨od', opl', mx', p', t0', rfl, io', lm', hol', hp, _, tf, rfl⟩ := hz2
    refine hng ?_
    refine wpAny_tests_nil ?_
    simp only [if_true]
    have In := lawAll_in N'
    refine MethodCall_ ?_ 
    refine r_cell (s := s) (c := L + 5) (v := .ref l.lx) (by kernel_rfl) (by kernel_rfl) (by kernel_rfl) (N'.get 5 rfl) ?_ (by kernel_rfl)
    refine r_method (f := 59) (XN N') (N'.get 26 rfl) (N'.get 27 rfl) io'.ns (by kernel_rfl) (by kernel_rfl) (by kernel_rfl) (by kernel_rfl) (method_none lm' (by kernel_rfl)) ?_
    refine callWith_meth0 (o := obAt (KK w.params) 59) (fd := fnAt (KK w.params) 59) (by kernel_rfl) ((XN N') 59 _ (by kernel_rfl)) ?_
    by_cases h4 : i < 4
    · refine read_word hh (XN N') (by lia) k In htx h4 (N'.get 27 rfl) io' lm' (N'.get 22 rfl) hol' (N'.get 25 rfl) ⟨rfl, 0, rfl⟩ (hp (by lia)) fun h₂ tk₂ u2 u3 od₂ opl₂ m₂ p₂ D₂ io₂ lm₂ hol₂ hp₂ => ?_
      have N₂ := N'.upd2 27 22 rfl rfl (by decide) D₂
      refine ⟨h₂, tk₂, lawAll L oL vs none none l c tc tn tp tw ca na pa ds dp wa ods odp t1 t2 od₂ opl₂ (listObj #[] 0), rfl, ⟨od₂, opl₂, m₂, p₂, u2, rfl, io₂, ?_, hol₂, fun _ => hp₂, fun e => (by lia), ?_⟩, N₂⟩
      · have e1 : min i 4 = i := by lia
        have e2 : min (i + 1) 4 = i + 1 := by lia
        rw [e1] at lm₂; rw [e2]
        simp only [feeds]
        have : 1 + (feeds c i + if eN c i = 10 then 1 else 0) = 1 + feeds c i + if eN c i = 10 then 1 else 0 := by lia
        rw [this]; exact lm₂
      · have e : Value.str (wd (eN c) i 1) u3 = (fun k u => Value.str (if k < 4 then wd (eN c) k 1 else S "") u) i u3 := by simp [h4]
        rw [e]
        exact snoc_fun (f := fun k u => Value.str (if k < 4 then wd (eN c) k 1 else S "") u)
    · have i4 : i = 4 := by lia
      subst i4
      refine read_none hh (XN N') (by lia) k In htx (N'.get 27 rfl) io' lm' (N'.get 22 rfl) hol' (N'.get 25 rfl) ⟨rfl, 0, rfl⟩ (hp (by lia)) fun h₂ tk₂ u2 u3 od₂ opl₂ m₂ p₂ D₂ io₂ lm₂ hol₂ hp₂ => ?_
      have N₂ := N'.upd2 27 22 rfl rfl (by decide) D₂
      refine ⟨h₂, tk₂, lawAll L oL vs none none l c tc tn tp tw ca na pa ds dp wa ods odp t1 t2 od₂ opl₂ (listObj #[] 0), rfl, ⟨od₂, opl₂, m₂, p₂, u2, rfl, io₂, lm₂, hol₂, fun e => (by lia), fun _ => hp₂, ?_⟩, N₂⟩
      exact snoc_fun (f := fun k u => Value.str (if k < 4 then wd (eN c) k 1 else S "") u)
  · intro h' tk' C D oC mC _ items hz3 nC hC N'
    refine Classical.byContradiction fun hng => ?_
    obtain ⟨od', opl', mx', p', t0', rfl, io', lm', hol', _, hp, tf, rfl⟩ := hz3
    refine hng ?_
    refine compEnd N' hC nC fun h₂ N₂ => ?_
    with_reducible refine wpAny_BinOp ?_
    refine r_cell (s := s) (env := eW w L) (c := L + 4) (v := .ref wa) (by kernel_rfl) (by kernel_rfl) (by kernel_rfl) (N₂.get 4 rfl) ?_ (by kernel_rfl)
    refine r_list (s := St s h₂ tk') ?_
    refine args_cons ?_ (by kernel_rfl)
    refine r_str (s := s) fun u1 tk1 => ?_
    refine args_nil ⟨by simp [sizeLine_eq], ?_⟩
    have N₃ := N₂.allocE (listObj #[.str (S "") u1] 0) rfl
    refine r_addL (s := s) (vs := (List.range 4).map fun k => .str (wd (eN c) k 1) (tw k)) (ws := [.str (S "") u1]) N₃ ⟨_, N₃.get 15 rfl, rfl, _, rfl⟩ ⟨_, Heap.get?_push_size _ rfl, rfl, _, rfl⟩ (by simp) fun h₄ D2 N₄ => ?_
    refine r_neL (s := s) (xs := ((List.range 5).map fun k => Value.str (if k < 4 then wd (eN c) k 1 else S "") (tf k)).toArray) (ys := (((List.range 4).map fun k => Value.str (wd (eN c) k 1) (tw k)) ++ [Value.str (S "") u1]).toArray) ⟨_, N₄.get 28 rfl, rfl, _, rfl⟩ ⟨_, N₄.get 30 rfl, rfl, _, rfl⟩ (by simp) hu (fun j h1 h2 => ?_) ?_
    · have hj : j < 5 := by simpa using h1
      have key : ∀ (x : Str) (u u' : Tok), SeqAt.EqAt A.in1 (St s h₄ tk1) (.str x u) (.str x u') true := fun x u u' => by
        have := SeqAt.EqAt.str_str (A := A.in1) (s := St s h₄ tk1) x u x u'
        rwa [beq_self_eq_true] at this
      have : j = 0 ∨ j = 1 ∨ j = 2 ∨ j = 3 ∨ j = 4 := by lia
      rcases this with rfl | rfl | rfl | rfl | rfl <;> exact key _ _ _
    · refine wpAny_truthy_bool ?_
      rw [if_neg (by decide)]
      refine wpAny_execs_nil ?_
      have N₅ := N₄.drop.drop.drop
      with_reducible refine wpAny_execs_cons ?_
      with_reducible refine wpAny_If ?_
      refine wpAny_isTrue_Compare1 ?_ (by kernel_rfl)
      refine Attribute_name (r_cell (s := s) (env := eW w L) (c := L + 5) (v := .ref l.lx) (by kernel_rfl) (by kernel_rfl) (by kernel_rfl) (N₅.get 5 rfl) ?_ (by kernel_rfl))
      obtain ⟨tl, hln⟩ := lm'.ln
      refine r_attr (XN N₅) (N₅.get 26 rfl) (N₅.get 27 rfl) io'.ns (by kernel_rfl) (by kernel_rfl) (by kernel_rfl) hln (by rfl) fun tk₂ => ?_
      with_reducible refine wpAny_BinOp ?_
      refine r_int (s := s) fun u4 tk4 => ?_
      refine MethodCall_ ?_
      refine r_name (env := eW w L) (s := s) (v := .str (textOf c) tt) (N₅.get 0 rfl) nL hm (by kernel_rfl) (by kernel_rfl) ?_ (by kernel_rfl)
      refine GM.count ?_
      refine callWith_method1 ?_ (by kernel_rfl) (by kernel_rfl)
      refine args_cons ?_ (by kernel_rfl)
      refine r_str (s := s) fun u5 tk5 => ?_
      refine args_nil ?_
      refine SC.count ?_
      refine r_add (s := s) fun u6 tk6 => ?_
      refine PyProof.Rows.ne_int ?_
      refine wpAny_truthy_bool ?_
      have ec : (1 + feeds c (min 5 4) != 1 + (Txt.count (textOf c) (Str.ofString "\n") : Int)) = false := by
        have := count_feeds c
        have e : (Txt.count (textOf c) (Str.ofString "\n") : Int) = feeds c 4 := this
        rw [e]; simp
      rw [ec, if_neg (by decide)]
      refine wpAny_execs_nil ?_
      exact hq h₄ tk6 od' opl' N₅ ⟨⟨mx', p', t0', 0, io', lm', hol', hp rfl, rfl⟩⟩
end
end
section
open PySem PySem.W PySem.W.X PyProof.Rows PySem.Calls PySem.Spec PyProof
open LCg (NsObj lst)
set_option maxHeartbeats 1000000
noncomputable def wayOf (T : Int) : Int := 1 - 2 * (T.fdiv 2).fmod 2
theorem wayOf_or (T : Int) : wayOf T = 1 ∨ wayOf T = -1 := by
  have := fmod_bounds (T.fdiv 2) (n := 2) (by decide)
  unfold wayOf; lia
noncomputable abbrev rowO (c : Nat → Int) (tc tn tp : Nat → Tok) (k : Nat) : Obj := { cls := .type "tuple", data := .seq #[.int (szN c k : Nat) (tp k), .int (c k) (tc k), .str (nmL k) (tn k)] }
noncomputable def pzN (c : Nat → Int) (k : Nat) : Int := (szN c k : Nat)
noncomputable def ordL (c : Nat → Int) (T : Int) : List Nat := orderOf (leRow (pzN c) c (wayOf T)) 4
section
variable {w : World} {s : Shared} {E : Value → Shared → Prop} {Q : Flow → Shared → Prop} {hb h : Heap} {tk : Nat} {L : Addr} {oL : Obj} {m : Str → Option Value}
theorem law5 (X : (KK w.params).In hb) {vs : Value} {c : Nat → Int} {tc tn tp tw : Nat → Tok} {ca na pa ds dp wa : Addr} {ods odp t1 t2 od opl oq : Obj} {T : Int} {tT : Tok} {l : Lx}
    (N : Now hb [141, 179] h (lawAll L oL vs none none l c tc tn tp tw ca na pa ds dp wa ods odp t1 t2 od opl oq)) (nL : NsObj oL m) (hm : m (S "total") = some (.int T tT))
    (hq : ∀ h' tk' oL' m' tv lo li, Now hb [141, 179] h' (lawAll L oL' vs none (some (.int (wayOf T) tv)) l c tc tn tp tw ca na pa ds dp wa ods odp t1 t2 od opl oq ++ [(lo, lst ((ordL c T).map fun i => .str (nmL i) (tn i))), (li, listObj #[.ref na, .ref na, .ref lo] 0)]) →
      NsObj oL' m' → m' (S "lines") = some (.ref li) → (∀ x, x ≠ S "lines" → x ≠ S "rows" → m' x = m x) →
      wpAny (MM w) (callerA.deeper (eW w L)) (execs (bLaw.drop 14) (eW w L)) Q E (St s h' tk')) :
    wpAny (MM w) (callerA.deeper (eW w L)) (execs (bLaw.drop 11) (eW w L)) Q E (St s h tk) := by
  have hh : (callerA.deeper (eW w L)).handled = none := rfl
  have hlo : ∀ a ∈ [141, 179], Lo a := fun a ha => by
    rcases List.mem_cons.mp ha with rfl | ha
    · exact lo_table1
    · rcases List.mem_singleton.mp ha with rfl; exact lo_table2
  have XN : ∀ {h' : Heap} {obs : List (Addr × Obj)}, Now hb [141, 179] h' obs → (KK w.params).In h' := fun N' => kk_keep X N' hlo
  conv => arg 3; arg 1; whnf
  with_reducible refine x_assign ?_ (by kernel_rfl)
  with_reducible refine wpAny_BinOp ?_
  refine r_int (s := s) fun u1 tk1 => ?_
  with_reducible refine wpAny_BinOp ?_
  refine r_int (s := s) fun u2 tk2 => ?_
  with_reducible refine wpAny_BinOp ?_
  with_reducible refine wpAny_BinOp ?_
  refine r_name (env := eW w L) (s := s) (v := .int T tT) (N.get 0 rfl) nL hm (by kernel_rfl) (by kernel_rfl) ?_ (by kernel_rfl)
  refine r_int (s := s) fun u3 tk3 => ?_
  refine r_fdiv (s := s) (by decide) (by decide) fun u4 tk4 => ?_
  refine r_int (s := s) fun u5 tk5 => ?_
  refine r_mod (s := s) (by decide) fun u6 tk6 => ?_
  have hbd := fmod_bounds (T.fdiv 2) (n := 2) (by decide)
  refine r_mul (s := s) (mulOk_small (by lia) (by lia)) fun u7 tk7 => ?_
  refine r_sub (s := s) fun tv tk8 => ?_
  refine r_storeC (env := eW w L) (s := s) (c := L + 9) N 9 rfl (by kernel_rfl) (by kernel_rfl) (by kernel_rfl) fun h₁ N₁ => ?_
  replace N₁ : Now hb [141, 179] h₁ (lawAll L oL vs none (some (.int (wayOf T) tv)) l c tc tn tp tw ca na pa ds dp wa ods odp t1 t2 od opl oq) := N₁
  with_reducible refine wpAny_execs_cons ?_
  refine r_lcA (cl := [(S "parts", L + 8), (S "names", L + 2), (S "cells", L + 7)]) (by kernel_rfl) (by kernel_rfl) (by kernel_rfl) (by kernel_rfl) (by intro _; kernel_rfl) ?_
  refine r_four (n := 4) (XN N₁) (by kernel_rfl) (by kernel_rfl) (by kernel_rfl) (by kernel_rfl) (by decide) (by kernel_rfl) N₁ fun h₂ tk₂ I oI N₂ hI hIc => ?_
  let J15 : Nat → List (Addr × Obj) → List Value → Prop := fun i obs' items => ∃ ra : Nat → Addr, obs' = lawAll L oL vs none (some (.int (wayOf T) tv)) l c tc tn tp tw ca na pa ds dp wa ods odp t1 t2 od opl oq ++ (List.range i).map (fun k => (ra k, rowO c tc tn tp k)) ∧ items = (List.range i).map fun k => .ref (ra k)
  refine lcAll J15
    (walks_range hh 4) (fun i h e => ⟨_, e⟩) hIc (by kernel_rfl) (by kernel_rfl) (by intro C; kernel_rfl) (by decide) stays_range N₂ (by simpa using hI) ⟨fun _ => 0, by simp, rfl⟩ ?_ ?_
  · intro i v h' tk' C D oC mC oI' _ items E' hi hz1 hz2 nC hC N'
    refine Classical.byContradiction fun hng => ?_
    obtain ⟨t, rfl⟩ := hz1
    obtain ⟨ra, rfl, rfl⟩ := hz2
    refine hng ?_
    refine wpAny_tests_nil ?_
    simp only [if_true]
    have eC : h'.get? C = some oC := N'.at_ (C, oC) (by simp)
    have g : ∀ {j : Nat} {a : Addr} {o : Obj}, (lawAll L oL vs none (some (.int (wayOf T) tv)) l c tc tn tp tw ca na pa ds dp wa ods odp t1 t2 od opl oq)[j]? = some (a, o) → h'.get? a = some o := fun {j a o} e =>
      N'.at_ (a, o) (List.mem_append_left _ (List.mem_append_left _ (List.mem_of_getElem? e)))
    refine r_tuple (s := s) ?_
    refine args_cons ?_ (by kernel_rfl)
    with_reducible refine Subscript_ ?_
    refine r_cell (s := s) (c := L + 8) (v := .ref pa) (by kernel_rfl) (by kernel_rfl) (by kernel_rfl) (g (j := 8) rfl) ?_ (by kernel_rfl)
    refine r_name (s := s) (v := .int (i : Nat) t) eC nC hC (by kernel_rfl) (by kernel_rfl) ?_ (by kernel_rfl)
    refine r_itemL (s := s) (items := ((List.range 4).map fun k => Value.int (szN c k : Nat) (tp k)).toArray) ⟨_, g (j := 12) rfl, rfl, _, rfl⟩ (by lia) (get_funA hi) ?_ (by kernel_rfl) (by intro _; kernel_rfl)
    refine args_cons ?_ (by kernel_rfl)
    with_reducible refine Subscript_ ?_
    refine r_cell (s := s) (c := L + 7) (v := .ref ca) (by kernel_rfl) (by kernel_rfl) (by kernel_rfl) (g (j := 7) rfl) ?_ (by kernel_rfl)
    refine r_name (s := s) (v := .int (i : Nat) t) eC nC hC (by kernel_rfl) (by kernel_rfl) ?_ (by kernel_rfl)
    refine r_itemL (s := s) (items := ((List.range 4).map fun k => Value.int (c k) (tc k)).toArray) ⟨_, g (j := 10) rfl, rfl, _, rfl⟩ (by lia) (get_funA hi) ?_ (by kernel_rfl) (by intro _; kernel_rfl)
    refine args_cons ?_ (by kernel_rfl)
    with_reducible refine Subscript_ ?_
    refine r_cell (s := s) (c := L + 2) (v := .ref na) (by kernel_rfl) (by kernel_rfl) (by kernel_rfl) (g (j := 2) rfl) ?_ (by kernel_rfl)
    refine r_name (s := s) (v := .int (i : Nat) t) eC nC hC (by kernel_rfl) (by kernel_rfl) ?_ (by kernel_rfl)
    refine r_itemL (s := s) (items := ((List.range 4).map fun k => Value.str (nmL k) (tn k)).toArray) ⟨_, g (j := 11) rfl, rfl, _, rfl⟩ (by lia) (get_funA hi) ?_ (by kernel_rfl) (by intro _; kernel_rfl)
    refine args_nil ⟨by simp [sizeLine_eq], ?_⟩
    have N₃ := (N'.allocE (rowO c tc tn tp i) rfl).swap3
    obtain ⟨ra', er⟩ := snoc_fun (f := fun k (a : Addr) => (Value.ref a, (a, rowO c tc tn tp k))) (t := ra) (i := i) (u := h'.objs.size)
    have e1 := congrArg (List.map Prod.fst) er
    have e2 := congrArg (List.map Prod.snd) er
    simp only [List.map_append, List.map_map, List.map_cons, List.map_nil, Function.comp_def] at e1 e2
    refine ⟨_, _, _, rfl, ⟨ra', ?_, e1⟩, N₃⟩
    rw [List.append_assoc]; exact congrArg _ e2
  · rintro h' tk' C D oC mC _ items ⟨ra, rfl, rfl⟩ nC hC N'
    let R37 : List (Addr × Obj) := ((lawAll L oL vs none (some (.int (wayOf T) tv)) l c tc tn tp tw ca na pa ds dp wa ods odp t1 t2 od opl oq ++ [(ra 0, rowO c tc tn tp 0), (ra 1, rowO c tc tn tp 1), (ra 2, rowO c tc tn tp 2), (ra 3, rowO c tc tn tp 3)]) ++ [(D, lst ((List.range 4).map fun k => .ref (ra k)))]) ++ [(C, oC)]
    replace N' : Now hb [141, 179] h' R37 := N'
    refine compEndA (j := 0) N' hC nC rfl nL (by kernel_rfl) (by kernel_rfl) fun h₃ o₃ tk₃ N₃ n₃ => ?_
    let R38 : List (Addr × Obj) := lawAll L o₃ vs none (some (.int (wayOf T) tv)) l c tc tn tp tw ca na pa ds dp wa ods odp t1 t2 od opl oq ++ [(ra 0, rowO c tc tn tp 0), (ra 1, rowO c tc tn tp 1), (ra 2, rowO c tc tn tp 2), (ra 3, rowO c tc tn tp 3)] ++ [(D, lst ((List.range 4).map fun k => .ref (ra k)))]
    replace N₃ : Now hb [141, 179] h₃ R38 := N₃
    with_reducible refine x_assign ?_ (by kernel_rfl)
    with_reducible refine r_list (s := St s h₃ tk₃) ?_
    with_reducible refine args_cons ?_ (by kernel_rfl)
    refine r_cell (s := s) (env := eW w L) (c := L + 2) (v := .ref na) (by kernel_rfl) (by kernel_rfl) (by kernel_rfl) (N₃.get 2 rfl) ?_ (by kernel_rfl)
    with_reducible refine args_cons ?_ (by kernel_rfl)
    refine r_cell (s := s) (env := eW w L) (c := L + 2) (v := .ref na) (by kernel_rfl) (by kernel_rfl) (by kernel_rfl) (N₃.get 2 rfl) ?_ (by kernel_rfl)
    with_reducible refine args_cons ?_ (by kernel_rfl)
    with_reducible refine r_callD (s := s) (f := 158) (o := obAt (KK w.params) 158) (fd := fnAt (KK w.params) 158) (XN N₃) (by kernel_rfl) (by kernel_rfl) (by kernel_rfl) (by kernel_rfl) (by kernel_rfl) (by kernel_rfl) (by kernel_rfl) ?_ (by kernel_rfl)
    with_reducible refine args_cons ?_ (by kernel_rfl)
    refine r_name (env := eW w L) (s := s) (v := .ref D) (N₃.get 0 rfl) n₃ (up_self _ _ _) (by kernel_rfl) (by kernel_rfl) ?_ (by kernel_rfl)
    with_reducible refine args_cons ?_ (by kernel_rfl)
    with_reducible refine Call_Name rfl ?_
    with_reducible refine r_global (v := .ref 97) (s := s) (XN N₃) (by kernel_rfl) (by kernel_rfl) (by kernel_rfl) (by kernel_rfl) ?_ (by kernel_rfl)
    with_reducible refine callWith_K (K := KK w.params) (h₀ := h₃) (XN N₃) (by kernel_rfl) ?_ (by kernel_rfl) (by kernel_rfl)
    with_reducible refine args_cons ?_ (by kernel_rfl)
    with_reducible refine r_list (s := St s h₃ tk₃) ?_
    with_reducible refine args_cons ?_ (by kernel_rfl)
    with_reducible refine r_tuple (s := s) ?_
    with_reducible refine args_cons ?_ (by kernel_rfl)
    with_reducible refine r_int (s := s) fun a1 k1 => ?_
    with_reducible refine args_cons ?_ (by kernel_rfl)
    with_reducible refine r_int (s := s) fun a2 k2 => ?_
    refine args_nil ⟨by simp [sizeLine_eq], ?_⟩
    have N₄ := N₃.allocE { cls := .type "tuple", data := .seq #[.int 0 a1, .int 1 a2] } rfl
    generalize ee0 : h₃.objs.size = e0 at N₄
    with_reducible refine args_cons ?_ (by kernel_rfl)
    with_reducible refine r_tuple (s := s) ?_
    with_reducible refine args_cons ?_ (by kernel_rfl)
    with_reducible refine r_int (s := s) fun a3 k3 => ?_
    with_reducible refine args_cons ?_ (by kernel_rfl)
    refine r_cell (s := s) (env := eW w L) (c := L + 9) (v := .int (wayOf T) tv) (by kernel_rfl) (by kernel_rfl) (by kernel_rfl) (N₄.get 9 rfl) ?_ (by kernel_rfl)
    refine args_nil ⟨by simp [sizeLine_eq], ?_⟩
    have N₅ := N₄.allocE { cls := .type "tuple", data := .seq #[.int 1 a3, .int (wayOf T) tv] } rfl
    generalize ee1 : (h₃.push { cls := .type "tuple", data := .seq #[.int 0 a1, .int 1 a2] }).objs.size = e1 at N₅
    refine args_nil ⟨by simp [sizeLine_eq], ?_⟩
    have N₆ := N₅.allocE (listObj #[.ref e0, .ref e1] 0) rfl
    refine args_nil ⟨?_, ?_⟩
    · exact XN N₆
    refine comp_h (env := eW w L) (XN N₆) fun h₇ tk₇ tc' dt odt mT D2 io y1 y2 => ?_
    have N₇ := N₆.pureE D2
    refine args_nil ⟨(XN N₇) _ _ (by kernel_rfl), ?_⟩
    refine law_order (s := s) (p := pzN c) (c := c) (nm := nmL) (n := 4) (ra := ra) (tp := tp) (tq := tc) (tn := tn) (way := wayOf T) (XN N₇) (of_decide_eq_true (by kernel_rfl)) hh (la := D) ⟨_, N₇.get 32 rfl, rfl, _, rfl⟩ (by decide) (fun i hi => ?_) (N₇.get 36 rfl) (N₇.get 37 rfl) io y1 y2 ⟨_, N₇.get 35 rfl, rfl, _, rfl⟩ ⟨_, N₇.get 33 rfl, rfl, _, rfl⟩ ⟨_, N₇.get 34 rfl, rfl, _, rfl⟩ (wayOf_or T) fun h₈ tk₈ lo D8 => ?_
    · rcases lt4 hi with rfl | rfl | rfl | rfl
      · exact ⟨_, N₇.get 28 rfl, rfl, _, rfl⟩
      · exact ⟨_, N₇.get 29 rfl, rfl, _, rfl⟩
      · exact ⟨_, N₇.get 30 rfl, rfl, _, rfl⟩
      · exact ⟨_, N₇.get 31 rfl, rfl, _, rfl⟩
    · have N₈ := N₇.pureE D8
      refine args_nil ⟨by simp [sizeLine_eq], ?_⟩
      have N₈' : Now hb [141, 179] h₈ (lawAll L o₃ vs none (some (.int (wayOf T) tv)) l c tc tn tp tw ca na pa ds dp wa ods odp t1 t2 od opl oq ++ [(lo, lst ((ordL c T).map fun i => .str (nmL i) (tn i)))]) :=
        N₈.sub (List.Sublist.append ((((((List.sublist_append_left _ _).trans (List.sublist_append_left _ _)).trans (List.sublist_append_left _ _)).trans (List.sublist_append_left _ _)).trans (List.sublist_append_left _ _)).trans (List.sublist_append_left _ _)) (List.Sublist.refl _))
      have N₉ := N₈'.allocE (listObj #[.ref na, .ref na, .ref lo] 0) rfl
      rw [List.append_assoc] at N₉
      generalize h₈.objs.size = li at N₉ ⊢
      refine r_store (env := eW w L) (s := s) N₉ 0 rfl n₃ (by kernel_rfl) (by kernel_rfl) fun h₁₀ o₁₀ tk₁₀ N₁₀ n₁₀ => ?_
      refine hq h₁₀ _ o₁₀ _ tv lo li N₁₀ n₁₀ (up_self _ _ _) fun x hx1 hx2 => ?_
      rw [up_ne (by simpa using hx1), up_ne (by simpa using hx2)]
end
end
section
open PySem PySem.W PySem.W.X PyProof.Rows PySem.Calls PySem.Spec PyProof
open LCg (NsObj lst)
set_option maxHeartbeats 1000000
/-- a sort's tree, asked purely -/
noncomputable def goT {α : Type} (lt : Nat → Nat → Bool) : KasT α → α
  | .ret a => a
  | .ask i j k => goT lt (k (lt i j))
noncomputable def okT {α : Type} (n : Nat) : KasT α → Bool
  | .ret _ => true
  | .ask i j k => decide (i < n) && decide (j < n) && okT n (k true) && okT n (k false)
theorem goT_wp {α : Type} {n : Nat} {lt : Nat → Nat → Bool} {cmp : Nat → Nat → (Bool → Shared → Prop) → Shared → Prop} {Q : α → Shared → Prop} {I : Shared → Prop} (hc : ∀ i j C s, i < n → j < n → I s → (∀ s', I s' → C (lt i j) s') → cmp i j C s) :
    ∀ (t : KasT α) (s : Shared), okT n t = true → I s → (∀ s', I s' → Q (goT lt t) s') → t.kasWp cmp Q s
  | .ret a, s, _, hi, hq => hq s hi
  | .ask i j k, s, ok, hi, hq => by
    unfold okT at ok
    simp only [Bool.and_eq_true, decide_eq_true_eq] at ok
    refine Classical.byContradiction fun hng => ?_
    obtain ⟨⟨⟨h1, h2⟩, h3⟩, h4⟩ := ok
    refine hng ?_
    show cmp i j (fun b s' => (k b).kasWp cmp Q s') s
    refine hc i j _ s h1 h2 hi fun s' hi' => ?_
    refine goT_wp hc (k (lt i j)) s' ?_ hi' hq
    cases lt i j with
    | true => exact h3
    | false => exact h4
theorem goT_congr {α : Type} {n : Nat} {lt lt' : Nat → Nat → Bool} (h : ∀ i j, i < n → j < n → lt i j = lt' i j) : ∀ t : KasT α, okT n t = true → goT lt t = goT lt' t
  | .ret _, _ => rfl
  | .ask i j k, ok => by
    unfold okT at ok
    simp only [Bool.and_eq_true, decide_eq_true_eq] at ok
    refine Classical.byContradiction fun hng => ?_
    obtain ⟨⟨⟨h1, h2⟩, h3⟩, h4⟩ := ok
    refine hng ?_
    show goT lt (k (lt i j)) = goT lt' (k (lt' i j))
    rw [h i j h1 h2]
    refine goT_congr h _ ?_
    cases lt' i j with
    | true => exact h3
    | false => exact h4
theorem insAt_congr {le le' : Nat → Nat → Bool} {line : List Nat} {k : Nat} (h : ∀ j ∈ line, le j k = le' j k) : insAt le line k = insAt le' line k := by
  unfold insAt
  have : line.filter (le · k) = line.filter (le' · k) := List.filter_congr h
  rw [this]
theorem orderOf_congr {le le' : Nat → Nat → Bool} : ∀ n, (∀ i j, i < n → j < n → le i j = le' i j) → orderOf le n = orderOf le' n
  | 0, _ => rfl
  | n + 1, h => by
    rw [orderOf_succ, orderOf_succ, orderOf_congr n fun i j hi hj => h i j (Nat.lt_succ_of_lt hi) (Nat.lt_succ_of_lt hj)]
    exact insAt_congr fun j hj => h j n (Nat.lt_succ_of_lt (orderOf_lt _ _ j hj)) (Nat.lt_succ_self n)
noncomputable def rk (r0 r1 r2 r3 : Nat) (i : Nat) : Nat := [r0, r1, r2, r3].getD i 0
theorem sort_ok : okT 4 (kas_sort 4) = true := by decide +kernel
theorem sort_all : ∀ r0 ∈ [0, 1, 2, 3], ∀ r1 ∈ [0, 1, 2, 3], ∀ r2 ∈ [0, 1, 2, 3], ∀ r3 ∈ [0, 1, 2, 3],
    ((goT (fun i j => decide (rk r0 r1 r2 r3 i < rk r0 r1 r2 r3 j)) (kas_sort 4)).toList == orderOf (fun i j => decide (rk r0 r1 r2 r3 i ≤ rk r0 r1 r2 r3 j)) 4) = true := by decide +kernel
theorem countP_strict {α : Type} {p q : α → Bool} : ∀ {l : List α} {x : α}, x ∈ l → (∀ y ∈ l, p y = true → q y = true) → q x = true → p x = false → l.countP p < l.countP q
  | y :: l, x, hx, hpq, qx, px => by
    rw [List.countP_cons, List.countP_cons]
    have hm : l.countP p ≤ l.countP q := List.countP_mono_left fun y hy => hpq y (List.mem_cons_of_mem _ hy)
    rcases List.mem_cons.mp hx with rfl | hx
    · rw [px, qx]; simp; omega
    · have := countP_strict hx (fun y hy => hpq y (List.mem_cons_of_mem _ hy)) qx px
      by_cases c : p y = true
      · rw [c, hpq y (List.mem_cons_self ..) c]; simp; omega
      · have : p y = false := by simpa using c
        rw [this]
        split <;> simp_all <;> omega
/-- the tree of sort and the insertions agree on every total preorder -/
theorem sort_order {le : Nat → Nat → Bool} (hr : ∀ i, le i i = true) (ht : ∀ i j k, le i j = true → le j k = true → le i k = true) (hl : ∀ i j, le i j = false → le j i = true) :
    (goT (fun i j => !le j i) (kas_sort 4)).toList = orderOf le 4 := by
  let r : Nat → Nat := fun i => (List.range 4).countP fun k => !le i k
  have h1 : ∀ i j, le i j = true → r i ≤ r j := fun i j h => List.countP_mono_left fun k _ hk => by
    cases q : le j k with
    | false => rfl
    | true => rw [ht i j k h q] at hk; cases hk
  have h2 : ∀ i j, j < 4 → le i j = false → r j < r i := fun i j hj h => by
    refine countP_strict (x := j) (List.mem_range.mpr hj) (fun k _ hk => ?_) (by rw [h]; rfl) (by rw [hr]; rfl)
    cases q : le i k with
    | false => rfl
    | true => rw [ht j i k (hl i j h) q] at hk; cases hk
  have h3 : ∀ i, i < 4 → r i < 4 := fun i hi => by
    have := countP_strict (p := fun k => !le i k) (q := fun _ => true) (x := i) (List.mem_range.mpr hi) (fun _ _ _ => rfl) rfl (by rw [hr]; rfl)
    simpa using this
  have hm : ∀ i, i < 4 → r i ∈ [0, 1, 2, 3] := fun i hi => by
    have := h3 i hi
    rcases lt4 this with e | e | e | e <;> simp [e]
  have hrk : ∀ i, i < 4 → rk (r 0) (r 1) (r 2) (r 3) i = r i := fun i hi => by
    rcases lt4 hi with rfl | rfl | rfl | rfl <;> rfl
  have e1 : ∀ i j, i < 4 → j < 4 → le i j = decide (rk (r 0) (r 1) (r 2) (r 3) i ≤ rk (r 0) (r 1) (r 2) (r 3) j) := fun i j hi hj => by
    rw [hrk i hi, hrk j hj]
    cases q : le i j with
    | true => exact (decide_eq_true (h1 i j q)).symm
    | false => exact (decide_eq_false (Nat.not_le.mpr (h2 i j hj q))).symm
  have e2 : ∀ i j, i < 4 → j < 4 → (!le j i) = decide (rk (r 0) (r 1) (r 2) (r 3) i < rk (r 0) (r 1) (r 2) (r 3) j) := fun i j hi hj => by
    rw [e1 j i hj hi]
    by_cases q : rk (r 0) (r 1) (r 2) (r 3) j ≤ rk (r 0) (r 1) (r 2) (r 3) i
    · rw [decide_eq_true q, decide_eq_false (Nat.not_lt.mpr q)]; rfl
    · rw [decide_eq_false q, decide_eq_true (Nat.lt_of_not_le q)]; rfl
  rw [goT_congr e2 _ sort_ok, orderOf_congr 4 e1]
  exact eq_of_beq (sort_all _ (hm 0 (by decide)) _ (hm 1 (by decide)) _ (hm 2 (by decide)) _ (hm 3 (by decide)))
theorem sort_rows (p c : Nat → Int) (way : Int) : (goT (fun i j => decide (p i < p j ∨ (p i = p j ∧ way * c i < way * c j))) (kas_sort 4)).toList = orderOf (leRow p c way) 4 := by
  have e : (fun i j => decide (p i < p j ∨ (p i = p j ∧ way * c i < way * c j))) = fun i j => !leRow p c way j i := by
    funext i j
    unfold leRow
    rw [← decide_not]
    refine decide_eq_decide.mpr ?_
    omega
  rw [e]
  refine sort_order (fun i => ?_) (fun i j k h1 h2 => ?_) fun i j h => ?_
  · simp [leRow]
  · simp only [leRow, decide_eq_true_eq] at h1 h2 ⊢; omega
  · simp only [leRow, decide_eq_true_eq, decide_eq_false_iff_not] at h ⊢; omega
end
section
open PySem PySem.W PySem.W.X PyProof.Rows PySem.Calls PySem.Spec PyProof
open LCg (NsObj lst)
set_option maxHeartbeats 1000000
section
variable {w : World} {A : Around} {E : Value → Shared → Prop} {s : Shared} {h : Heap} {tk : Nat}
theorem collect_range {Q : List Value → Shared → Prop} (hh : A.handled = none) {ra : Addr} {n : Nat} {t u v : Tok} (hr : h.get? ra = some { cls := .type "range", data := .fields #[.int 0 t, .int (n : Int) u, .int 1 v] }) (hn : n ≤ 1000)
    (hQ : ∀ h' tk' (ts : Nat → Tok), (∀ b o, h.get? b = some o → h'.get? b = some o) → Q ((List.range n).map fun i => .int (i : Nat) (ts i)) (St s h' tk')) :
    wpAny (MM w) A (collect (.ref ra)) Q E (St s h tk) := by
  unfold collect
  refine wpAny_bind (wpAny_runValue (codeAny_builtin F.entry_proto_collect ?_))
  rw [Around.under_plainId F.plain_proto_collect _]
  show wpAny _ A.in1 (newList [] >>= fun l => again (.builtin "list.__iadd__" ⟨[l, .ref ra], []⟩)) _ _ (St s h tk)
  refine wpAny_bind (wpAny_newObj_type ?_)
  refine wpAny_pure ⟨plainId_quiet F.plain_list_iadd _, codeAny_builtin F.entry_list_iadd ?_⟩
  rw [Around.under_plainId F.plain_list_iadd _]
  have hsm : Builtin.Range.small 0 (n : Int) 1 = true := small_one (by decide) (by decide) (by lia) (by lia)
  have hz : Builtin.Range.rangeSize 0 n 1 = n := by
    rw [rangeSize_one]; split <;> lia
  show wpAny _ A.in1 (Builtin.List.listExtendWith (.ref h.objs.size) (.ref ra) (.ref h.objs.size)) _ _ _
  refine wpAny_mono (wpAny_extend_range (s := St s (h.push { cls := .type "list", data := .seq #[] }) tk) (R := fun r s' => ∃ (h' : Heap) (tk' : Nat) (acc : Array Value) (c' : Nat), r = .ok (.ret (.ref h.objs.size)) ∧ s' = St s h' tk' ∧ (∀ b o, b ≠ h.objs.size → (h.push { cls := .type "list", data := .seq #[] }).get? b = some o → h'.get? b = some o) ∧
      h'.get? h.objs.size = some { cls := .type "list", dict := none, data := .seq acc c', slots := #[] } ∧ ItemsOf (fun i v => ∃ t, v = .int (0 + i * 1) t) acc n) (n := n) (a := 0) (b := n) (c := 1) (t := t) (u := u) (v := v) (c₀ := 0) hh (Heap.get?_push_of_some _ hr) hsm hz (Nat.le_trans hn (by decide)) h.objs.size _ (Heap.get?_push_size _ rfl) fun h' tk' acc c' hk hS hacc => ⟨h', tk', acc, c', rfl, rfl, hk, hS, hacc⟩) (fun fin s' hf => ?_) (fun e s' hf => ?_)
  case refine_2 => obtain ⟨_, _, _, _, e1, _⟩ := hf; cases e1
  have last : ∀ (r : Result) (s' : Shared), (∃ (h' : Heap) (tk' : Nat) (acc : Array Value) (c' : Nat), r = .ok (.ret (.ref h.objs.size)) ∧ s' = St s h' tk' ∧ (∀ b o, b ≠ h.objs.size → (h.push { cls := .type "list", data := .seq #[] }).get? b = some o → h'.get? b = some o) ∧
      h'.get? h.objs.size = some { cls := .type "list", dict := none, data := .seq acc c', slots := #[] } ∧ ItemsOf (fun i v => ∃ t, v = .int (0 + i * 1) t) acc n) → (match r with
        | .ok (.ret v) => wpAny (MM w) A (match v with
            | .ref a => do
              let o ← load a
              match o.data with
              | .seq xs _ => pure xs.toList
              | _ => unsupported "internal:collect"
            | _ => unsupported "internal:collect") Q E s'
        | .ok _ => False
        | .error e => E e s' : Prop) := by
    rintro _ _ ⟨h', tk', acc, c', rfl, rfl, hk, hS, hacc⟩
    show wpAny _ A (load h.objs.size >>= _) _ _ _
    refine wpAny_bind (wpAny_load hS ?_)
    refine wpAny_pure ?_
    have key : ∃ ts : Nat → Tok, acc.toList = (List.range n).map fun i => Value.int (i : Nat) (ts i) := by
      have : ∀ i : Nat, ∃ t, i < n → acc[i]? = some (.int (i : Nat) t) := fun i => by
        by_cases c : i < n
        · have hlt : i < acc.size := by rw [hacc.1]; exact c
          obtain ⟨t, e⟩ := hacc.2 i acc[i] (Array.getElem?_eq_getElem hlt)
          refine ⟨t, fun _ => ?_⟩
          rw [Array.getElem?_eq_getElem hlt, e]
          have : (0 : Int) + (i : Nat) * 1 = (i : Nat) := by lia
          rw [this]
        · exact ⟨0, fun z => absurd z c⟩
      refine ⟨fun i => (this i).choose, ?_⟩
      refine List.ext_getElem? fun i => ?_
      rw [Array.getElem?_toList]
      by_cases c : i < n
      · rw [(this i).choose_spec c, get_fun c]
      · rw [Array.getElem?_eq_none (by rw [hacc.1]; lia), List.getElem?_eq_none (by simp; lia)]
    obtain ⟨ts, e⟩ := key
    show Q acc.toList _
    rw [e]
    exact hQ h' tk' ts fun b o eb => hk b o (Nat.ne_of_lt (Heap.lt_size eb)) (Heap.get?_push_of_some _ eb)
  cases fin with
  | done f => exact last _ _ hf
  | again c' => exact ⟨hf.1, codeAny_mono hf.2 fun r s'' hr => last r s'' hr⟩
end
end
section
open PySem PySem.W PySem.W.X PyProof.Rows PySem.Calls PySem.Spec PyProof
open LCg (NsObj lst)
set_option maxHeartbeats 1000000
noncomputable abbrev keyO (p c : Int) (u v : Tok) : Obj := { cls := .type "tuple", data := .seq #[.int p u, .int c v] }
/-- the keys made so far: place, tokens -/
noncomputable abbrev KT := Addr × Tok × Tok
noncomputable def keysOf (p c : Nat → Int) (done : List Nat) (T : List KT) : List (Addr × Obj) := (done.zip T).map fun x => (x.2.1, keyO (p x.1) (c x.1) x.2.2.1 x.2.2.2)
section
variable {w : World} {A : Around} {E : Value → Shared → Prop} {s : Shared} {h₀ hb : Heap} {L kS D : Addr} {m : Str → Option Value} {r : List (Addr × Obj)} {p c : Nat → Int} {f : Value} {ts : Nat → Tok} {e1 : Nat}
/-- what the key function does -/
noncomputable def KeyFn (w : World) (A : Around) (s : Shared) (hb : Heap) (ch : List Addr) (r : List (Addr × Obj)) (p c : Nat → Int) (f : Value) : Prop :=
  ∀ i t (h' : Heap) tk' (Q' E' : Value → Shared → Prop), i < 4 → (∀ q ∈ r, h'.get? q.1 = some q.2) → (∀ b o, hb.get? b = some o → b ∉ ch → h'.get? b = some o) →
    (∀ h'' tk'' ta u v, (∀ b o, h'.get? b = some o → h''.get? b = some o) → h''.get? ta = some (keyO (p i) (c i) u v) → h'.get? ta = none → Q' (.ref ta) (St s h'' tk'')) → wpAny (MM w) A (call f [.int (i : Nat) t]) Q' E' (St s h' tk')
theorem keys_go {Fin : List Value → Nat → Shared → Prop} (hf : KeyFn w A s hb [141, 179] r p c f) (hk₀ : ∀ b o, hb.get? b = some o → b ∉ [141, 179] → h₀.get? b = some o)
    (fin : ∀ T e h' tk', T.length = 4 → Fr h₀ L h' m → News h₀ L h' ((kS, seqObj "list" (List.toArray (T.map fun x => Value.ref x.1)) e) :: (D, seqObj "list" #[] e1) :: (keysOf p c (List.range 4) T ++ r)) →
      (∀ q ∈ (D, seqObj "list" #[] e1) :: (keysOf p c (List.range 4) T ++ r), q.1 ≠ kS) → (∀ q ∈ keysOf p c (List.range 4) T ++ r, q.1 ≠ D) → Fin (T.map fun x => Value.ref x.1) e (St s h' tk')) :
    ∀ (is done : List Nat) (T : List KT) (e : Nat) (h' : Heap) (tk' : Nat), done ++ is = List.range 4 → T.length = done.length → Fr h₀ L h' m →
      News h₀ L h' ((kS, seqObj "list" (List.toArray (T.map fun x => Value.ref x.1)) e) :: (D, seqObj "list" #[] e1) :: (keysOf p c done T ++ r)) →
      (∀ q ∈ (D, seqObj "list" #[] e1) :: (keysOf p c done T ++ r), q.1 ≠ kS) → (∀ q ∈ keysOf p c done T ++ r, q.1 ≠ D) →
      KatKeys PR w A h₀ L m kS f Fin (is.map fun i => .int (i : Nat) (ts i)) (T.map fun x => Value.ref x.1) e (St s h' tk')
  | [], done, T, e, h', tk', hd, hl, F, N, n1, n2 => by
    rw [List.append_nil] at hd
    subst hd
    exact KatKeys.nil (fin T e h' tk' (by simpa using hl) F N n1 n2)
  | i :: is, done, T, e, h', tk', hd, hl, F, N, n1, n2 => by
    have hi : i < 4 := List.mem_range.mp (by rw [← hd]; simp)
    refine KatKeys.cons ?_
    refine hf i (ts i) h' tk' _ _ hi (fun q hq => (N q (by simp [hq])).1) (fun b o eb hn => F.keep b o (hk₀ b o eb hn)) fun h'' tk'' ta u v g et en => ?_
    have hta : ∀ b o, h'.get? b = some o → ta ≠ b := fun b o eb z => by rw [z, eb] at en; cases en
    have hkS := hta _ _ (N (kS, _) (.head _)).1
    have hD := hta _ _ (N (D, _) (.tail _ (.head _))).1
    have hL : ta ≠ L := by
      refine Classical.byContradiction fun hng => ?_
      obtain ⟨oL, _, _, e, _⟩ := F.ns
      refine hng ?_
      exact hta L oL e
    have h0 : h₀.get? ta = none := by
      cases q : h₀.get? ta with
      | none => rfl
      | some o => have := F.keep _ _ q; rw [en] at this; cases this
    have ek : keysOf p c (done ++ [i]) (T ++ [(ta, u, v)]) = keysOf p c done T ++ [(ta, keyO (p i) (c i) u v)] := by
      unfold keysOf
      rw [List.zip_append hl.symm, List.map_append]; rfl
    have et' : (T ++ [(ta, u, v)]).map (fun x => Value.ref x.1) = T.map (fun x => Value.ref x.1) ++ [Value.ref ta] := by simp
    have sub : ∀ q ∈ (D, seqObj "list" #[] e1) :: (keysOf p c (done ++ [i]) (T ++ [(ta, u, v)]) ++ r), q = (ta, keyO (p i) (c i) u v) ∨ q ∈ (D, seqObj "list" #[] e1) :: (keysOf p c done T ++ r) := fun q hq => by
      rw [ek] at hq
      simp only [List.mem_cons, List.mem_append, List.not_mem_nil, or_false] at hq ⊢
      rcases hq with hq | (hq | hq) | hq
      · exact .inr (.inl hq)
      · exact .inr (.inr (.inl hq))
      · exact .inl hq
      · exact .inr (.inr (.inr hq))
    have N2 : News h₀ L h'' ((kS, seqObj "list" (List.toArray (T.map fun x => Value.ref x.1)) e) :: (D, seqObj "list" #[] e1) :: (keysOf p c (done ++ [i]) (T ++ [(ta, u, v)]) ++ r)) := fun q hq => by
      rcases List.mem_cons.mp hq with rfl | hq
      · have := N _ (.head _); exact ⟨g _ _ this.1, this.2⟩
      · rcases sub q hq with rfl | hq
        · exact ⟨et, hL, h0⟩
        · have := N q (.tail _ hq); exact ⟨g _ _ this.1, this.2⟩
    have m1 : ∀ q ∈ (D, seqObj "list" #[] e1) :: (keysOf p c (done ++ [i]) (T ++ [(ta, u, v)]) ++ r), q.1 ≠ kS := fun q hq => by
      rcases sub q hq with rfl | hq
      · exact hkS
      · exact n1 q hq
    have m2 : ∀ q ∈ keysOf p c (done ++ [i]) (T ++ [(ta, u, v)]) ++ r, q.1 ≠ D := fun q hq => by
      rw [ek] at hq
      simp only [List.mem_append, List.mem_cons, List.not_mem_nil, or_false] at hq
      rcases hq with (hq | rfl) | hq
      · exact n2 q (List.mem_append_left _ hq)
      · exact hD
      · exact n2 q (List.mem_append_right _ hq)
    refine KatBack.intro (F.kept g) N2 (.head m1) fun h3 c3 F3 N3 => ?_
    have := keys_go hf hk₀ fin is (done ++ [i]) (T ++ [(ta, u, v)]) c3 h3 tk'' (by rw [List.append_assoc]; exact hd) (by simp [hl]) F3 (by rw [et']; exact N3) m1 m2
    rw [et'] at this
    exact this
/-- two keys compared -/
theorem key_lt {Q : Bool → Shared → Prop} {x y : Addr} {h' : Heap} {tk' : Nat} {i j : Nat} {u v u' v' : Tok} (ex : h'.get? x = some (keyO (p i) (c i) u v)) (ey : h'.get? y = some (keyO (p j) (c j) u' v'))
    (hq : Q (decide (p i < p j ∨ (p i = p j ∧ c i < c j))) (St s h' tk')) : wpAny (MM w) A (keyLt' (tuples' true) (.ref x) (.ref y)) Q E (St s h' tk') := by
  refine kat_lt (s := St s h' tk') (b := true) ex rfl ey rfl ?_
  show KatLex PR w A true (decide (2 < 2)) Q [(.int (p i) u, .int (p j) u'), (.int (c i) v, .int (c j) v')] 0 (St s h' tk')
  refine kat_cons (SeqAt.EqAt.int_int (A := A) (s := St s h' tk') (p i) u (p j) u' PR w _ _ ?_)
  by_cases q : p i = p j
  · rw [show (p i == p j) = true from by simpa using q]
    refine kat_yes (kat_cons (SeqAt.EqAt.int_int (A := A) (s := St s h' tk') (c i) v (c j) v' PR w _ _ ?_))
    by_cases q2 : c i = c j
    · rw [show (c i == c j) = true from by simpa using q2]
      refine kat_yes (kat_nil ?_)
      have e : decide (p i < p j ∨ (p i = p j ∧ c i < c j)) = decide (2 < 2) := decide_eq_decide.mpr (by lia)
      rw [← e]; exact hq
    · rw [show (c i == c j) = false from by simpa using q2]
      refine kat_no ?_
      show wpAny _ A (oneLt' false _ _) _ _ _
      refine kat_one _ _ (PyProof.Rows.lt_int ?_)
      have e : decide (p i < p j ∨ (p i = p j ∧ c i < c j)) = decide (c i < c j) := decide_eq_decide.mpr (by lia)
      rw [e] at hq; exact hq
  · rw [show (p i == p j) = false from by simpa using q]
    refine kat_no ?_
    show wpAny _ A (oneLt' true _ _) _ _ _
    refine oneLt_int ?_
    have e : decide (p i < p j ∨ (p i = p j ∧ c i < c j)) = decide (p i < p j) := decide_eq_decide.mpr (by lia)
    rw [e] at hq; exact hq
end
end
section
open PySem PySem.W PySem.W.X PyProof.Rows PySem.Calls PySem.Spec PyProof
open LCg (NsObj lst)
set_option maxHeartbeats 1000000
section
variable {w : World} {A : Around} {E : Value → Shared → Prop} {s : Shared} {hb h : Heap} {L : Addr} {oL : Obj} {m : Str → Option Value} {r : List (Addr × Obj)} {p c : Nat → Int} {f : Value} {tk : Nat}
theorem looks_int {M : Model} {h : Heap} {i : Int} {t : Tok} : Looks M h (typeOf (.int i t)) (.type "int") := Looks.of_pure rfl
/-- what comes after the keys -/
theorem keys_fin {P : PySem.Fin → Shared → Prop} {h₀ : Heap} {kS D : Addr} {e1 : Nat} {ts : Nat → Tok} {T : List KT} {e : Nat} {h' : Heap} {tk' : Nat} (hT : T.length = 4) (F : Fr h₀ L h' m)
    (N : News h₀ L h' ((kS, seqObj "list" (List.toArray (T.map fun x => Value.ref x.1)) e) :: (D, seqObj "list" #[] e1) :: (keysOf p c (List.range 4) T ++ r))) (n1 : ∀ q ∈ (D, seqObj "list" #[] e1) :: (keysOf p c (List.range 4) T ++ r), q.1 ≠ kS) (n2 : ∀ q ∈ keysOf p c (List.range 4) T ++ r, q.1 ≠ D)
    (hq : ∀ h'' cc, Fr h₀ L h'' m → News h₀ L h'' ((D, listOf (List.toArray ((orderOf (leRow p c 1) 4).map fun i => Value.int (i : Nat) (ts i))) cc) :: r) → (∀ q ∈ r, q.1 ≠ D) → P (.done (.ret .none)) (St s h'' tk')) :
    wpAny (MM w) A (keyKind' (List.toArray (T.map fun x => Value.ref x.1))) (fun κ s'' => (kas_sort 4).kasWp (kas_ask PR w A κ (katRev false (T.map fun x => Value.ref x.1))) (fun pm s3 => KatFin h₀ L m kS D (T.map fun x => Value.ref x.1) e e1 (katRev false (pm.toList.map fun i => (katRev false ((List.range 4).map fun i => Value.int (i : Nat) (ts i))).getD i Value.none)) (fun s4 => P (.done (.ret .none)) s4) s3) s'') (fun _ _ => False) (St s h' tk') := by
  match T, hT with
  | [x0, x1, x2, x3], _ =>
    have k0 := (N (x0.1, keyO (p 0) (c 0) x0.2.1 x0.2.2) (.tail _ (.tail _ (.head _)))).1
    have k1 := (N (x1.1, keyO (p 1) (c 1) x1.2.1 x1.2.2) (.tail _ (.tail _ (.tail _ (.head _))))).1
    have k2 := (N (x2.1, keyO (p 2) (c 2) x2.2.1 x2.2.2) (.tail _ (.tail _ (.tail _ (.tail _ (.head _)))))).1
    have k3 := (N (x3.1, keyO (p 3) (c 3) x3.2.1 x3.2.2) (.tail _ (.tail _ (.tail _ (.tail _ (.tail _ (.head _))))))).1
    refine kat_kind (s := St s h' tk') (T := .type "int") (fs := [.int (p 0) x0.2.1, .int (p 1) x1.2.1, .int (p 2) x2.2.1, .int (p 3) x3.2.1]) (.cons k0 rfl rfl rfl (.cons k1 rfl rfl rfl (.cons k2 rfl rfl rfl (.cons k3 rfl rfl rfl .nil)))) (by simp) (fun v hv => ?_) rfl ?_
    · have : v = .int (p 0) x0.2.1 ∨ v = .int (p 1) x1.2.1 ∨ v = .int (p 2) x2.2.1 ∨ v = .int (p 3) x3.2.1 := by simpa using hv
      rcases this with rfl | rfl | rfl | rfl <;> exact looks_int
    have hget : ∀ i, i < 4 → ∃ x u v, ([x0, x1, x2, x3].map fun x => Value.ref x.1).getD i Value.none = .ref x ∧ h'.get? x = some (keyO (p i) (c i) u v) := fun i hi => by
      rcases lt4 hi with rfl | rfl | rfl | rfl
      · exact ⟨_, _, _, rfl, k0⟩
      · exact ⟨_, _, _, rfl, k1⟩
      · exact ⟨_, _, _, rfl, k2⟩
      · exact ⟨_, _, _, rfl, k3⟩
    refine goT_wp (n := 4) (lt := fun i j => decide (p i < p j ∨ (p i = p j ∧ 1 * c i < 1 * c j))) (I := fun s' => s' = St s h' tk') (fun i j C s' hi hj hs hC => ?_) (kas_sort 4) _ sort_ok rfl ?_
    · subst hs
      refine Classical.byContradiction fun hng => ?_
      obtain ⟨x, u, v, ex, gx⟩ := hget i hi
      refine hng ?_
      refine Classical.byContradiction fun hng => ?_
      obtain ⟨y, u', v', ey, gy⟩ := hget j hj
      refine hng ?_
      unfold kas_ask
      show wpAny (MM w) A (keyLt' _ (([x0, x1, x2, x3].map fun x => Value.ref x.1).getD i Value.none) (([x0, x1, x2, x3].map fun x => Value.ref x.1).getD j Value.none)) C _ _
      rw [ex, ey]
      refine key_lt gx gy ?_
      have := hC _ rfl
      simpa only [Int.one_mul] using this
    · rintro _ rfl
      rw [sort_rows]
      have eo : ((orderOf (leRow p c 1) 4).map fun i => (katRev false ((List.range 4).map fun i => Value.int (i : Nat) (ts i))).getD i Value.none) = (orderOf (leRow p c 1) 4).map fun i => Value.int (i : Nat) (ts i) := by
        refine List.map_congr_left fun i hi => ?_
        have hi4 := orderOf_lt _ _ i hi
        show ((List.range 4).map fun i => Value.int (i : Nat) (ts i)).getD i Value.none = _
        rw [List.getD_eq_getElem?_getD, get_fun hi4]; rfl
      rw [eo]
      refine KatFin.intro F N (.head n1) fun h2 c2 F2 N2 => ?_
      refine KasFin.intro (news := (D, seqObj "list" #[] e1) :: r) F2 (fun q hq => N2 q (.tail _ (by
        rcases List.mem_cons.mp hq with rfl | hq
        · exact .head _
        · exact .tail _ (List.mem_append_right _ hq)))) (.head fun q hq => n2 q (List.mem_append_right _ hq)) fun h3 c3 F3 N3 => ?_
      exact hq h3 c3 F3 N3 fun q hq => n2 q (List.mem_append_right _ hq)
/-- sorted(range(4), key=f) -/
theorem r_sorted {Q : Value → Shared → Prop} {ra : Addr} {t u v : Tok} (hh : A.handled = none) (N : Now hb [141, 179] h ((L, oL) :: r)) (nL : NsObj oL m) (hL : hb.objs.size ≤ L) (hch : ∀ a ∈ [141, 179], ∃ o, (a, o) ∈ r)
    (hr : h.get? ra = some { cls := .type "range", data := .fields #[.int 0 t, .int ((4 : Nat) : Int) u, .int 1 v] }) (hf : KeyFn w A.in1.in1 s hb [141, 179] r p c f) (ht : ∀ x, Builtin.«list.sort» ⟨[.ref x], [(Str.ofString "key", f)]⟩ = ksk_tree x f false)
    (hq : ∀ h' tk' D oL' cc (ts : Nat → Tok), Now hb [141, 179] h' ((L, oL') :: (r ++ [(D, listOf (List.toArray ((orderOf (leRow p c 1) 4).map fun i => Value.int (i : Nat) (ts i))) cc)])) → NsObj oL' m → Q (.ref D) (St s h' tk')) :
    wpAny (MM w) A (call (.builtin "sorted") [.ref ra] [(Str.ofString "key", f)]) Q E (St s h tk) := by
  let h₀ := hideAll hb [141, 179]
  have F0 : Fr h₀ L h m := ⟨nL.ns (N.get 0 rfl), fun b o e => N.keep b o (of_hideAll _ e) (fun hm => by have := hideAll_none [141, 179] (h := hb) hm; rw [e] at this; cases this), by rw [hideAll_size]; exact hL⟩
  have hk₀ : ∀ b o, hb.get? b = some o → b ∉ [141, 179] → h₀.get? b = some o := fun b o e hn => hideAll_get _ e hn
  have ndr := N.nd
  rw [List.map_cons, List.nodup_cons] at ndr
  have N0 : News h₀ L h r := fun q hq => ⟨N.at_ q (.tail _ hq), fun z => ndr.1 (List.mem_map.mpr ⟨q, hq, z⟩), by
    rcases N.ok q (.tail _ hq) with z | z
    · exact hideAll_none _ z
    · cases e : h₀.get? q.1 with
      | none => rfl
      | some o => have := of_hideAll _ e; rw [z] at this; cases this⟩
  refine call_function_entry_kw kind_sorted plain_sorted entry_sorted (ksk_s1 _ _) ?_
  unfold Builtin.«sorted»
  refine wpAny_bind (m := checkCount "sorted" 1 1 _) (wpAny_pure ?_)
  refine wpAny_bind (collect_range (s := s) (A := A.in1) hh hr (by decide) fun h₁ tk₁ ts g₁ => ?_)
  refine wpAny_bind (wpAny_newList ?_ (by rw [sizeLine_eq]; simp))
  have hoD : (h₁.push (seqObj "list" (List.toArray ((List.range 4).map fun i => Value.int (i : Nat) (ts i))) 0)).get? h₁.objs.size = some (seqObj "list" (List.toArray ((List.range 4).map fun i => Value.int (i : Nat) (ts i))) 0) := Heap.get?_push_size _ rfl
  have keep : ∀ b o, h.get? b = some o → (h₁.push (seqObj "list" (List.toArray ((List.range 4).map fun i => Value.int (i : Nat) (ts i))) 0)).get? b = some o := fun b o e => Heap.get?_push_of_some _ (g₁ b o e)
  have hne : ∀ b o, h.get? b = some o → b ≠ h₁.objs.size := fun b o e => Nat.ne_of_lt (Heap.lt_size (g₁ b o e))
  refine wpAny_bind (wpAny_holding (wpAny_call_entry_kw slot_list_sort ⟨_, hoD, rfl⟩ entry_list_sort ?body (ksk_l1 _ _)))
  case body =>
    show wpAny (MM w) A.in1.in1 (Builtin.«list.sort» ⟨[.ref h₁.objs.size], [(Str.ofString "key", f)]⟩) _ _ (St s (h₁.push (seqObj "list" (List.toArray ((List.range 4).map fun i => Value.int (i : Nat) (ts i))) 0)) tk₁)
    rw [ht]
    have hD0 : h₀.get? h₁.objs.size = none := by
      cases e : h₀.get? h₁.objs.size with
      | none => rfl
      | some o => exact absurd rfl (hne _ _ (F0.keep _ _ e))
    refine kat_keyed (s := St s (h₁.push (seqObj "list" (List.toArray ((List.range 4).map fun i => Value.int (i : Nat) (ts i))) 0)) tk₁) (F0.kept keep) (N0.grown keep) hoD (Ne.symm (hne L _ (N.get 0 rfl))) hD0 (fun q hq => hne _ _ (N.at_ q (.tail _ hq))) (by simp) (by simp) fun kS e1 h₂ F2 N2 l0 l1 => ?_
    have n1 : ∀ q ∈ (h₁.objs.size, seqObj "list" #[] e1) :: (keysOf p c [] [] ++ r), q.1 ≠ kS := fun q hq => by
      rcases List.mem_cons.mp hq with rfl | hq
      · exact Nat.ne_of_lt l0
      · exact Nat.ne_of_lt (l1 q hq)
    have n2 : ∀ q ∈ keysOf p c [] [] ++ r, q.1 ≠ h₁.objs.size := fun q hq => hne _ _ (N.at_ q (.tail _ hq))
    refine keys_go (s := s) hf hk₀ ?_ (List.range 4) [] [] 0 _ _ rfl rfl F2 N2 n1 n2
    intro T e h₃ tk₃ hT F3 N3 m1 m2
    have len4 : ((List.range 4).map fun i => Value.int (i : Nat) (ts i)).length = 4 := rfl
    refine keys_fin (P := fun fin s' => ∃ v, fin = .done (.ret v) ∧ wpAny (MM w) A.in1 (ret (Value.ref h₁.objs.size)) (fun fin s' => ∃ v, fin = .done (.ret v) ∧ Q v s') E s') (s := s) (ts := ts) hT F3 N3 m1 m2 fun h₄ cc F4 N4 nD => ?_
    refine ⟨_, rfl, wpAny_pure ⟨_, rfl, ?_⟩⟩
    obtain ⟨oL', eL, nL'⟩ := LCg.ns_obj F4.ns
    refine hq h₄ tk₃ h₁.objs.size oL' cc ts ⟨fun q hq => ?_, ?_, fun q hq => ?_, fun b o e hn => F4.keep b o (hk₀ b o e hn), fun a ha => ?_⟩ nL'
    · rcases List.mem_cons.mp hq with rfl | hq
      · exact eL
      · rcases List.mem_append.mp hq with hq | hq
        · exact (N4 q (.tail _ hq)).1
        · rcases List.mem_singleton.mp hq with rfl; exact (N4 _ (.head _)).1
    · rw [List.map_cons, List.map_append, List.nodup_cons]
      refine ⟨fun hm => ?_, List.nodup_append.mpr ⟨ndr.2, by simp, fun a ha b hb' z => ?_⟩⟩
      · rcases List.mem_append.mp hm with hm | hm
        · exact ndr.1 hm
        · have : L = h₁.objs.size := by simpa using hm
          exact hne L _ (N.get 0 rfl) this
      · obtain ⟨q, hq, rfl⟩ := List.mem_map.mp ha
        have : b = h₁.objs.size := by simpa using hb'
        exact nD q hq (z.trans this)
    · rcases List.mem_cons.mp hq with rfl | hq
      · exact N.ok (L, oL) (.head _)
      · rcases List.mem_append.mp hq with hq | hq
        · exact N.ok q (.tail _ hq)
        · rcases List.mem_singleton.mp hq with rfl
          exact .inr (N.fresh_of_le (by
            cases e : h.get? h₁.objs.size with
            | none => rfl
            | some o => exact absurd rfl (hne _ _ e)))
    · obtain ⟨o, eo⟩ := hch a ha
      exact ⟨o, (N4 (a, o) (.tail _ eo)).1⟩
end
end
section
open PySem PySem.W PySem.W.X PyProof.Rows PySem.Calls PySem.Spec PyProof
open LCg (NsObj lst)
set_option maxHeartbeats 1000000
section
variable {w : World} {A : Around} {E : Value → Shared → Prop} {s : Shared} {hb h h' : Heap} {ch : List Addr} {obs : List (Addr × Obj)} {tk : Nat}
theorem Now.adopt (N : Now hb ch h' obs) {a : Addr} {o : Obj} (e : h'.get? a = some o) (hn : a ∉ obs.map (·.1)) (hf : hb.get? a = none) : Now hb ch h' (obs ++ [(a, o)]) where
  at_ := fun p hp => by
    rcases List.mem_append.mp hp with hp | hp
    · exact N.at_ p hp
    · rcases List.mem_singleton.mp hp with rfl; exact e
  nd := by
    rw [List.map_append]
    refine List.nodup_append.mpr ⟨N.nd, by simp, fun x hx y hy q => ?_⟩
    have : y = a := by simpa using hy
    exact hn (this ▸ q ▸ hx)
  ok := fun p hp => by
    rcases List.mem_append.mp hp with hp | hp
    · exact N.ok p hp
    · rcases List.mem_singleton.mp hp with rfl; exact .inr hf
  keep := N.keep
  live := N.live
/-- range(n), as an object -/
theorem r_rangeO {n : Nat} {k : Nat} {env : Env} {pr p pos : Pos} {Q : Value → Shared → Prop} (X : (KK w.params).In h) (hk : env.scope.kind = .function) (hx : env.kindOf (S "range") = some .globalImplicit) (hg : env.globals = mainGlobals) (hbn : env.builtins = builtinsNs)
    (he : starEach [.Constant (.int (n : Int)) k p] env = [(false, eval (.Constant (.int (n : Int)) k p) env)])
    (hq : ∀ h' tk' ra t u v, (∀ b o, h.get? b = some o → h'.get? b = some o) → h'.get? ra = some { cls := .type "range", data := .fields #[.int 0 t, .int (n : Int) u, .int 1 v] } → h.get? ra = none → Q (.ref ra) (St s h' tk')) :
    wpAny (MM w) A (eval (.Call (.Name (S "range") pr) [.Constant (.int (n : Int)) k p] [] pos) env) Q E (St s h tk) := by
  refine Call_Name rfl ?_
  refine r_builtin (v := .type "range") X (by kernel_rfl) (by kernel_rfl) hk hx hg hbn ?_ (by kernel_rfl)
  refine PyProof.Rows.callWith_type1 ?_ he rfl
  refine args_cons ?_ he
  refine r_int (s := s) fun t tk₁ => ?_
  refine args_nil ?_
  refine call_range_1 (s := St s h tk₁) ?_
  exact hq _ _ _ _ _ _ (fun b o e => Heap.get?_push_of_some _ e) (Heap.get?_push_size _ rfl) (get?_size h)
theorem looks_bmod {mg : Str → Option Value} (X : (KK w.params).In h) (G : h.Ns mainGlobals mg) : h.BuiltinsAt mg 179 :=
  ⟨4, obAt (KK w.params) 4, kk_in_of X G (by kernel_rfl), by decide, by decide, by decide, X 4 _ (by kernel_rfl), by kernel_rfl, by kernel_rfl, by kernel_rfl⟩
end
/-- the key function's text -/
noncomputable def lamOf : List Stmt → Option (Arguments × Expr × Scope × Pos)
  | .Assign _ (.Call _ _ [⟨_, .Lambda a b sc p, _⟩] _) _ :: _ => some (a, b, sc, p)
  | _ :: r => lamOf r
  | [] => none
noncomputable def lamA : Arguments := match lamOf bLaw with | some x => x.1 | none => default
noncomputable def lamB : Expr := match lamOf bLaw with | some x => x.2.1 | none => default
noncomputable def lamS : Scope := match lamOf bLaw with | some x => x.2.2.1 | none => default
noncomputable def lamP : Pos := match lamOf bLaw with | some x => x.2.2.2 | none => default
noncomputable abbrev lamQ : Str := S "law.<locals>.<lambda>"
noncomputable abbrev lamC (L : Addr) : List (Str × Addr) := [(S "way", L + 9), (S "parts", L + 8), (S "cells", L + 7)]
noncomputable abbrev lamO (L c' : Addr) (pm ctv : Value) : Obj := kla_obj (S "<lambda>") lamQ lamA lamB lamS (lamC L) pm c' ctv
section
variable {w : World} {A : Around} {E : Value → Shared → Prop} {s : Shared} {hb h : Heap} {obs : List (Addr × Obj)} {tk : Nat} {L : Addr}
theorem r_lam {Q : Value → Shared → Prop} (X : (KK w.params).In hb) (N : Now hb [141, 179] h obs) (i : Nat) (hi : obs[i]? = some (179, tabObj #[]))
    (hq : ∀ h' tk' f c' oc vs t tb pm ctv, Now hb [141, 179] h' (obs.set i (179, tb) ++ [(c', oc), (f, lamO L c' pm ctv)]) → oc.data = .fields vs → vs[1]? = some (.str lamQ t) → (∃ ps, tb = tabObj ps) → Q (.ref f) (St s h' tk')) :
    wpAny (MM w) A (eval (.Lambda lamA lamB lamS lamP) (eW w L)) Q E (St s h tk) := by
  have hlo : ∀ a ∈ [141, 179], Lo a := fun a ha => by
    rcases List.mem_cons.mp ha with rfl | ha
    · exact lo_table1
    · rcases List.mem_singleton.mp ha with rfl; exact lo_table2
  have Xh := kk_keep X N hlo
  obtain ⟨mg, G⟩ := kk_glob Xh
  have eqq : ((eW w L).qual ++ ("<lambda>" : Str)) = lamQ := by kernel_rfl
  refine kla_eval (by kernel_rfl) ?_
  rw [eqq]
  clear eqq
  generalize hlq : lamQ = q0
  generalize hla : lamA = a0
  generalize hlb : lamB = b0
  generalize hlS : lamS = s0
  generalize hlP : lamP = p0
  refine kla_makeFunction (s := St s h tk) (c := 181) (P := 179) (ps := #[]) (mg := mg) (clos := lamC L) (by rw [← hlS]; kernel_rfl) (by kernel_rfl) G (by kernel_rfl) (codeHd_of_K Xh (by kernel_rfl)) (N.get i hi) trivial (by rw [← hlP]; kernel_rfl) (by decide) (looks_bmod Xh G) fun c' ctv h' tk' hx hge hlt hrec htb => ?_
  obtain ⟨cc, oc, vs, t, ec, goc, doc, vq⟩ := hrec
  cases ec
  have N1 := N.upd i hi (fun b o hne e => hx b o hne e) htb
  have hmap : ∀ p ∈ obs.set i (179, tabObj (#[] ++ #[rawInt p0.line, rawInt p0.col, .ref c'])), p.1 < h.objs.size := fun p hp => by
    obtain ⟨j, hj⟩ := List.mem_iff_getElem?.mp hp
    rw [List.getElem?_set] at hj
    split at hj
    · split at hj
      · cases hj; exact Heap.lt_size (N.get i hi)
      · cases hj
    · exact Heap.lt_size (N.at_ p (List.mem_of_getElem? hj))
  have hcf : h.get? c' = none := Heap.get?_none_of_le hge
  have N2 := N1.adopt goc (fun hm => by
    obtain ⟨p, hp, e⟩ := List.mem_map.mp hm
    have := hmap p hp
    rw [e] at this
    exact absurd this (Nat.not_lt.mpr hge)) (N.fresh_of_le hcf)
  have N3 := N2.allocE (kla_obj (S "<lambda>") q0 a0 b0 s0 (lamC L) ((mg "__name__").getD .none) c' ctv) rfl
  rw [List.append_assoc] at N3
  subst hlq; subst hla; subst hlb; subst hlS; subst hlP
  exact hq _ _ _ c' oc vs t _ _ ctv N3 doc vq ⟨_, rfl⟩
end
end
section
open PySem PySem.W PySem.W.X PyProof.Rows PySem.Calls PySem.Spec PyProof
open LCg (NsObj lst)
set_option maxHeartbeats 1000000
noncomputable abbrev eL (L f c' L' : Addr) : Env := newEnv lamS L' mainGlobals (lamC L) (lamQ ++ ".<locals>.") (some f) (.ref c') none builtinsNs
section
variable {w : World} {A : Around} {s : Shared} {hb : Heap} {r : List (Addr × Obj)} {L f c' pa ca : Addr}
theorem lam_key (X : (KK w.params).In hb) (hroom : A.depth < recursionLimit) {pm ctv : Value} {oc : Obj} {vs : Array Value} {tq tv : Tok} {c : Nat → Int} {tc tp : Nat → Tok} {way : Int} (hw : way = 1 ∨ way = -1)
    (m1 : (f, lamO L c' pm ctv) ∈ r) (m2 : (c', oc) ∈ r) (doc : oc.data = .fields vs) (vq : vs[1]? = some (.str lamQ tq))
    (m3 : (L + 9, cellO (some (.int way tv))) ∈ r) (m4 : (L + 8, cellO (some (.ref pa))) ∈ r) (m5 : (L + 7, cellO (some (.ref ca))) ∈ r)
    (m6 : (pa, lst ((List.range 4).map fun k => .int (szN c k : Nat) (tp k))) ∈ r) (m7 : (ca, lst ((List.range 4).map fun k => .int (c k) (tc k))) ∈ r) :
    KeyFn w A s hb [141, 179] r (pzN c) (fun i => way * c i) (.ref f) := by
  intro i t h' tk' Q' E' hi hr hold hq
  have hlo : ∀ a ∈ [141, 179], Lo a := fun a ha => by
    rcases List.mem_cons.mp ha with rfl | ha
    · exact lo_table1
    · rcases List.mem_singleton.mp ha with rfl; exact lo_table2
  have X' : (KK w.params).In h' := fun a o e => hold a o (X a o e) fun hm => by rw [hlo a hm] at e; cases e
  refine wpAny_call ?_
  refine kla_callFunE (s := St s h' tk') hroom (hr _ m1) rfl (by kernel_rfl) (by kernel_rfl) rfl ⟨c', oc, vs, tq, rfl, hr _ m2, doc, vq⟩ ?_
  refine wpAny_of_eq (a := [(S "k", .int (i : Nat) t)]) (by kernel_rfl) ?_
  have hcell : (lamS.names.all fun x => !decide (x.2 = .cell)) = true := by kernel_rfl
  refine wpAny_newFunctionEnv (s := St s h' tk') (fun x hx => by simpa using List.all_eq_true.mp hcell x hx) (fun x hx => by
    rcases List.mem_singleton.mp hx with rfl
    kernel_rfl) (fun h₁ hns hsb => ?_) (by kernel_rfl)
  dsimp only at hns hsb
  have hk₁ : ∀ b o, h'.get? b = some o → h₁.get? b = some o := fun b o e => hsb.extBut b o (Nat.ne_of_lt (Heap.lt_size e)) (Heap.get?_push_of_some _ e)
  have X₁ : (KK w.params).In h₁ := fun a o e => hk₁ a o (X' a o e)
  refine ⟨kk_limit X₁, ?_⟩
  obtain ⟨oL, eL', nL⟩ := LCg.ns_obj hns
  show codeAny (MM w) A (.expr lamB (eL L f c' h'.objs.size)) _ (St s h₁ (tk' + 1))
  generalize h'.objs.size = L' at eL' ⊢
  refine kla_codeExpr ?_
  conv => arg 3; arg 1; whnf
  have g1 : ∀ {a : Addr} {o : Obj}, (a, o) ∈ r → h₁.get? a = some o := fun hm => hk₁ _ _ (hr _ hm)
  with_reducible refine r_tuple (s := s) ?_
  with_reducible refine args_cons ?_ (by kernel_rfl)
  with_reducible refine Subscript_ ?_
  refine r_free (s := s) (c := L + 8) (v := .ref pa) (by kernel_rfl) (by kernel_rfl) (by kernel_rfl) ⟨_, g1 m4, rfl⟩ ?_ (by kernel_rfl)
  refine r_name (s := s) (v := .int (i : Nat) t) eL' nL (by kernel_rfl) (by kernel_rfl) (by kernel_rfl) ?_ (by kernel_rfl)
  refine r_itemL (s := s) (items := ((List.range 4).map fun k => Value.int (szN c k : Nat) (tp k)).toArray) ⟨_, g1 m6, rfl, _, rfl⟩ (by lia) (get_funA hi) ?_ (by kernel_rfl) (by intro _; kernel_rfl)
  with_reducible refine args_cons ?_ (by kernel_rfl)
  with_reducible refine wpAny_BinOp ?_
  refine r_free (s := s) (c := L + 9) (v := .int way tv) (by kernel_rfl) (by kernel_rfl) (by kernel_rfl) ⟨_, g1 m3, rfl⟩ ?_ (by kernel_rfl)
  with_reducible refine Subscript_ ?_
  refine r_free (s := s) (c := L + 7) (v := .ref ca) (by kernel_rfl) (by kernel_rfl) (by kernel_rfl) ⟨_, g1 m5, rfl⟩ ?_ (by kernel_rfl)
  refine r_name (s := s) (v := .int (i : Nat) t) eL' nL (by kernel_rfl) (by kernel_rfl) (by kernel_rfl) ?_ (by kernel_rfl)
  refine r_itemL (s := s) (items := ((List.range 4).map fun k => Value.int (c k) (tc k)).toArray) ⟨_, g1 m7, rfl, _, rfl⟩ (by lia) (get_funA hi) ?_ (by kernel_rfl) (by intro _; kernel_rfl)
  refine r_mul (s := s) (IntMulOk.of_left (intBits_le_64 (by lia) (by lia))) fun t7 tk7 => ?_
  refine args_nil ⟨by simp [sizeLine_eq], ?_⟩
  refine hq _ _ h₁.objs.size (tp i) t7 (fun b o e => Heap.get?_push_of_some _ (hk₁ b o e)) (Heap.get?_push_size _ rfl) ?_
  cases e : h'.get? h₁.objs.size with
  | none => rfl
  | some o => exact absurd (Heap.lt_size (hk₁ _ _ e)) (Nat.lt_irrefl _)
end
end
section
open PySem PySem.W PySem.W.X PyProof.Rows PySem.Calls PySem.Spec PyProof
open LCg (NsObj lst)
set_option maxHeartbeats 1000000
theorem ord_one (p c : Nat → Int) (way : Int) : leRow p (fun i => way * c i) 1 = leRow p c way := by
  funext i j
  unfold leRow
  simp only [Int.one_mul]
theorem Call_NameK {M : Model} {A : Around} {E : Value → Shared → Prop} {s : Shared} {env : Env} {x : Str} {p pos : Pos} {args : List Expr} {kws : List Keyword} {Q : Value → Shared → Prop}
    (h : wpAny M A (eval (.Name x p) env) (fun f s₁ => wpAny M A (callWith pos f [] (backTo pos (starEach args env)) (backToKw pos (keywordEach kws env))) Q E s₁) E s) :
    wpAny M A (eval (.Call (.Name x p) args kws pos) env) Q E s := wpAny_bind h
section
variable {w : World} {s : Shared} {E : Value → Shared → Prop} {Q : Flow → Shared → Prop} {hb h : Heap} {tk : Nat} {L : Addr} {oL : Obj} {m : Str → Option Value}
theorem law6 (X : (KK w.params).In hb) (hLb : hb.objs.size ≤ L) {vs : Value} {c : Nat → Int} {tc tn tp tw : Nat → Tok} {ca na pa ds dp wa lo li : Addr} {ods odp t1 od opl oq : Obj} {T : Int} {tv : Tok} {l : Lx}
    (N : Now hb [141, 179] h (lawAll L oL vs none (some (.int (wayOf T) tv)) l c tc tn tp tw ca na pa ds dp wa ods odp t1 (tabObj #[]) od opl oq ++ [(lo, lst ((ordL c T).map fun i => .str (nmL i) (tn i))), (li, listObj #[.ref na, .ref na, .ref lo] 0)])) (nL : NsObj oL m)
    (hq : ∀ h' tk' oL' m' D cc (ts : Nat → Tok) tb, Now hb [141, 179] h' (lawAll L oL' vs none (some (.int (wayOf T) tv)) l c tc tn tp tw ca na pa ds dp wa ods odp t1 tb od opl oq ++ [(lo, lst ((ordL c T).map fun i => .str (nmL i) (tn i))), (li, listObj #[.ref na, .ref na, .ref lo] 0), (D, listOf (List.toArray ((ordL c T).map fun i => Value.int (i : Nat) (ts i))) cc)]) →
      NsObj oL' m' → m' (S "ranks") = some (.ref D) → (∀ x, x ≠ S "ranks" → m' x = m x) → (∃ ps, tb = tabObj ps) →
      wpAny (MM w) (callerA.deeper (eW w L)) (execs (bLaw.drop 15) (eW w L)) Q E (St s h' tk')) :
    wpAny (MM w) (callerA.deeper (eW w L)) (execs (bLaw.drop 14) (eW w L)) Q E (St s h tk) := by
  let R71 : List (Addr × Obj) := lawAll L oL vs none (some (.int (wayOf T) tv)) l c tc tn tp tw ca na pa ds dp wa ods odp t1 (tabObj #[]) od opl oq ++ [(lo, lst ((ordL c T).map fun i => .str (nmL i) (tn i))), (li, listObj #[.ref na, .ref na, .ref lo] 0)]
  replace N : Now hb [141, 179] h R71 := N
  have hh : (callerA.deeper (eW w L)).handled = none := rfl
  have hlo : ∀ a ∈ [141, 179], Lo a := fun a ha => by
    rcases List.mem_cons.mp ha with rfl | ha
    · exact lo_table1
    · rcases List.mem_singleton.mp ha with rfl; exact lo_table2
  have XN : ∀ {h' : Heap} {obs : List (Addr × Obj)}, Now hb [141, 179] h' obs → (KK w.params).In h' := fun N' => kk_keep X N' hlo
  conv => arg 3; arg 1; whnf
  with_reducible refine x_assign ?_ (by kernel_rfl)
  with_reducible refine Call_NameK ?_
  refine r_builtin (v := .builtin "sorted") (s := s) (XN N) (by kernel_rfl) (by kernel_rfl) (by kernel_rfl) (by kernel_rfl) (by kernel_rfl) (by kernel_rfl) ?_ (by kernel_rfl)
  with_reducible refine PyProof.Rows.callWith_kw ?_ (by kernel_rfl) (by kernel_rfl) (by kernel_rfl) (by kernel_rfl)
  with_reducible refine args_cons ?_ (by kernel_rfl)
  refine r_rangeO (s := s) (n := 4) (XN N) (by kernel_rfl) (by kernel_rfl) (by kernel_rfl) (by kernel_rfl) (by kernel_rfl) fun h₁ tk₁ ra u1 u2 u3 g₁ gr gn => ?_
  have N₁ := (N.grow g₁).adopt gr (N.not_mem gn) (N.fresh_of_le gn)
  refine args_nil ?_
  with_reducible refine PyProof.Rows.kws_cons ?_
  refine r_lam (s := s) X N₁ 17 rfl fun h₂ tk₂ f c' oc vsc tq tb pm ctv N₂ doc vq htb => ?_
  with_reducible refine PyProof.Rows.kws_nil ?_
  show wpAny (MM w) _ (call (.builtin "sorted") [.ref ra] [(Str.ofString "key", .ref f)]) _ _ (St s h₂ tk₂)
  let R : List (Addr × Obj) := (lawAll L oL vs none (some (.int (wayOf T) tv)) l c tc tn tp tw ca na pa ds dp wa ods odp t1 tb od opl oq ++ [(lo, lst ((ordL c T).map fun i => .str (nmL i) (tn i))), (li, listObj #[.ref na, .ref na, .ref lo] 0)] ++
    [(ra, { cls := .type "range", data := .fields #[.int 0 u1, .int ((4 : Nat) : Int) u2, .int 1 u3] }), (c', oc), (f, lamO L c' pm ctv)]).tail
  have N₃ : Now hb [141, 179] h₂ ((L, oL) :: R) := N₂
  have at_ : ∀ (i : Nat) {a : Addr} {o : Obj}, R[i]? = some (a, o) → (a, o) ∈ R := fun i _ _ e => List.mem_of_getElem? e
  refine r_sorted (s := s) (p := pzN c) (c := fun i => wayOf T * c i) hh N₃ nL hLb (fun a ha => ?_) (N₂.get 30 rfl) (lam_key X (of_decide_eq_true (by kernel_rfl)) (wayOf_or T) (at_ 31 rfl) (at_ 30 rfl) doc vq (at_ 8 rfl) (at_ 7 rfl) (at_ 6 rfl) (at_ 11 rfl) (at_ 9 rfl)) (fun x => ksk_t1 f x) fun h₄ tk₄ D o₄ cc ts N₄ n₄ => ?_
  · rcases List.mem_cons.mp ha with rfl | ha
    · exact ⟨_, at_ 15 rfl⟩
    · rcases List.mem_singleton.mp ha with rfl; exact ⟨_, at_ 16 rfl⟩
  rw [ord_one] at N₄
  replace N₄ : Now hb [141, 179] h₄ ((lawAll L o₄ vs none (some (.int (wayOf T) tv)) l c tc tn tp tw ca na pa ds dp wa ods odp t1 tb od opl oq ++ [(lo, lst ((ordL c T).map fun i => .str (nmL i) (tn i))), (li, listObj #[.ref na, .ref na, .ref lo] 0)] ++
    [(ra, { cls := .type "range", data := .fields #[.int 0 u1, .int ((4 : Nat) : Int) u2, .int 1 u3] }), (c', oc), (f, lamO L c' pm ctv)]) ++ [(D, listOf (List.toArray ((ordL c T).map fun i => Value.int (i : Nat) (ts i))) cc)]) := N₄
  have N₅ := N₄.sub (List.Sublist.append (List.sublist_append_left _ _) (List.Sublist.refl _))
  rw [List.append_assoc] at N₅
  refine r_store (env := eW w L) (s := s) N₅ 0 rfl n₄ (by kernel_rfl) (by kernel_rfl) fun h₆ o₆ tk₆ N₆ n₆ => ?_
  refine hq h₆ _ o₆ _ D cc ts tb N₆ n₆ (up_self _ _ _) (fun x hx => ?_) htb
  rw [up_ne (by simpa using hx)]
end
end
section
open PySem PySem.W PySem.W.X PyProof.Rows PySem.Calls PySem.Spec PyProof
open LCg (NsObj lst)
set_option maxHeartbeats 1000000
theorem ordL_len (c : Nat → Int) (T : Int) : (ordL c T).length = 4 := orderOf_length _ 4
theorem ordL_lt (c : Nat → Int) (T : Int) : ∀ i ∈ ordL c T, i < 4 := orderOf_lt _ 4
section
variable {w : World} {A : Around} {s : Shared} {E : Value → Shared → Prop} {Q : Flow → Shared → Prop} {hb h : Heap} {tk : Nat} {L : Addr} {oL : Obj} {m : Str → Option Value}
theorem law7 (X : (KK w.params).In hb) (hh : A.handled = none) {vs : Value} {c : Nat → Int} {tc tn tp tw ts : Nat → Tok} {ca na pa ds dp wa lo li D : Addr} {ods odp t1 t2 od opl oq : Obj} {T : Int} {tv : Tok} {l : Lx} {cc : Nat}
    (N : Now hb [141, 179] h (lawAll L oL vs none (some (.int (wayOf T) tv)) l c tc tn tp tw ca na pa ds dp wa ods odp t1 t2 od opl oq ++ [(lo, lst ((ordL c T).map fun i => .str (nmL i) (tn i))), (li, listObj #[.ref na, .ref na, .ref lo] 0), (D, listOf (List.toArray ((ordL c T).map fun i => Value.int (i : Nat) (ts i))) cc)])) (nL : NsObj oL m) (hm : m (S "ranks") = some (.ref D))
    (hq : ∀ h' tk' oL' m' oo oi su, Now hb [141, 179] h' (lawAll L oL' vs none (some (.int (wayOf T) tv)) l c tc tn tp tw ca na pa ds dp wa ods odp t1 t2 od opl oq ++ [(lo, lst ((ordL c T).map fun i => .str (nmL i) (tn i))), (li, listObj #[.ref na, .ref na, .ref lo] 0), (oo, lst ((ordL c T).map fun i => .str (nmL i) (tn i))), (oi, listObj #[.ref na, .ref na, .ref oo] 0), (su, listObj #[] 0)]) →
      NsObj oL' m' → m' (S "orders") = some (.ref oi) → m' (S "sums") = some (.ref su) → (∀ x, x ≠ S "orders" → x ≠ S "sums" → m' x = m x) →
      wpAny (MM w) A (execs (bLaw.drop 17) (eW w L)) Q E (St s h' tk')) :
    wpAny (MM w) A (execs (bLaw.drop 15) (eW w L)) Q E (St s h tk) := by
  let R66 : List (Addr × Obj) := lawAll L oL vs none (some (.int (wayOf T) tv)) l c tc tn tp tw ca na pa ds dp wa ods odp t1 t2 od opl oq ++ [(lo, lst ((ordL c T).map fun i => .str (nmL i) (tn i))), (li, listObj #[.ref na, .ref na, .ref lo] 0), (D, listOf (List.toArray ((ordL c T).map fun i => Value.int (i : Nat) (ts i))) cc)]
  replace N : Now hb [141, 179] h R66 := N
  have hlo : ∀ a ∈ [141, 179], Lo a := fun a ha => by
    rcases List.mem_cons.mp ha with rfl | ha
    · exact lo_table1
    · rcases List.mem_singleton.mp ha with rfl; exact lo_table2
  have XN : ∀ {h' : Heap} {obs : List (Addr × Obj)}, Now hb [141, 179] h' obs → (KK w.params).In h' := fun N' => kk_keep X N' hlo
  conv => arg 3; arg 1; whnf
  with_reducible refine x_assign ?_ (by kernel_rfl)
  with_reducible refine r_list (s := St s h tk) ?_
  with_reducible refine args_cons ?_ (by kernel_rfl)
  refine r_cell (s := s) (env := eW w L) (c := L + 2) (v := .ref na) (by kernel_rfl) (by kernel_rfl) (by kernel_rfl) (N.get 2 rfl) ?_ (by kernel_rfl)
  with_reducible refine args_cons ?_ (by kernel_rfl)
  refine r_cell (s := s) (env := eW w L) (c := L + 2) (v := .ref na) (by kernel_rfl) (by kernel_rfl) (by kernel_rfl) (N.get 2 rfl) ?_ (by kernel_rfl)
  with_reducible refine args_cons ?_ (by kernel_rfl)
  with_reducible refine r_lc (cl := [(S "names", L + 2)]) (by kernel_rfl) (by kernel_rfl) (by kernel_rfl) (by intro _; kernel_rfl) ?_
  refine r_name (env := eW w L) (s := s) (v := .ref D) (N.get 0 rfl) nL hm (by kernel_rfl) (by kernel_rfl) ?_ (by kernel_rfl)
  let base := lawAll L oL vs none (some (.int (wayOf T) tv)) l c tc tn tp tw ca na pa ds dp wa ods odp t1 t2 od opl oq ++ [(lo, lst ((ordL c T).map fun i => .str (nmL i) (tn i))), (li, listObj #[.ref na, .ref na, .ref lo] 0), (D, listOf (List.toArray ((ordL c T).map fun i => Value.int (i : Nat) (ts i))) cc)]
  refine r_iterL N (items := List.toArray ((ordL c T).map fun i => Value.int (i : Nat) (ts i))) ⟨_, N.get 30 rfl, rfl, _, rfl⟩ fun h₁ I oI N₁ hI hl₁ hIc hne => ?_
  let J18 : Nat → List (Addr × Obj) → List Value → Prop := fun i obs' items => obs' = base ∧ items = ((ordL c T).take i).map fun i => .str (nmL i) (tn i)
  refine lcAll J18
    (Walks.list hh I D hne _) (fun i h ⟨⟨o, e, _⟩, _⟩ => ⟨o, e⟩) hIc (by kernel_rfl) (by kernel_rfl) (by intro C; kernel_rfl) (by simp [ordL_len])
    (stays_list fun i obs' h' ⟨_, e, _⟩ ho _ => ⟨_, ho (D, listOf (List.toArray ((ordL c T).map fun i => Value.int (i : Nat) (ts i))) cc) (by rw [e]; simp [base]), rfl, _, rfl⟩) N₁ ⟨hI, hl₁⟩ ⟨rfl, rfl⟩ ?_ ?_
  · intro i v h' tk' C oD oC mC oI' obsz items E' hi hP hj nC hC N'
    obtain ⟨e1, e2⟩ := hj
    rw [e1, e2] at N'
    clear e1
    rw [e2]
    clear e2
    obtain ⟨j, hj, rfl⟩ : ∃ j, (ordL c T)[i]? = some j ∧ v = .int (j : Nat) (ts j) := by
      rw [List.getElem?_toArray, List.getElem?_map] at hP
      cases e : (ordL c T)[i]? with
      | none => rw [e] at hP; cases hP
      | some j => rw [e] at hP; cases hP; exact ⟨j, rfl, rfl⟩
    have hj4 := ordL_lt c T j (List.mem_of_getElem? hj)
    refine wpAny_tests_nil ?_
    simp only [if_true]
    with_reducible refine Subscript_ ?_
    refine r_cell (s := s) (c := L + 2) (v := .ref na) (by kernel_rfl) (by kernel_rfl) (by kernel_rfl) (N'.get 2 rfl) ?_ (by kernel_rfl)
    refine r_name (s := s) (v := .int (j : Nat) (ts j)) (N'.get 32 rfl) nC hC (by kernel_rfl) (by kernel_rfl) ?_ (by kernel_rfl)
    refine r_itemL (s := s) (items := ((List.range 4).map fun k => Value.str (nmL k) (tn k)).toArray) ⟨_, N'.get 11 rfl, rfl, _, rfl⟩ (by lia) (get_funA hj4) ?_ (by kernel_rfl) (by intro _; kernel_rfl)
    refine ⟨_, _, base, rfl, ⟨rfl, ?_⟩, N'⟩
    rw [List.take_add_one, hj, List.map_append]; rfl
  · intro h' tk' C oo oC mC obsz items hj nC hC N'
    obtain ⟨e1, e2⟩ := hj
    rw [e1, e2] at N'
    clear e1 e2
    have el : (ordL c T).take (List.toArray ((ordL c T).map fun i => Value.int (i : Nat) (ts i))).size = ordL c T := by
      rw [List.size_toArray, List.length_map, List.take_length]
    rw [el] at N'
    with_reducible refine compEnd N' hC nC fun h₂ N₂ => ?_
    refine args_nil ⟨by simp [sizeLine_eq], ?_⟩
    have N₃ := N₂.allocE (listObj #[.ref na, .ref na, .ref oo] 0) rfl
    generalize h₂.objs.size = oi at N₃ ⊢
    refine r_store (env := eW w L) (s := s) N₃ 0 rfl nL (by kernel_rfl) (by kernel_rfl) fun h₄ o₄ tk₄ N₄ n₄ => ?_
    let R67 : List (Addr × Obj) := (lawAll L o₄ vs none (some (.int (wayOf T) tv)) l c tc tn tp tw ca na pa ds dp wa ods odp t1 t2 od opl oq ++ [(lo, lst ((ordL c T).map fun i => .str (nmL i) (tn i))), (li, listObj #[.ref na, .ref na, .ref lo] 0)]) ++ [(D, listOf (List.toArray ((ordL c T).map fun i => Value.int (i : Nat) (ts i))) cc)] ++ [(oo, lst ((ordL c T).map fun i => .str (nmL i) (tn i))), (oi, listObj #[.ref na, .ref na, .ref oo] 0)]
    replace N₄ : Now hb [141, 179] h₄ R67 := N₄
    have N₅ := N₄.sub (List.Sublist.append (List.sublist_append_left _ _) (List.Sublist.refl _))
    with_reducible refine x_assign ?_ (by kernel_rfl)
    with_reducible refine r_list (s := St s h₄ tk₄) ?_
    refine args_nil ⟨by simp [sizeLine_eq], ?_⟩
    have N₆ := N₅.allocE (listObj #[] 0) rfl
    generalize h₄.objs.size = su at N₆ ⊢
    rw [List.append_assoc, List.append_assoc] at N₆
    refine r_store (env := eW w L) (s := s) N₆ 0 rfl n₄ (by kernel_rfl) (by kernel_rfl) fun h₇ o₇ tk₇ N₇ n₇ => ?_
    refine hq h₇ _ o₇ _ oo oi su N₇ n₇ ((up_ne (by kernel_rfl)).trans (up_self _ _ _)) (up_self _ _ _) fun x h1 h2 => ?_
    rw [up_ne (by simpa using h2), up_ne (by simpa using h1)]
end
end
section
open PySem PySem.W PySem.W.X PyProof.Rows PySem.Calls PySem.Spec PyProof
set_option maxHeartbeats 1000000
noncomputable def addF (b : List (Nat × Int)) (k : Nat) (v : Int) : List (Nat × Int) :=
  if b.any (fun p => p.1 == k) then b.map fun p => if p.1 == k then (p.1, p.2 + v) else p else b ++ [(k, v)]
theorem addF_eq (b : List (Nat × Int)) (k : Nat) (v : Int) : addF b k v = addN b k v := by
  unfold addF addN
  have : (b.any fun p => p.1 == k) = decide (k ∈ b.map (·.1)) := by
    rw [Bool.eq_iff_iff, List.any_eq_true, decide_eq_true_eq, List.mem_map]
    exact ⟨fun ⟨p, hp, e⟩ => ⟨p, hp, by simpa using e⟩, fun ⟨p, hp, e⟩ => ⟨p, hp, by simpa using e⟩⟩
  rw [this]
  by_cases c : k ∈ b.map (·.1)
  · simp [c]
  · simp [c]
theorem addN_add (b : List (Nat × Int)) (k : Nat) (u v : Int) : addN (addN b k u) k v = addN b k (u + v) := by
  unfold addN
  by_cases c : k ∈ b.map (·.1)
  · have c' : k ∈ ((b.map fun p => if p.1 = k then (p.1, p.2 + u) else p).map (·.1)) := by
      rw [List.map_map]
      obtain ⟨p, hp, e⟩ := List.mem_map.mp c
      exact List.mem_map.mpr ⟨p, hp, by simp [e]⟩
    rw [if_pos c, if_pos c', if_pos c, List.map_map]
    refine List.map_congr_left fun p _ => ?_
    by_cases q : p.1 = k
    · simp [q]; lia
    · simp [q]
  · rw [if_neg c]
    have c' : k ∈ ((b ++ [(k, u)]).map (·.1)) := by simp
    rw [if_pos c', if_neg c, List.map_append]
    congr 1
    · conv => rhs; rw [← List.map_id b]
      refine List.map_congr_left fun p hp => ?_
      have : p.1 ≠ k := fun z => c (List.mem_map.mpr ⟨p, hp, z⟩)
      simp [this]
    · simp
/-- m sendings at once -/
noncomputable def sendF (s : Nat → Nat) (i m d : Nat) (b : List (Nat × Int)) : Nat × List (Nat × Int) :=
  match min m (s i + 1 - d) with
  | 0 => (d, b)
  | n + 1 => (d + (n + 1), addF b i ((n + 1 : Nat) : Int))
theorem sendF_eq (s : Nat → Nat) (i d : Nat) (b : List (Nat × Int)) : ∀ m, sendK s i m (d, b) = sendF s i m d b
  | 0 => by unfold sendF; rw [Nat.zero_min]; rfl
  | m + 1 => by
    show send1 s i (sendK s i m (d, b)) = _
    rw [sendF_eq s i d b m]
    unfold sendF
    by_cases h : m < s i + 1 - d
    · have e1 : min m (s i + 1 - d) = m := by lia
      have e2 : min (m + 1) (s i + 1 - d) = m + 1 := by lia
      rw [e1, e2]
      cases m with
      | zero => unfold send1; dsimp only; rw [if_pos (by lia), addF_eq]; rfl
      | succ m =>
        unfold send1; dsimp only
        rw [if_pos (by lia), addF_eq, addF_eq, addN_add]
        congr 1
    · have e1 : min m (s i + 1 - d) = s i + 1 - d := by lia
      have e2 : min (m + 1) (s i + 1 - d) = s i + 1 - d := by lia
      rw [e1, e2]
      cases q : s i + 1 - d with
      | zero => unfold send1; dsimp only; rw [if_neg (by lia)]
      | succ n => unfold send1; dsimp only; rw [if_neg (by lia)]
noncomputable def stepF (s : Nat → Nat) (m : Nat) : RS → RS
  | ⟨[], bk, told⟩ => ⟨[], bk, told⟩
  | ⟨(i, d) :: rest, bk, told⟩ => match sendF s i m d bk with
    | (d', b') => if Nat.ble d' (s i) then ⟨rest ++ [(i, d')], b', told⟩ else ⟨rest, b', told ++ [(i, b')]⟩
theorem stepF_eq (s : Nat → Nat) (m : Nat) (r : RS) : stepR s m r = stepF s m r := by
  obtain ⟨q, bk, told⟩ := r
  cases q with
  | nil => rfl
  | cons p rest =>
    obtain ⟨i, d⟩ := p
    show (if (sendK s i m (d, bk)).1 ≤ s i then _ else _) = (match sendF s i m d bk with
      | (d', b') => if Nat.ble d' (s i) then (⟨rest ++ [(i, d')], b', told⟩ : RS) else ⟨rest, b', told ++ [(i, b')]⟩)
    rw [sendF_eq]
    obtain ⟨d', b'⟩ := sendF s i m d bk
    dsimp only
    by_cases c : d' ≤ s i
    · rw [if_pos c, if_pos (Nat.ble_eq_true_of_le c)]
    · rw [if_neg c, if_neg (fun z => c (Nat.le_of_ble_eq_true z))]
/-- the run, from its start on -/
noncomputable def runF (s : Nat → Nat) (m : Nat) : Nat → RS → RS
  | 0, r => r
  | k + 1, r => match r.q with
    | [] => r
    | _ :: _ => runF s m k (stepF s m r)
theorem runR_shift (s : Nat → Nat) (m : Nat) : ∀ k r, runR s m (k + 1) r = runR s m k (stepR s m r)
  | 0, _ => rfl
  | k + 1, r => by
    show stepR s m (runR s m (k + 1) r) = stepR s m (runR s m k (stepR s m r))
    rw [runR_shift s m k r]
theorem runR_nil (s : Nat → Nat) (m : Nat) {r : RS} (h : r.q = []) : ∀ k, runR s m k r = r
  | 0 => rfl
  | k + 1 => by
    show stepR s m (runR s m k r) = r
    rw [runR_nil s m h k]
    unfold stepR; rw [h]
theorem runF_eq (s : Nat → Nat) (m : Nat) : ∀ k r, runR s m k r = runF s m k r
  | 0, _ => rfl
  | k + 1, r => by
    unfold runF
    cases h : r.q with
    | nil => exact runR_nil s m h _
    | cons p rest =>
      rw [runR_shift, stepF_eq]
      exact runF_eq s m k _
end
section
open PySem PySem.W PySem.W.X PyProof.Rows PySem.Calls PySem.Spec PyProof
set_option maxHeartbeats 1000000
noncomputable abbrev five : List Nat := [1, 2, 3, 4, 5]
noncomputable def slN (s : Nat → Nat) (m k : Nat) : Nat := (s k + (m - 1)) / m
noncomputable def hadN (s : Nat → Nat) (m k j : Nat) : Nat := min (s j) (m * (if Nat.ble j k then slN s m k else slN s m k - 1))
noncomputable def bookN (s : Nat → Nat) (m k : Nat) : List (Nat × Int) := ([0, 1, 2, 3].filter fun j => Nat.blt 0 (hadN s m k j)).map fun j => (j, ((hadN s m k j : Nat) : Int))
/-- the run has the books, in the places' order -/
noncomputable def chkF (z0 z1 z2 z3 m : Nat) : Bool :=
  match runF (rk z0 z1 z2 z3) m 20 (initR [0, 1, 2, 3]) with
  | ⟨q, _, told⟩ => q.isEmpty && (told.map (·.1)).isPerm [0, 1, 2, 3] && (told.all fun b => b.2 == bookN (rk z0 z1 z2 z3) m b.1)
set_option maxHeartbeats 0 in
theorem chk_m1 : ∀ z0 ∈ five, ∀ z1 ∈ five, ∀ z2 ∈ five, ∀ z3 ∈ five, (chkF z0 z1 z2 z3 1) = true := by decide +kernel
set_option maxHeartbeats 0 in
theorem chk_m2 : ∀ z0 ∈ five, ∀ z1 ∈ five, ∀ z2 ∈ five, ∀ z3 ∈ five, (chkF z0 z1 z2 z3 2) = true := by decide +kernel
set_option maxHeartbeats 0 in
theorem chk_m3 : ∀ z0 ∈ five, ∀ z1 ∈ five, ∀ z2 ∈ five, ∀ z3 ∈ five, (chkF z0 z1 z2 z3 3) = true := by decide +kernel
set_option maxHeartbeats 0 in
theorem chk_m5 : ∀ z0 ∈ five, ∀ z1 ∈ five, ∀ z2 ∈ five, ∀ z3 ∈ five, (chkF z0 z1 z2 z3 5) = true := by decide +kernel
end
section
open PySem PySem.W PySem.W.X PyProof.Rows PySem.Calls PySem.Spec PyProof
set_option maxHeartbeats 1000000
noncomputable def MOk (m : Nat) : Prop := m = 1 ∨ m = 2 ∨ m = 3 ∨ m = 5
theorem lt5 {x : Nat} (h : 1 ≤ x ∧ x ≤ 5) : x = 1 ∨ x = 2 ∨ x = 3 ∨ x = 4 ∨ x = 5 := by lia
theorem slN_eq {s : Nat → Nat} {m k : Nat} (hs : 1 ≤ s k ∧ s k ≤ 5) (hm : MOk m) : slicesP (fun k => ((s k : Nat) : Int)) (m : Nat) k = (slN s m k : Nat) ∧ 1 ≤ slN s m k := by
  unfold slicesP slN
  dsimp only
  generalize s k = x at hs
  rcases lt5 hs with rfl | rfl | rfl | rfl | rfl <;> rcases hm with rfl | rfl | rfl | rfl <;> decide
theorem hadN_eq {s : Nat → Nat} {m k : Nat} (hs : 1 ≤ s k ∧ s k ≤ 5) (hm : MOk m) (j : Nat) : hadP (fun k => ((s k : Nat) : Int)) (m : Nat) k j = (hadN s m k j : Nat) := by
  obtain ⟨e, h1⟩ := slN_eq hs hm
  unfold hadP hadN
  rw [e]
  have e2 : (if j ≤ k then ((slN s m k : Nat) : Int) else ((slN s m k : Nat) : Int) - 1) = ((if Nat.ble j k then slN s m k else slN s m k - 1 : Nat) : Int) := by
    by_cases c : j ≤ k
    · rw [if_pos c, if_pos (Nat.ble_eq_true_of_le c)]
    · rw [if_neg c, if_neg (fun z => c (Nat.le_of_ble_eq_true z))]; lia
  rw [e2]
  generalize (if Nat.ble j k then slN s m k else slN s m k - 1) = y
  have e3 : ((m : Nat) : Int) * ((y : Nat) : Int) = ((m * y : Nat) : Int) := by rw [Int.natCast_mul]
  rw [e3]
  dsimp only
  by_cases c : m * y < s j
  · rw [if_pos (by lia)]; lia
  · rw [if_neg (by lia)]; lia
theorem bookN_eq {s : Nat → Nat} {m k : Nat} (hs : 1 ≤ s k ∧ s k ≤ 5) (hm : MOk m) : bookP (fun k => ((s k : Nat) : Int)) (m : Nat) k 4 = bookN s m k := by
  unfold bookP bookN
  have ef : (fun j => decide (0 < hadP (fun k => ((s k : Nat) : Int)) (m : Nat) k j)) = fun j => Nat.blt 0 (hadN s m k j) := by
    funext j
    rw [hadN_eq hs hm, Bool.eq_iff_iff, decide_eq_true_eq]
    constructor
    · intro z; exact Nat.ble_eq_true_of_le (by lia)
    · intro z; have := Nat.le_of_ble_eq_true z; lia
  rw [ef]
  have em : (fun j => (j, hadP (fun k => ((s k : Nat) : Int)) (m : Nat) k j)) = fun j => (j, ((hadN s m k j : Nat) : Int)) := by
    funext j; rw [hadN_eq hs hm]
  rw [em]; rfl
end
section
open PySem PySem.W PySem.W.X PyProof.Rows PySem.Calls PySem.Spec PyProof
set_option maxHeartbeats 1000000
noncomputable def mapB (f : Nat → Nat) (b : List (Nat × Int)) : List (Nat × Int) := b.map fun p => (f p.1, p.2)
noncomputable def mapRS (f : Nat → Nat) (r : RS) : RS := ⟨r.q.map fun p => (f p.1, p.2), mapB f r.bk, r.told.map fun t => (f t.1, mapB f t.2)⟩
section
variable {f : Nat → Nat} (hf : ∀ i j, f i = f j → i = j)
include hf
theorem mem_mapB {b : List (Nat × Int)} {k : Nat} : f k ∈ (mapB f b).map (·.1) ↔ k ∈ b.map (·.1) := by
  unfold mapB
  rw [List.map_map]
  constructor
  · intro h
    obtain ⟨p, hp, e⟩ := List.mem_map.mp h
    exact List.mem_map.mpr ⟨p, hp, hf _ _ e⟩
  · intro h
    obtain ⟨p, hp, e⟩ := List.mem_map.mp h
    exact List.mem_map.mpr ⟨p, hp, by show f p.1 = f k; rw [e]⟩
theorem addN_map (b : List (Nat × Int)) (k : Nat) (v : Int) : addN (mapB f b) (f k) v = mapB f (addN b k v) := by
  unfold addN
  by_cases c : k ∈ b.map (·.1)
  · rw [if_pos c, if_pos ((mem_mapB hf).mpr c)]
    unfold mapB
    rw [List.map_map, List.map_map]
    refine List.map_congr_left fun p _ => ?_
    by_cases q : p.1 = k
    · simp [q]
    · have : f p.1 ≠ f k := fun z => q (hf _ _ z)
      simp [q, this]
  · rw [if_neg c, if_neg (fun z => c ((mem_mapB hf).mp z))]
    simp [mapB]
theorem sendK_map (s : Nat → Nat) (i d : Nat) (b : List (Nat × Int)) : ∀ m, sendK s (f i) m (d, mapB f b) = ((sendK (fun k => s (f k)) i m (d, b)).1, mapB f (sendK (fun k => s (f k)) i m (d, b)).2)
  | 0 => rfl
  | m + 1 => by
    show send1 s (f i) (sendK s (f i) m (d, mapB f b)) = ((send1 (fun k => s (f k)) i (sendK (fun k => s (f k)) i m (d, b))).1, mapB f (send1 (fun k => s (f k)) i (sendK (fun k => s (f k)) i m (d, b))).2)
    rw [sendK_map s i d b m]
    generalize sendK (fun k => s (f k)) i m (d, b) = x
    unfold send1
    by_cases c : x.1 ≤ s (f i)
    · rw [if_pos c, if_pos c, addN_map hf]
    · rw [if_neg c, if_neg c]
theorem stepR_map (s : Nat → Nat) (m : Nat) (r : RS) : stepR s m (mapRS f r) = mapRS f (stepR (fun k => s (f k)) m r) := by
  obtain ⟨q, bk, told⟩ := r
  cases q with
  | nil => rfl
  | cons p rest =>
    obtain ⟨i, d⟩ := p
    show (if (sendK s (f i) m (d, mapB f bk)).1 ≤ s (f i) then (⟨rest.map (fun p => (f p.1, p.2)) ++ [(f i, (sendK s (f i) m (d, mapB f bk)).1)], (sendK s (f i) m (d, mapB f bk)).2, told.map fun t => (f t.1, mapB f t.2)⟩ : RS)
      else ⟨rest.map fun p => (f p.1, p.2), (sendK s (f i) m (d, mapB f bk)).2, (told.map fun t => (f t.1, mapB f t.2)) ++ [(f i, (sendK s (f i) m (d, mapB f bk)).2)]⟩) =
      mapRS f (if (sendK (fun k => s (f k)) i m (d, bk)).1 ≤ s (f i) then ⟨rest ++ [(i, (sendK (fun k => s (f k)) i m (d, bk)).1)], (sendK (fun k => s (f k)) i m (d, bk)).2, told⟩ else ⟨rest, (sendK (fun k => s (f k)) i m (d, bk)).2, told ++ [(i, (sendK (fun k => s (f k)) i m (d, bk)).2)]⟩)
    rw [sendK_map hf]
    generalize sendK (fun k => s (f k)) i m (d, bk) = x
    dsimp only
    by_cases c : x.1 ≤ s (f i)
    · rw [if_pos c, if_pos c]; simp [mapRS]
    · rw [if_neg c, if_neg c]; simp [mapRS]
theorem runR_map (s : Nat → Nat) (m : Nat) (r : RS) : ∀ k, runR s m k (mapRS f r) = mapRS f (runR (fun k => s (f k)) m k r)
  | 0 => rfl
  | k + 1 => by
    show stepR s m (runR s m k (mapRS f r)) = mapRS f (stepR (fun k => s (f k)) m (runR (fun k => s (f k)) m k r))
    rw [runR_map s m r k, stepR_map hf]
end
theorem initR_map (f : Nat → Nat) (l : List Nat) : initR (l.map f) = mapRS f (initR l) := by
  unfold initR mapRS mapB
  simp [List.map_map, Function.comp_def]
/-- places of an order, made one to one -/
noncomputable def plc (o : List Nat) (i : Nat) : Nat := if i < 4 then o.getD i 0 else i
theorem plc_inj {o : List Nat} (h4 : o.length = 4) (hl : ∀ i ∈ o, i < 4) (hn : o.Nodup) : ∀ i j, plc o i = plc o j → i = j := by
  intro i j e
  have mem : ∀ i, i < 4 → o[i]? = some (o.getD i 0) := fun i hi => by
    have : i < o.length := by lia
    rw [List.getD_eq_getElem?_getD, List.getElem?_eq_getElem this]; rfl
  have lt : ∀ i, i < 4 → o.getD i 0 < 4 := fun i hi => hl _ (List.mem_of_getElem? (mem i hi))
  unfold plc at e
  by_cases hi : i < 4
  · by_cases hj : j < 4
    · rw [if_pos hi, if_pos hj] at e
      have ei := mem i hi
      have ej := mem j hj
      rw [← e] at ej
      obtain ⟨l1, q1⟩ := List.getElem?_eq_some_iff.mp ei
      obtain ⟨l2, q2⟩ := List.getElem?_eq_some_iff.mp ej
      exact (List.getElem_inj hn).mp (q1.trans q2.symm)
    · rw [if_pos hi, if_neg hj] at e
      have := lt i hi; lia
  · by_cases hj : j < 4
    · rw [if_neg hi, if_pos hj] at e
      have := lt j hj; lia
    · rw [if_neg hi, if_neg hj] at e; exact e
theorem plc_list {o : List Nat} (h4 : o.length = 4) : [0, 1, 2, 3].map (plc o) = o := by
  match o, h4 with
  | [a, b, c, d], _ => rfl
end
section
open PySem PySem.W PySem.W.X PyProof.Rows PySem.Calls PySem.Spec PyProof
set_option maxHeartbeats 1000000
theorem mem_five {x : Nat} (h : 1 ≤ x ∧ x ≤ 5) : x ∈ five := by
  rcases lt5 h with rfl | rfl | rfl | rfl | rfl <;> simp [five]
theorem chk_all {z : Nat → Nat} (hz : ∀ i, i < 4 → 1 ≤ z i ∧ z i ≤ 5) {m : Nat} (hm : MOk m) : chkF (z 0) (z 1) (z 2) (z 3) m = true := by
  have h0 := mem_five (hz 0 (by decide))
  have h1 := mem_five (hz 1 (by decide))
  have h2 := mem_five (hz 2 (by decide))
  have h3 := mem_five (hz 3 (by decide))
  rcases hm with rfl | rfl | rfl | rfl
  · exact chk_m1 _ h0 _ h1 _ h2 _ h3
  · exact chk_m2 _ h0 _ h1 _ h2 _ h3
  · exact chk_m3 _ h0 _ h1 _ h2 _ h3
  · exact chk_m5 _ h0 _ h1 _ h2 _ h3
theorem runR_stay {s : Nat → Nat} {m k : Nat} {r : RS} (h : (runR s m k r).q = []) : ∀ j, runR s m (k + j) r = runR s m k r
  | 0 => rfl
  | j + 1 => by
    show stepR s m (runR s m (k + j) r) = _
    rw [runR_stay h j]
    unfold stepR; rw [h]
theorem sendK_congr {s s' : Nat → Nat} {i : Nat} (h : s i = s' i) (x : Nat × List (Nat × Int)) : ∀ m, sendK s i m x = sendK s' i m x
  | 0 => rfl
  | m + 1 => by
    show send1 s i (sendK s i m x) = send1 s' i (sendK s' i m x)
    rw [sendK_congr h x m]
    unfold send1; rw [h]
theorem stepR_congr {s s' : Nat → Nat} {m : Nat} (h : ∀ i, i < 4 → s i = s' i) {r : RS} (hq : ∀ p ∈ r.q, p.1 < 4) : stepR s m r = stepR s' m r ∧ ∀ p ∈ (stepR s m r).q, p.1 < 4 := by
  obtain ⟨q, bk, told⟩ := r
  cases q with
  | nil => exact ⟨rfl, fun p hp => (nomatch hp)⟩
  | cons p rest =>
    obtain ⟨i, d⟩ := p
    have hi : i < 4 := hq (i, d) (.head _)
    have e := sendK_congr (h i hi) (d, bk) m
    refine ⟨?_, ?_⟩
    · unfold stepR; dsimp only; rw [e, h i hi]
    · unfold stepR; dsimp only
      split
      · intro p hp
        rcases List.mem_append.mp hp with hp | hp
        · exact hq p (.tail _ hp)
        · rcases List.mem_singleton.mp hp with rfl; exact hi
      · intro p hp; exact hq p (.tail _ hp)
theorem runR_congr {s s' : Nat → Nat} {m : Nat} (h : ∀ i, i < 4 → s i = s' i) {r : RS} (hq : ∀ p ∈ r.q, p.1 < 4) : ∀ k, runR s m k r = runR s' m k r ∧ ∀ p ∈ (runR s m k r).q, p.1 < 4
  | 0 => ⟨rfl, hq⟩
  | k + 1 => by
    have ih := runR_congr (m := m) h hq k
    have := stepR_congr (m := m) h ih.2
    refine ⟨?_, this.2⟩
    show stepR s m (runR s m k r) = stepR s' m (runR s' m k r)
    rw [this.1, ih.1]
/-- a run's books: place by place they are the law's -/
theorem turnP {s : Nat → Nat} {m k : Nat} {o : List Nat} (h4 : o.length = 4) (hl : ∀ i ∈ o, i < 4) (hn : o.Nodup) (hs : ∀ i, i < 4 → 1 ≤ s i ∧ s i ≤ 5) (hm : MOk m) (hk : k ≤ 20) (hq : (runR s m k (initR o)).q = []) :
    ∃ ps : List Nat, ps.Perm [0, 1, 2, 3] ∧ (runR s m k (initR o)).told = ps.map fun p => (plc o p, mapB (plc o) (bookP (fun k => ((s (plc o k) : Nat) : Int)) (m : Nat) p 4)) := by
  have hinj := plc_inj h4 hl hn
  have hpl : ∀ i, i < 4 → plc o i < 4 := fun i hi => by
    unfold plc; rw [if_pos hi]
    have : i < o.length := by lia
    rw [List.getD_eq_getElem?_getD, List.getElem?_eq_getElem this]
    exact hl _ (List.getElem_mem this)
  let z : Nat → Nat := fun k => s (plc o k)
  have hz : ∀ i, i < 4 → 1 ≤ z i ∧ z i ≤ 5 := fun i hi => hs _ (hpl i hi)
  have e20 : runR s m k (initR o) = runR s m 20 (initR o) := by
    have := runR_stay hq (20 - k)
    rw [show k + (20 - k) = 20 by lia] at this
    exact this.symm
  have ei : initR o = mapRS (plc o) (initR [0, 1, 2, 3]) := by rw [← initR_map, plc_list h4]
  have er : runR s m 20 (initR o) = mapRS (plc o) (runR z m 20 (initR [0, 1, 2, 3])) := by rw [ei, runR_map hinj]
  have hrk : ∀ i, i < 4 → z i = rk (z 0) (z 1) (z 2) (z 3) i := fun i hi => by
    rcases lt4 hi with rfl | rfl | rfl | rfl <;> rfl
  have ec := (runR_congr (m := m) hrk (r := initR [0, 1, 2, 3]) (by decide) 20).1
  have ck := chk_all hz hm
  unfold chkF at ck
  rw [← runF_eq, ← ec] at ck
  rw [e20, er]
  generalize runR z m 20 (initR [0, 1, 2, 3]) = r at ck
  obtain ⟨q, bk, told⟩ := r
  simp only [Bool.and_eq_true, List.all_eq_true] at ck
  obtain ⟨⟨_, hp⟩, hb⟩ := ck
  have hperm : (told.map (·.1)).Perm [0, 1, 2, 3] := List.isPerm_iff.mp hp
  refine ⟨told.map (·.1), hperm, ?_⟩
  show (told.map fun t => (plc o t.1, mapB (plc o) t.2)) = _
  rw [List.map_map]
  refine List.map_congr_left fun t ht => ?_
  have ht4 : t.1 < 4 := by
    have := hperm.subset (List.mem_map_of_mem ht)
    simp at this; lia
  have e1 := eq_of_beq (hb t ht)
  have hbk : bookN (rk (z 0) (z 1) (z 2) (z 3)) m t.1 = bookP (fun k => ((z k : Nat) : Int)) (m : Nat) t.1 4 := by
    rw [bookN_eq (hz _ ht4) hm]
    unfold bookN hadN slN
    rw [← hrk _ ht4]
    have : ∀ j ∈ [0, 1, 2, 3], rk (z 0) (z 1) (z 2) (z 3) j = z j := fun j hj => (hrk j (by simp at hj; lia)).symm
    have ef : ([0, 1, 2, 3].filter fun j => Nat.blt 0 (min (rk (z 0) (z 1) (z 2) (z 3) j) (m * if Nat.ble j t.1 = true then (z t.1 + (m - 1)) / m else (z t.1 + (m - 1)) / m - 1))) = [0, 1, 2, 3].filter fun j => Nat.blt 0 (min (z j) (m * if Nat.ble j t.1 = true then (z t.1 + (m - 1)) / m else (z t.1 + (m - 1)) / m - 1)) :=
      List.filter_congr fun j hj => by rw [this j hj]
    rw [ef]
    refine List.map_congr_left fun j hj => ?_
    rw [this j ((List.mem_filter.mp hj).1)]
  show (plc o t.1, mapB (plc o) t.2) = (plc o t.1, mapB (plc o) (bookP (fun k => ((z k : Nat) : Int)) (m : Nat) t.1 4))
  rw [e1, hbk]
end
section
open PySem PySem.W PySem.W.X PyProof.Rows PySem.Calls PySem.Spec PyProof
set_option maxHeartbeats 1000000
theorem sum_perm {l l' : List Int} (h : l.Perm l') : l.sum = l'.sum := by
  induction h with
  | nil => rfl
  | cons x _ ih => simp [ih]
  | swap x y l => simp only [List.sum_cons]; lia
  | trans _ _ a b => rw [a, b]
theorem named_mapB (o : Nat → Nat) (b : List (Nat × Int)) : named nmL (mapB o b) = named (fun i => nmL (o i)) b := by
  unfold named mapB
  rw [List.map_map]; rfl
theorem hour_mapB (o : Nat → Nat) (b : List (Nat × Int)) : hourOf (mapB o b) = hourOf b := by
  unfold hourOf mapB
  rw [List.map_map]; rfl
/-- the value of a key, its entries summed -/
noncomputable def valS (b : List (Str × Int)) (k : Str) : Int := (b.map fun p => if p.1 = k then p.2 else 0).sum
theorem valS_append (a b : List (Str × Int)) (k : Str) : valS (a ++ b) k = valS a k + valS b k := by
  unfold valS; rw [List.map_append, List.sum_append]
theorem valS_none {b : List (Str × Int)} {k : Str} (h : k ∉ b.map (·.1)) : valS b k = 0 := by
  unfold valS
  induction b with
  | nil => rfl
  | cons p b ih =>
    rw [List.map_cons, List.mem_cons, not_or] at h
    rw [List.map_cons, List.sum_cons, ih h.2, if_neg (fun z => h.1 z.symm)]; rfl
theorem addOne_keys (b : List (Str × Int)) (k : Str) (v : Int) : (addOne b k v).map (·.1) = if k ∈ b.map (·.1) then b.map (·.1) else b.map (·.1) ++ [k] := by
  unfold addOne
  split
  · rw [List.map_map]
    refine List.map_congr_left fun p _ => ?_
    by_cases q : p.1 = k <;> simp [q]
  · simp
theorem addOne_nodup {b : List (Str × Int)} {k : Str} {v : Int} (h : (b.map (·.1)).Nodup) : ((addOne b k v).map (·.1)).Nodup := by
  rw [addOne_keys]
  split
  · exact h
  · rename_i c
    exact List.nodup_append.mpr ⟨h, by simp, fun a ha b hb e => by simp at hb; subst hb; subst e; exact c ha⟩
theorem valS_addOne {b : List (Str × Int)} (h : (b.map (·.1)).Nodup) (k : Str) (v : Int) (k' : Str) : valS (addOne b k v) k' = valS b k' + if k = k' then v else 0 := by
  unfold addOne
  by_cases c : k ∈ b.map (·.1)
  · rw [if_pos c]
    induction b with
    | nil => cases c
    | cons p b ih =>
      rw [List.map_cons, List.nodup_cons] at h
      unfold valS at ih ⊢
      by_cases q : p.1 = k
      · have hn : k ∉ b.map (·.1) := q ▸ h.1
        have e : b.map (fun p => if p.1 = k then (p.1, p.2 + v) else p) = b := by
          conv => rhs; rw [← List.map_id b]
          refine List.map_congr_left fun x hx => ?_
          have : x.1 ≠ k := fun z => hn (List.mem_map.mpr ⟨x, hx, z⟩)
          simp [this]
        rw [List.map_cons, if_pos q, e]
        simp only [List.map_cons, List.sum_cons, q]
        by_cases z : k = k'
        · simp [z]; lia
        · simp [z]
      · have c' : k ∈ b.map (·.1) := by
          rw [List.map_cons, List.mem_cons] at c
          rcases c with c | c
          · exact absurd c.symm q
          · exact c
        have := ih h.2 c'
        rw [List.map_cons, if_neg q]
        simp only [List.map_cons, List.sum_cons]
        rw [this]; lia
  · rw [if_neg c, valS_append]
    unfold valS
    simp
end
section
open PySem PySem.W PySem.W.X PyProof.Rows PySem.Calls PySem.Spec PyProof
set_option maxHeartbeats 1000000
theorem mem_addOne {b : List (Str × Int)} {k : Str} {v : Int} {k' : Str} : k' ∈ (addOne b k v).map (·.1) ↔ k' ∈ b.map (·.1) ∨ k' = k := by
  rw [addOne_keys]
  by_cases c : k ∈ b.map (·.1)
  · rw [if_pos c]
    exact ⟨.inl, fun h => h.elim id fun e => e ▸ c⟩
  · rw [if_neg c, List.mem_append, List.mem_singleton]
theorem addBk_ok : ∀ (s t : List (Str × Int)), (t.map (·.1)).Nodup → ((addBk t s).map (·.1)).Nodup ∧ (∀ k, valS (addBk t s) k = valS t k + valS s k) ∧ ∀ k, k ∈ (addBk t s).map (·.1) ↔ k ∈ t.map (·.1) ∨ k ∈ s.map (·.1)
  | [], t, h => ⟨h, fun k => by show valS t k = valS t k + 0; lia, fun k => by show k ∈ t.map (·.1) ↔ _; simp⟩
  | p :: s, t, h => by
    obtain ⟨a, b, c⟩ := addBk_ok s (addOne t p.1 p.2) (addOne_nodup h)
    refine ⟨a, fun k => ?_, fun k => ?_⟩
    · show valS (addBk (addOne t p.1 p.2) s) k = _
      rw [b, valS_addOne h]
      show valS t k + (if p.1 = k then p.2 else 0) + valS s k = valS t k + ((if p.1 = k then p.2 else 0) + valS s k)
      lia
    · show k ∈ (addBk (addOne t p.1 p.2) s).map (·.1) ↔ _
      rw [c, mem_addOne, List.map_cons, List.mem_cons]
      constructor
      · rintro ((h | h) | h)
        · exact .inl h
        · exact .inr (.inl h)
        · exact .inr (.inr h)
      · rintro (h | h | h)
        · exact .inl (.inl h)
        · exact .inl (.inr h)
        · exact .inr h
noncomputable def foldB (l : List (List (Str × Int))) : List (Str × Int) := l.foldl addBk []
theorem foldB_from : ∀ (l : List (List (Str × Int))) (t : List (Str × Int)), (t.map (·.1)).Nodup → ((l.foldl addBk t).map (·.1)).Nodup ∧ (∀ k, valS (l.foldl addBk t) k = valS t k + (l.map fun b => valS b k).sum) ∧ ∀ k, k ∈ (l.foldl addBk t).map (·.1) ↔ k ∈ t.map (·.1) ∨ ∃ b ∈ l, k ∈ b.map (·.1)
  | [], t, h => ⟨h, fun k => by simp, fun k => by simp⟩
  | b :: l, t, h => by
    obtain ⟨a1, a2, a3⟩ := addBk_ok b t h
    obtain ⟨c1, c2, c3⟩ := foldB_from l (addBk t b) a1
    refine ⟨c1, fun k => ?_, fun k => ?_⟩
    · show valS (l.foldl addBk (addBk t b)) k = _
      rw [c2, a2, List.map_cons, List.sum_cons]; lia
    · show k ∈ (l.foldl addBk (addBk t b)).map (·.1) ↔ _
      rw [c3, a3]
      constructor
      · rintro ((h | h) | ⟨x, hx, h⟩)
        · exact .inl h
        · exact .inr ⟨b, .head _, h⟩
        · exact .inr ⟨x, .tail _ hx, h⟩
      · rintro (h | ⟨x, hx, h⟩)
        · exact .inl (.inl h)
        · rcases List.mem_cons.mp hx with rfl | hx
          · exact .inl (.inr h)
          · exact .inr ⟨x, hx, h⟩
/-- two dicts of ints say the same -/
noncomputable def SameD (a b : List (Str × Int)) : Prop := (a.map (·.1)).Nodup ∧ (b.map (·.1)).Nodup ∧ (∀ k, k ∈ a.map (·.1) ↔ k ∈ b.map (·.1)) ∧ ∀ k, valS a k = valS b k
theorem foldB_perm {l l' : List (List (Str × Int))} (h : l.Perm l') : SameD (foldB l) (foldB l') := by
  obtain ⟨a1, a2, a3⟩ := foldB_from l [] (by simp)
  obtain ⟨b1, b2, b3⟩ := foldB_from l' [] (by simp)
  refine ⟨a1, b1, fun k => ?_, fun k => ?_⟩
  · rw [show foldB l = l.foldl addBk [] from rfl, show foldB l' = l'.foldl addBk [] from rfl, a3, b3]
    constructor
    · rintro (h1 | ⟨x, hx, h1⟩)
      · exact .inl h1
      · exact .inr ⟨x, h.subset hx, h1⟩
    · rintro (h1 | ⟨x, hx, h1⟩)
      · exact .inl h1
      · exact .inr ⟨x, h.symm.subset hx, h1⟩
  · rw [show foldB l = l.foldl addBk [] from rfl, show foldB l' = l'.foldl addBk [] from rfl, a2, b2]
    rw [sum_perm (h.map _)]
end
section
open PySem PySem.W PySem.W.X PyProof.Rows PySem.Calls PySem.Spec PyProof
set_option maxHeartbeats 1000000
theorem valS_at {b : List (Str × Int)} (h : (b.map (·.1)).Nodup) {p : Str × Int} (hp : p ∈ b) : valS b p.1 = p.2 := by
  induction b with
  | nil => cases hp
  | cons q b ih =>
    rw [List.map_cons, List.nodup_cons] at h
    show (if q.1 = p.1 then q.2 else 0) + valS b p.1 = p.2
    rcases List.mem_cons.mp hp with rfl | hp
    · rw [if_pos rfl, valS_none h.1]; lia
    · have : q.1 ≠ p.1 := fun z => h.1 (z ▸ List.mem_map_of_mem hp)
      rw [if_neg this, ih h.2 hp]; lia
theorem SameD.len {a b : List (Str × Int)} (h : SameD a b) : a.length = b.length := by
  refine Classical.byContradiction fun hng => ?_
  obtain ⟨n1, n2, m, _⟩ := h
  refine hng ?_
  have := (List.perm_ext_iff_of_nodup n1 n2).mpr m
  simpa using this.length_eq
theorem SameD.refl {a : List (Str × Int)} (h : (a.map (·.1)).Nodup) : SameD a a := ⟨h, h, fun _ => Iff.rfl, fun _ => rfl⟩
/-- two dicts of ints that say the same: each value of the one is found in the other -/
theorem same_value {ra rb : List (Str × Int × Tok)} (h : SameD (bk ra) (bk rb)) : (∀ x ∈ ra, ∃ t, valueAt (intPairs rb) x.1 = some (.int x.2.1 t)) ∧ (intPairs ra).length = (intPairs rb).length := by
  have hl := h.len
  refine Classical.byContradiction fun hng => ?_
  obtain ⟨n1, n2, m, v⟩ := h
  refine hng ?_
  refine ⟨fun x hx => ?_, by simpa [bk, intPairs_length] using hl⟩
  have hxa : (x.1, x.2.1) ∈ bk ra := List.mem_map.mpr ⟨x, hx, rfl⟩
  have hk : x.1 ∈ (bk rb).map (·.1) := (m _).mp (List.mem_map_of_mem hxa)
  have n2' : ((intPairs rb).map (·.1)).Nodup := by rw [← keys_bk]; exact n2
  obtain ⟨cur, t, e, hall⟩ := valueAt_int n2' (k := x.1) (by rw [← keys_bk]; exact hk)
  obtain ⟨p, hp, ep⟩ := List.mem_map.mp hk
  obtain ⟨y, hy, ey⟩ := List.mem_map.mp hp
  have e1 := hall y hy (by rw [← ep, ← ey])
  have e2 := valS_at n2 hp
  have e3 := valS_at n1 hxa
  have e4 := v x.1
  have : p.2 = y.2.1 := by rw [← ey]
  rw [ep] at e2
  dsimp only at e3
  refine ⟨t, ?_⟩
  rw [e]
  have : cur = x.2.1 := by lia
  rw [this]
end
section
open PySem PySem.W PySem.W.X PyProof.Rows PySem.Calls PySem.Spec PyProof
set_option maxHeartbeats 1000000
theorem insAt_perm (le : Nat → Nat → Bool) (line : List Nat) (k : Nat) : (insAt le line k).Perm (line ++ [k]) := by
  unfold insAt
  refine (List.perm_middle).trans ?_
  rw [List.take_append_drop]
  exact (List.perm_append_singleton k line).symm
theorem orderOf_perm (le : Nat → Nat → Bool) : ∀ n, (orderOf le n).Perm (List.range n)
  | 0 => List.Perm.refl _
  | n + 1 => by
    rw [orderOf_succ, List.range_succ]
    exact (insAt_perm le _ n).trans ((orderOf_perm le n).append_right _)
theorem ordL_perm (c : Nat → Int) (T : Int) : (ordL c T).Perm [0, 1, 2, 3] := orderOf_perm _ 4
structure OOk (o : List Nat) : Prop where
  p : o.Perm [0, 1, 2, 3]
theorem OOk.h4 {o : List Nat} (h : OOk o) : o.length = 4 := h.p.length_eq
theorem OOk.hl {o : List Nat} (h : OOk o) : ∀ i ∈ o, i < 4 := fun i hi => by
  have := h.p.subset hi
  simp at this; lia
theorem OOk.hn {o : List Nat} (h : OOk o) : o.Nodup := h.p.nodup_iff.mpr (by decide)
theorem OOk.plc {o ps : List Nat} (h : OOk o) (hp : ps.Perm [0, 1, 2, 3]) : (ps.map (plc o)).Perm [0, 1, 2, 3] := by
  refine (hp.map _).trans ?_
  rw [plc_list h.h4]; exact h.p
/-- the law's books for an order -/
noncomputable def BB (s : Nat → Nat) (o : List Nat) (m p : Nat) : List (Nat × Int) := bookP (fun k => ((s (plc o k) : Nat) : Int)) (m : Nat) p 4
section
variable {s : Nat → Nat} {m k : Nat} {o : List Nat}
/-- what the run's entry says -/
theorem turnE (h : OOk o) (hs : ∀ i, i < 4 → 1 ≤ s i ∧ s i ≤ 5) (hm : MOk m) (hk : k ≤ 20) (hq : (runR s m k (initR o)).q = []) (pr : Nat → Int) :
    ∃ ps : List Nat, ps.Perm [0, 1, 2, 3] ∧ (runR s m k (initR o)).told = (ps.map fun p => (plc o p, mapB (plc o) (BB s o m p))) ∧
      entS s (runR s m k (initR o)).told = ((List.range 4).map fun k => ((s k : Nat) : Int)).sum ∧
      entH (runR s m k (initR o)).told = ((List.range 4).map fun k => hourOf (BB s o m k)).sum ∧
      entD pr (runR s m k (initR o)).told = ((List.range 4).map fun k => pr (plc o k) * hourOf (BB s o m k)).sum ∧
      SameD (entC (runR s m k (initR o)).told) (foldB ((List.range 4).map fun k => named (fun i => nmL (plc o i)) (BB s o m k))) := by
  obtain ⟨ps, hp, e⟩ := turnP h.h4 h.hl h.hn hs hm hk hq
  have e' : (runR s m k (initR o)).told = (ps.map fun p => (plc o p, mapB (plc o) (BB s o m p))) := e
  refine ⟨ps, hp, e', ?_, ?_, ?_, ?_⟩ <;> rw [e']
  · unfold entS
    rw [List.map_map]
    have : (ps.map ((fun b : Nat × List (Nat × Int) => ((s b.1 : Nat) : Int)) ∘ fun p => (plc o p, mapB (plc o) (BB s o m p)))) = (ps.map (plc o)).map fun k => ((s k : Nat) : Int) := by
      rw [List.map_map]; rfl
    rw [this]
    exact sum_perm ((h.plc hp).map _)
  · unfold entH
    rw [List.map_map]
    have : (ps.map ((fun b : Nat × List (Nat × Int) => hourOf b.2) ∘ fun p => (plc o p, mapB (plc o) (BB s o m p)))) = ps.map fun k => hourOf (BB s o m k) :=
      List.map_congr_left fun p _ => hour_mapB _ _
    rw [this]
    exact sum_perm (hp.map _)
  · unfold entD
    rw [List.map_map]
    have : (ps.map ((fun b : Nat × List (Nat × Int) => pr b.1 * hourOf b.2) ∘ fun p => (plc o p, mapB (plc o) (BB s o m p)))) = ps.map fun k => pr (plc o k) * hourOf (BB s o m k) :=
      List.map_congr_left fun p _ => by show pr (plc o p) * hourOf (mapB (plc o) (BB s o m p)) = _; rw [hour_mapB]
    rw [this]
    exact sum_perm (hp.map _)
  · have : entC (ps.map fun p => (plc o p, mapB (plc o) (BB s o m p))) = foldB (ps.map fun k => named (fun i => nmL (plc o i)) (BB s o m k)) := by
      unfold entC foldB
      rw [List.foldl_map, List.foldl_map]
      congr 1
      funext c p
      rw [named_mapB]
    rw [this]
    exact foldB_perm (hp.map _)
end
end
section
open PySem PySem.W PySem.W.X PyProof.Rows PySem.Calls PySem.Spec PyProof
open LCg (NsObj lst)
set_option maxHeartbeats 1000000
theorem dots_all : ∀ j ∈ [0, 1, 2, 3], ∀ d ∈ [1, 2, 3, 4, 5], (Txt.mul (S ".") ((d : Nat) + 1 : Int) ++ nmL j ++ S "\r\n" == wordD (97 + j) (d + 1)) = true := by decide +kernel
theorem dots_eq {j d : Nat} (hj : j < 4) (hd : 1 ≤ d ∧ d ≤ 5) : Txt.mul (S ".") ((d : Nat) + 1 : Int) ++ nmL j ++ S "\r\n" = wordD (97 + j) (d + 1) := by
  refine eq_of_beq (dots_all j ?_ d (mem_five hd))
  rcases lt4 hj with rfl | rfl | rfl | rfl <;> simp
theorem dots_len : ∀ d ∈ [1, 2, 3, 4, 5], (Txt.mul (S ".") ((d : Nat) + 1 : Int)).length ≤ 6 := by decide +kernel
theorem mulOk_dots {d : Nat} (hd : 1 ≤ d ∧ d ≤ 5) : MulOk (S ".") ((d : Nat) + 1 : Int) := by
  have e : (S ".").length = 1 := rfl
  unfold MulOk
  rw [e]
  rcases lt5 hd with rfl | rfl | rfl | rfl | rfl <;> decide
section
variable {prog : Program} {w w' : World} {A : Around} {E : Value → Shared → Prop} {s : Shared}
/-- a str sought in a dict of strs, whatever the hashes -/
theorem dfind_str {d : Addr} {o : Obj} {es : Array DictEntry} {ep : Nat} {k : Str} {t : Tok} {hsh : Int} {j : Nat} {Q : Option Nat → Shared → Prop} (ho : s.heap.get? d = some o) (hd : o.data = .dict es ep) (hk : StrKeys es)
    (hj : es.findIdx? (·.key.isStr k) = some j) (h : Q (some j) s) : wpAny (model prog w') A (dictFind d (.str k t) hsh) Q E s := by
  unfold dictFind
  refine wpAny_holding (wpAny_bind (wpAny_dictEntries ho hd ?_))
  have hall : (es.all fun e => isExactStrKey e.key) = true := by
    rw [Array.all_eq_true_iff_forall_mem]
    intro e he
    obtain ⟨n, u, e1⟩ := hk e he
    rw [e1]; rfl
  dsimp only
  rw [if_pos hall]
  obtain ⟨hjl, hjs, _⟩ := Array.findIdx?_eq_some_iff_getElem.mp hj
  obtain ⟨n, u, ek⟩ := hk es[j] (Array.getElem_mem hjl)
  rw [ek] at hjs
  have en : n = k := by simpa [Value.isStr] using hjs
  subst en
  unfold foundByValue
  rw [hj]
  dsimp only
  rw [Array.getElem?_eq_getElem hjl]
  dsimp only
  refine wpAny_bind (wpAny_dictEpoch ho hd ?_)
  rw [ek]
  refine wpAny_bind (wpAny_eqBool_str (wpAny_bind (wpAny_dictEpoch ho hd ?_)))
  show wpAny _ _ (if (ep != ep) = true then _ else _) _ _ _
  rw [if_neg (by simp), decide_eq_true rfl]
  exact wpAny_bind (wpAny_rule (wpAny_pure h))
/-- two dicts whose entries are found in one another, whatever the hashes -/
theorem same_pairs {nm : String} {a b : Addr} {oa ob : Obj} {es es' : Array DictEntry} {ep ep' : Nat} {Q : Bool → Shared → Prop} (ha : (a == sysModules) = false) (hb : (b == sysModules) = false) (hoa : s.heap.get? a = some oa) (hda : oa.data = .dict es ep) (hob : s.heap.get? b = some ob) (hdb : ob.data = .dict es' ep')
    (hk : StrKeys es) (hk' : StrKeys es') (hsz : es.size = es'.size)
    (hit : ∀ i (hi : i < es.size) (k : Str), es[i].key.isStr k = true → ∃ j, es'.findIdx? (·.key.isStr k) = some j ∧ ∃ hj : j < es'.size, SeqAt.EqAt A s es[i].val es'[j].val true) (h : Q true s) :
    wpAny (model prog w') A (Builtin.Dict.samePairs nm a b) Q E s := by
  unfold Builtin.Dict.samePairs Builtin.Dict.showsAll
  rw [if_neg (by rw [ha]; decide), if_neg (by rw [hb]; decide)]
  refine wpAny_bind (wpAny_pure (wpAny_bind (wpAny_pure (wpAny_bind (wpAny_dictEntries hoa hda ?_)))))
  dsimp only
  refine wpAny_bind (wpAny_dictEntries hob hdb ?_)
  rw [if_neg (by rw [hsz]; simp)]
  refine wpAny_bind (wpAny_dictEpoch hoa hda (wpAny_bind ?_))
  rw [Std.Legacy.Range.forIn_eq_forIn_range']
  simp only [Std.Legacy.Range.size, Nat.sub_zero, Nat.add_sub_cancel, Nat.div_one]
  refine wpAny_forIn_list _ (fun rest q s' => s' = s ∧ q = (none, ()) ∧ ∀ x ∈ rest, x < es.size) _ ?_ ?_ _ _ ⟨rfl, rfl, fun x hx => ?_⟩
  · rintro x rest q _ ⟨rfl, rfl, hr⟩
    have hlt : x < es.size := hr x (.head _)
    obtain ⟨k, t, ek⟩ := hk es[x] (Array.getElem_mem hlt)
    obtain ⟨j, hj, hjl, he⟩ := hit x hlt k (by rw [ek]; simp [Value.isStr])
    refine wpAny_bind (wpAny_dictEntries hoa hda ?_)
    rw [Array.getElem?_eq_getElem hlt]
    dsimp only
    rw [ek]
    refine wpAny_bind (wpAny_holding (wpAny_bind (dfind_str hob hdb hk' hj ?_)))
    refine wpAny_bind (wpAny_dictEntries hob hdb ?_)
    rw [Array.getElem?_eq_getElem hjl]
    refine wpAny_holding (he prog w' _ _ ?_)
    show wpAny _ _ (if (!true) = true then _ else _) _ _ _
    rw [if_neg (by decide)]
    refine wpAny_bind (wpAny_dictEpoch hoa hda ?_)
    rw [if_neg (by simp)]
    exact wpAny_pure ⟨rfl, rfl, fun y hy => hr y (.tail _ hy)⟩
  · rintro q _ ⟨rfl, rfl, _⟩
    exact wpAny_pure h
  · have := List.mem_range'.mp hx
    obtain ⟨i, h1, h2⟩ := this
    lia
/-- two dicts of ints that say the same are equal, in any world -/
theorem rc_books {h : Heap} {tk : Nat} {a b : Addr} {ra rb : List (Str × Int × Tok)} (ha : 183 ≤ a) (hb' : 183 ≤ b) (da : h.DictOf (SK w) a (intPairs ra)) (db : h.DictOf (SK w) b (intPairs rb)) (hu : A.units < cLine) (hs : SameD (bk ra) (bk rb)) : SeqAt.RcAt A (St s h tk) (.ref a) (.ref b) true := fun prog w' E Q hq => by
  obtain ⟨hval, hl⟩ := same_value hs
  refine wpAny_richCompare_same_room (op := .Eq) (s := St s h tk) da.typeIs db.typeIs PySem.F.slot_dict_eq (wpAny_call_entry PySem.F.slot_dict_eq da.typeIs PySem.F.entry_dict_eq ?_ (PySem.F.args_dict_eq_2 _ _)) hu
  refine Classical.byContradiction fun hng => ?_
  obtain ⟨oa, es, ep, hoa, _, hda, hka, hpa, hna⟩ := id da
  refine hng ?_
  refine Classical.byContradiction fun hng => ?_
  obtain ⟨ob, es', ep', hob, _, hdb, hkb, hpb, hnb⟩ := id db
  refine hng ?_
  have sk : ∀ {es : Array DictEntry}, KeysOf (SK w) es → StrKeys es := fun hk e he => by
    obtain ⟨k, h1, _⟩ := hk e he
    obtain ⟨t, e1⟩ := key_of h1
    exact ⟨k, t, e1⟩
  have la : (intPairs ra).length = es.size := by rw [← hpa.length]; exact Array.length_toList
  have lb : (intPairs rb).length = es'.size := by rw [← hpb.length]; exact Array.length_toList
  refine wpAny_bind ?_
  unfold Builtin.Dict.dictSlotArgs
  refine wpAny_bind (wpAny_notOrdered_dict da.typeIs ?_)
  show wpAny _ _ (pure (Value.ref a, Value.ref b)) _ _ _
  refine wpAny_pure ?_
  refine wpAny_bind (wpAny_isInstance (T := "dict") db.typeIs PySem.F.sub_dict_dict ?_)
  simp only [Bool.not_true, Bool.false_eq_true, if_false]
  refine wpAny_bind (wpAny_pure (wpAny_bind (wpAny_pure ?_)))
  refine wpAny_bind (same_pairs (s := St s h tk) (ne_sys ha) (ne_sys hb') hoa hda hob hdb (sk hka) (sk hkb) (by lia) (fun i hi k hk => ?_) ?_)
  · have hir : i < (intPairs ra).length := by lia
    obtain ⟨k0, v0, hkv⟩ : ∃ k v, (intPairs ra)[i]? = some (k, v) := ⟨_, _, List.getElem?_eq_getElem hir⟩
    refine Classical.byContradiction fun hng => ?_
    obtain ⟨n, t, hn, rfl⟩ := intPairs_get hkv
    refine hng ?_
    obtain ⟨h1, h2⟩ := hpa.get? (i := i) (e := es[i]) (by rw [Array.getElem?_toList]; exact Array.getElem?_eq_getElem hi) hkv
    obtain ⟨tk0, ek0⟩ := key_of h1
    rw [ek0] at hk
    have ekk : k0 = k := by simpa [Value.isStr] using hk
    subst ekk
    obtain ⟨t', hv⟩ := hval _ (List.mem_of_getElem? hn)
    dsimp only at hv
    rw [← hpb.find k0] at hv
    have hfun : (fun e : DictEntry => (SK w).is k0 e.key) = fun e => e.key.isStr k0 := funext fun e => (SK w).strs k0 k0 0 e.key (is_key k0 0)
    rw [hfun, Array.find?_toList] at hv
    have hv' : findBy (fun n v => v.isStr n) es' k0 = some (.int n t') := hv
    rw [findBy_of_findIdx?] at hv'
    cases hj : es'.findIdx? (fun e => e.key.isStr k0) with
    | none => rw [hj] at hv'; cases hv'
    | some j =>
      rw [hj] at hv'
      obtain ⟨hjl, _, _⟩ := Array.findIdx?_eq_some_iff_getElem.mp hj
      refine ⟨j, rfl, hjl, ?_⟩
      dsimp only at hv'
      rw [Array.getElem?_eq_getElem hjl] at hv'
      have e2 : es'[j].val = .int n t' := by simpa using hv'
      rw [h2, e2]
      have := SeqAt.EqAt.int_int (A := A.in1) (s := St s h tk) n t n t'
      rwa [beq_self_eq_true] at this
  refine wpAny_pure ⟨_, rfl, ?_, ?_⟩
  · exact fun x => nomatch x
  · exact hq
end
section
variable {A : Around} {s : Shared} {h : Heap} {tk : Nat} {w : World}
theorem eq_int {i : Int} {t u : Tok} {A : Around} {s : Shared} : SeqAt.EqAt A s (.int i t) (.int i u) true := by
  have := SeqAt.EqAt.int_int (A := A) (s := s) i t i u
  rwa [beq_self_eq_true] at this
theorem eq_str {i : Str} {t u : Tok} {A : Around} {s : Shared} : SeqAt.EqAt A s (.str i t) (.str i u) true := by
  have := SeqAt.EqAt.str_str (A := A) (s := s) i t i u
  rwa [beq_self_eq_true] at this
noncomputable abbrev tupO (vs : Array Value) : Obj := { cls := .type "tuple", data := .seq vs }
/-- two tuples (word, book) -/
theorem rc_told {a b ba bb : Addr} {x : Str} {t u : Tok} {ra rb : List (Str × Int × Tok)} (ea : h.get? a = some (tupO #[.str x t, .ref ba])) (eb : h.get? b = some (tupO #[.str x u, .ref bb])) (hne : ba ≠ bb) (ha : 183 ≤ ba) (hb' : 183 ≤ bb)
    (da : h.DictOf (SK w) ba (intPairs ra)) (db : h.DictOf (SK w) bb (intPairs rb)) (hu : A.units + 1 < cLine) (hs : SameD (bk ra) (bk rb)) : SeqAt.RcAt A (St s h tk) (.ref a) (.ref b) true := by
  have := SeqAt.RcAt.tuples (A := A) (s := St s h tk) (e := fun _ => true) ⟨_, ea, rfl, _, rfl⟩ ⟨_, eb, rfl, _, rfl⟩ (by lia) fun j h1 h2 => by
    have hj : j < 2 := h1
    have : j = 0 ∨ j = 1 := by lia
    rcases this with rfl | rfl
    · exact eq_str
    · exact SeqAt.EqAt.of_refs hne (rc_books ha hb' da db (by show A.units + 1 < _; lia) hs)
  exact this
/-- the two entries -/
theorem r_neE {E : Value → Shared → Prop} {Q : Value → Shared → Prop} {a b ba bb : Addr} {i0 i1 i2 i3 : Int} {t0 t1 t2 t3 u0 u1 u2 u3 : Tok} {ra rb : List (Str × Int × Tok)} (ea : h.get? a = some (tupO #[.int i0 t0, .int i1 t1, .int i2 t2, .int i3 t3, .ref ba])) (eb : h.get? b = some (tupO #[.int i0 u0, .int i1 u1, .int i2 u2, .int i3 u3, .ref bb]))
    (hne : ba ≠ bb) (ha : 183 ≤ ba) (hb' : 183 ≤ bb) (da : h.DictOf (SK w) ba (intPairs ra)) (db : h.DictOf (SK w) bb (intPairs rb)) (hu : A.units + 1 < cLine) (hs : SameD (bk ra) (bk rb)) (hq : Q (.bool false) (St s h tk)) :
    wpAny (MM w) A (compareOp .NotEq (.ref a) (.ref b)) Q E (St s h tk) := by
  refine SeqAt.RcNeAt.tuples (A := A) (s := St s h tk) (e := fun _ => true) ⟨_, ea, rfl, _, rfl⟩ ⟨_, eb, rfl, _, rfl⟩ (by lia) (fun j h1 h2 => ?_) PR w E Q hq
  have hj : j < 5 := h1
  have : j = 0 ∨ j = 1 ∨ j = 2 ∨ j = 3 ∨ j = 4 := by lia
  rcases this with rfl | rfl | rfl | rfl | rfl
  · exact eq_int
  · exact eq_int
  · exact eq_int
  · exact eq_int
  · exact SeqAt.EqAt.of_refs hne (rc_books ha hb' da db (by show A.units + 1 < _; lia) hs)
theorem value_four {v : Nat → Value} {i : Nat} (hi : i < 4) : valueAt ((List.range 4).map fun j => (nmL j, v j)) (nmL i) = some (v i) := by
  rcases lt4 hi with rfl | rfl | rfl | rfl <;> kernel_rfl
/-- what is told -/
theorem r_neT {E : Value → Shared → Prop} {Q : Value → Shared → Prop} {td D : Addr} {tl : List TRec} {ta : Nat → Addr} (ht : (td == sysModules) = false) (hD : 183 ≤ D) (dt : h.DictOf (SK w) td (toldKv tl)) (dD : h.DictOf (SK w) D ((List.range 4).map fun j => (nmL j, Value.ref (ta j)))) (hu : A.units + 1 < cLine) (hl : tl.length = 4)
    (all : ∀ t ∈ tl, t.i < 4 ∧ t.tup ≠ ta t.i ∧ SeqAt.RcAt A.in1 (St s h tk) (.ref t.tup) (.ref (ta t.i)) true) (hq : Q (.bool false) (St s h tk)) :
    wpAny (MM w) A (compareOp .NotEq (.ref td) (.ref D)) Q E (St s h tk) := by
  have hits : ∀ tl : List TRec, (∀ t ∈ tl, t.i < 4 ∧ t.tup ≠ ta t.i ∧ SeqAt.RcAt A.in1 (St s h tk) (.ref t.tup) (.ref (ta t.i)) true) → KeqHits A.in1 (St s h tk) ((List.range 4).map fun j => (nmL j, Value.ref (ta j))) (toldKv tl) true := by
    intro tl
    induction tl with
    | nil => intro _; exact .nil
    | cons t r ih =>
      intro all
      obtain ⟨h1, h2, h3⟩ := all t (.head _)
      have := KeqHits.hit (v := .ref t.tup) (value_four (v := fun j => .ref (ta j)) h1) (SeqAt.EqAt.of_refs h2 h3) (ih fun x hx => all x (.tail _ hx))
      exact this
  refine keq_ne (s := St s h tk) (knd := SK w) (r := true) ht (ne_sys hD) dt dD (by lia) (fun _ => hits tl all) ?_
  have e : (toldKv tl).length = ((List.range 4).map fun j => (nmL j, Value.ref (ta j))).length := by simp [toldKv, hl]
  rw [e, beq_self_eq_true]; exact hq
/-- names.index(name) -/
theorem r_index {E : Value → Shared → Prop} {Q : Value → Shared → Prop} {l : Addr} {tn : Nat → Tok} {n j : Nat} {u : Tok} (e : h.get? l = some (listObj ((List.range 4).map fun k => Value.str (nmL k) (tn k)).toArray n)) (hj : j < 4) (hq : ∀ t tk', Q (.int (j : Nat) t) (St s h tk')) :
    wpAny (MM w) A (call (.builtin "list.index") [.ref l, .str (nmL j) u]) Q E (St s h tk) := by
  refine call_meets (s := St s h tk) PySem.F.slot_list_index ⟨_, e, rfl⟩ PySem.F.entry_list_index (PySem.F.args_list_index_2 _ _)
    (MeetsSeq.list_index l _ n (.str (nmL j) u) (fun y => match y with | .str x _ => x.cps.toList == (nmL j).cps.toList | _ => false) (fun y hy => ?_) j (by simpa using hj) (by lia) ?_ ?_) ⟨e, hq _ _⟩
  · obtain ⟨k, hk, rfl⟩ := List.mem_map.mp (List.mem_toArray.mp hy)
    exact SeqRoads2.EqGives.str _ _ _ _
  · rcases lt4 hj with rfl | rfl | rfl | rfl <;> rfl
  · intro m hm hlt
    have hm4 : m < 4 := by lia
    rcases lt4 hj with rfl | rfl | rfl | rfl <;> rcases lt4 hm4 with rfl | rfl | rfl | rfl <;> first | rfl | lia
theorem gm_index {E : Value → Shared → Prop} {pl : Sem Bool} {l : Addr} {items : Array Value} {n : Nat} {Q : Value × List Value → Shared → Prop} (e : h.get? l = some (listObj items n)) (hq : Q (.builtin "list.index", [.ref l]) (St s h tk)) : wpAny (MM w) A (getMethod (.ref l) (S "index") pl) Q E (St s h tk) :=
  getMethod_list_of PySem.F.slot_list_index PySem.F.type_list_index ⟨_, e, rfl, _, rfl⟩ ⟨_, e, rfl⟩ hq
end
end
section
open PySem PySem.W PySem.W.X PyProof.Rows PySem.Calls PySem.Spec PyProof
open LCg (NsObj lst)
set_option maxHeartbeats 1000000
noncomputable def bTurn : List Stmt := forN (nthS bLaw 17)
noncomputable def lineO (c : Nat → Int) (T : Int) (i : Nat) : List Nat := if i = 2 then ordL c T else [0, 1, 2, 3]
noncomputable def lineA (na lo : Addr) (i : Nat) : Addr := if i = 2 then lo else na
noncomputable def mostN (T : Int) (i : Nat) : Nat := if i = 0 then 1 else if i = 1 then (2 + T.fmod 2).toNat else 5
theorem lineO_ok (c : Nat → Int) (T : Int) (i : Nat) : OOk (lineO c T i) := by
  unfold lineO
  split
  · exact ⟨ordL_perm c T⟩
  · exact ⟨List.Perm.refl _⟩
theorem mostN_ok (T : Int) (i : Nat) : MOk (mostN T i) := by
  have := fmod_bounds T (n := 2) (by decide)
  unfold mostN MOk
  split
  · exact .inl rfl
  split <;> lia
theorem lt3 {i : Nat} (h : i < 3) : i = 0 ∨ i = 1 ∨ i = 2 := by lia
theorem range_four {α : Type} (f : Nat → α) : [0, 1, 2, 3].map f = (List.range 4).map f := rfl
theorem line_list {h : Heap} {na lo : Addr} {tn : Nat → Tok} {c : Nat → Int} {T : Int} {i : Nat} (e1 : h.IsList na ((List.range 4).map fun k => Value.str (nmL k) (tn k)).toArray) (e2 : h.IsList lo ((ordL c T).map fun i => Value.str (nmL i) (tn i)).toArray) :
    h.IsList (lineA na lo i) ((lineO c T i).map fun j => Value.str (nmL j) (tn j)).toArray := by
  unfold lineA lineO
  by_cases q : i = 2
  · rw [if_pos q, if_pos q]; exact e2
  · rw [if_neg q, if_neg q]; exact e1
section
variable {w : World} {A : Around} {s : Shared} {E : Value → Shared → Prop} {Q : Flow → Shared → Prop} {hb h : Heap} {tk : Nat} {L : Addr} {oL : Obj} {m : Str → Option Value}
theorem turnA (X : (KK w.params).In hb) (hh : A.handled = none) {vs : Value} {v6 : Option Value} {c : Nat → Int} {tc tn tp tw : Nat → Tok} {ca na pa ds dp wa lo li oo oi su I : Addr} {ods odp t1 t2 od opl oq osu oI : Obj} {T : Int} {tv tT ti : Tok} {l : Lx} {i : Nat} (hi : i < 3)
    (N : Now hb [141, 179] h (lawAll L oL vs v6 (some (.int (wayOf T) tv)) l c tc tn tp tw ca na pa ds dp wa ods odp t1 t2 od opl oq ++ [(lo, lst ((ordL c T).map fun i => .str (nmL i) (tn i))), (li, listObj #[.ref na, .ref na, .ref lo] 0), (oo, lst ((ordL c T).map fun i => .str (nmL i) (tn i))), (oi, listObj #[.ref na, .ref na, .ref oo] 0), (su, osu), (I, oI)])) (nL : NsObj oL m)
    (m1 : m (S "turn") = some (.int (i : Nat) ti)) (m2 : m (S "total") = some (.int T tT)) (m3 : m (S "lines") = some (.ref li))
    (hq : ∀ h' tk' oL' m' D (te : Nat → Tok) tm, Now hb [141, 179] h' (lawAll L oL' vs v6 (some (.int (wayOf T) tv)) l c tc tn tp tw ca na pa ds dp wa ods odp t1 t2 od opl oq ++ [(lo, lst ((ordL c T).map fun i => .str (nmL i) (tn i))), (li, listObj #[.ref na, .ref na, .ref lo] 0), (oo, lst ((ordL c T).map fun i => .str (nmL i) (tn i))), (oi, listObj #[.ref na, .ref na, .ref oo] 0), (su, osu), (I, oI)] ++ [(D, lst ((lineO c T i).map fun j => .str (wd (eN c) j 1) (te j)))]) →
      NsObj oL' m' → m' (S "row") = some (.ref D) → m' (S "most") = some (.int (mostN T i : Nat) tm) → (∀ x, x ≠ S "row" → x ≠ S "most" → m' x = m x) →
      wpAny (MM w) A (execs (bTurn.drop 2) (eW w L)) Q E (St s h' tk')) :
    wpAny (MM w) A (execs bTurn (eW w L)) Q E (St s h tk) := by
  let R48 : List (Addr × Obj) := lawAll L oL vs v6 (some (.int (wayOf T) tv)) l c tc tn tp tw ca na pa ds dp wa ods odp t1 t2 od opl oq ++ [(lo, lst ((ordL c T).map fun i => .str (nmL i) (tn i))), (li, listObj #[.ref na, .ref na, .ref lo] 0), (oo, lst ((ordL c T).map fun i => .str (nmL i) (tn i))), (oi, listObj #[.ref na, .ref na, .ref oo] 0), (su, osu), (I, oI)]
  replace N : Now hb [141, 179] h R48 := N
  have hlo : ∀ a ∈ [141, 179], Lo a := fun a ha => by
    rcases List.mem_cons.mp ha with rfl | ha
    · exact lo_table1
    · rcases List.mem_singleton.mp ha with rfl; exact lo_table2
  have XN : ∀ {h' : Heap} {obs : List (Addr × Obj)}, Now hb [141, 179] h' obs → (KK w.params).In h' := fun N' => kk_keep X N' hlo
  conv => arg 3; arg 1; whnf
  with_reducible refine x_assign ?_ (by kernel_rfl)
  with_reducible refine Subscript_ ?_
  with_reducible refine r_tuple (s := s) ?_
  with_reducible refine args_cons ?_ (by kernel_rfl)
  with_reducible refine r_int (s := s) fun u1 tk1 => ?_
  with_reducible refine args_cons ?_ (by kernel_rfl)
  with_reducible refine wpAny_BinOp ?_
  with_reducible refine r_int (s := s) fun u2 tk2 => ?_
  with_reducible refine wpAny_BinOp ?_
  refine r_name (env := eW w L) (s := s) (v := .int T tT) (N.get 0 rfl) nL m2 (by kernel_rfl) (by kernel_rfl) ?_ (by kernel_rfl)
  with_reducible refine r_int (s := s) fun u3 tk3 => ?_
  refine r_mod (s := s) (by decide) fun u4 tk4 => ?_
  refine r_add (s := s) fun u5 tk5 => ?_
  with_reducible refine args_cons ?_ (by kernel_rfl)
  with_reducible refine r_int (s := s) fun u6 tk6 => ?_
  refine args_nil ⟨by simp [sizeLine_eq], ?_⟩
  have N₁ := N.allocE (tupO #[.int 1 u1, .int (2 + T.fmod 2) u5, .int 5 u6]) rfl
  refine r_name (env := eW w L) (s := s) (v := .int (i : Nat) ti) (N₁.get 0 rfl) nL m1 (by kernel_rfl) (by kernel_rfl) ?_ (by kernel_rfl)
  obtain ⟨tm, hx⟩ : ∃ tm, (#[Value.int 1 u1, .int (2 + T.fmod 2) u5, .int 5 u6] : Array Value)[i]? = some (.int (mostN T i : Nat) tm) := by
    have hbd := fmod_bounds T (n := 2) (by decide)
    rcases lt3 hi with rfl | rfl | rfl
    · exact ⟨u1, rfl⟩
    · refine ⟨u5, ?_⟩
      have : ((mostN T 1 : Nat) : Int) = 2 + T.fmod 2 := by
        show (((2 + T.fmod 2).toNat : Nat) : Int) = _
        lia
      rw [this]; rfl
    · exact ⟨u6, rfl⟩
  refine r_itemT2 (s := s) (items := #[Value.int 1 u1, .int (2 + T.fmod 2) u5, .int 5 u6]) ⟨_, Heap.get?_push_size _ rfl, rfl, _, rfl⟩ (by lia) hx ?_ (by kernel_rfl)
  have N₂ := N₁.drop
  refine r_store (env := eW w L) (s := s) N₂ 0 rfl nL (by kernel_rfl) (by kernel_rfl) fun h₃ o₃ tk₃ N₃ n₃ => ?_
  let R49 : List (Addr × Obj) := lawAll L o₃ vs v6 (some (.int (wayOf T) tv)) l c tc tn tp tw ca na pa ds dp wa ods odp t1 t2 od opl oq ++ [(lo, lst ((ordL c T).map fun i => .str (nmL i) (tn i))), (li, listObj #[.ref na, .ref na, .ref lo] 0), (oo, lst ((ordL c T).map fun i => .str (nmL i) (tn i))), (oi, listObj #[.ref na, .ref na, .ref oo] 0), (su, osu), (I, oI)]
  replace N₃ : Now hb [141, 179] h₃ R49 := N₃
  with_reducible refine wpAny_execs_cons ?_
  refine r_lcA (cl := [(S "words", L + 4), (S "names", L + 2)]) (by kernel_rfl) (by kernel_rfl) (by kernel_rfl) (by kernel_rfl) (by intro _; kernel_rfl) ?_
  with_reducible refine Subscript_ ?_
  refine r_name (env := eW w L) (s := s) (v := .ref li) (N₃.get 0 rfl) n₃ ((up_ne (by kernel_rfl)).trans m3) (by kernel_rfl) (by kernel_rfl) ?_ (by kernel_rfl)
  refine r_name (env := eW w L) (s := s) (v := .int (i : Nat) ti) (N₃.get 0 rfl) n₃ ((up_ne (by kernel_rfl)).trans m1) (by kernel_rfl) (by kernel_rfl) ?_ (by kernel_rfl)
  refine r_itemL (s := s) (items := #[.ref na, .ref na, .ref lo]) (x := .ref (lineA na lo i)) ⟨_, N₃.get 29 rfl, rfl, _, rfl⟩ (by lia) (by rcases lt3 hi with rfl | rfl | rfl <;> rfl) ?_ (by kernel_rfl) (by intro _; kernel_rfl)
  have hlist : ∀ {h' : Heap}, (∀ p ∈ lawAll L o₃ vs v6 (some (.int (wayOf T) tv)) l c tc tn tp tw ca na pa ds dp wa ods odp t1 t2 od opl oq ++ [(lo, lst ((ordL c T).map fun i => .str (nmL i) (tn i))), (li, listObj #[.ref na, .ref na, .ref lo] 0), (oo, lst ((ordL c T).map fun i => .str (nmL i) (tn i))), (oi, listObj #[.ref na, .ref na, .ref oo] 0), (su, osu), (I, oI)], h'.get? p.1 = some p.2) →
      h'.IsList (lineA na lo i) ((lineO c T i).map fun j => Value.str (nmL j) (tn j)).toArray := fun ho =>
    line_list ⟨_, ho (na, _) (List.mem_of_getElem? (i := 11) rfl), rfl, _, rfl⟩ ⟨_, ho (lo, _) (List.mem_of_getElem? (i := 28) rfl), rfl, _, rfl⟩
  refine r_iterL N₃ (hlist N₃.at_) fun h₄ J oJ N₄ hJ hl₄ hJc hne => ?_
  let J11 : Nat → List (Addr × Obj) → List Value → Prop := fun k obs' items => obs' = lawAll L o₃ vs v6 (some (.int (wayOf T) tv)) l c tc tn tp tw ca na pa ds dp wa ods odp t1 t2 od opl oq ++ [(lo, lst ((ordL c T).map fun i => .str (nmL i) (tn i))), (li, listObj #[.ref na, .ref na, .ref lo] 0), (oo, lst ((ordL c T).map fun i => .str (nmL i) (tn i))), (oi, listObj #[.ref na, .ref na, .ref oo] 0), (su, osu), (I, oI)] ∧ items = ((lineO c T i).take k).map fun j => .str (wd (eN c) j 1) (tw j)
  refine lcAll J11
    (Walks.list hh J (lineA na lo i) hne _) (fun i h ⟨⟨o, e, _⟩, _⟩ => ⟨o, e⟩) hJc (by kernel_rfl) (by kernel_rfl) (by intro C; kernel_rfl) (by simp [(lineO_ok c T i).h4])
    (stays_list fun k obs' h' ⟨_, e, _⟩ ho _ => by subst e; exact hlist ho) N₄ ⟨hJ, hl₄⟩ ⟨rfl, rfl⟩ ?_ ?_
  · rintro k v h' tk' C oD oC mC oI' _ items E' hk hP ⟨rfl, rfl⟩ nC hC N'
    obtain ⟨j, hj, rfl⟩ : ∃ j, (lineO c T i)[k]? = some j ∧ v = .str (nmL j) (tn j) := by
      rw [List.getElem?_toArray, List.getElem?_map] at hP
      cases e : (lineO c T i)[k]? with
      | none => rw [e] at hP; cases hP
      | some j => rw [e] at hP; cases hP; exact ⟨j, rfl, rfl⟩
    have hj4 := (lineO_ok c T i).hl j (List.mem_of_getElem? hj)
    refine wpAny_tests_nil ?_
    simp only [if_true]
    with_reducible refine Subscript_ ?_
    refine r_cell (s := s) (c := L + 4) (v := .ref wa) (by kernel_rfl) (by kernel_rfl) (by kernel_rfl) (N'.get 4 rfl) ?_ (by kernel_rfl)
    refine MethodCall_ ?_
    refine r_cell (s := s) (c := L + 2) (v := .ref na) (by kernel_rfl) (by kernel_rfl) (by kernel_rfl) (N'.get 2 rfl) ?_ (by kernel_rfl)
    refine gm_index (N'.get 11 rfl) ?_
    refine callWith_method1 ?_ (by kernel_rfl) (by kernel_rfl)
    refine args_cons ?_ (by kernel_rfl)
    refine r_name (s := s) (v := .str (nmL j) (tn j)) (N'.get 35 rfl) nC hC (by kernel_rfl) (by kernel_rfl) ?_ (by kernel_rfl)
    refine args_nil ?_
    refine r_index (s := s) (N'.get 11 rfl) hj4 fun u8 tk8 => ?_
    refine r_itemL (s := s) (items := ((List.range 4).map fun k => Value.str (wd (eN c) k 1) (tw k)).toArray) ⟨_, N'.get 15 rfl, rfl, _, rfl⟩ (by lia) (get_funA hj4) ?_ (by kernel_rfl) (by intro _; kernel_rfl)
    refine ⟨_, _, _, rfl, ⟨rfl, ?_⟩, N'⟩
    rw [List.take_add_one, hj, List.map_append]; rfl
  · rintro h' tk' C D oC mC _ items ⟨rfl, rfl⟩ nC hC N'
    have el : (lineO c T i).take (List.toArray ((lineO c T i).map fun j => Value.str (nmL j) (tn j))).size = lineO c T i := by
      rw [List.size_toArray, List.length_map, List.take_length]
    rw [el] at N'
    refine compEndA (env := eW w L) (j := 0) N' hC nC rfl n₃ (by kernel_rfl) (by kernel_rfl) fun h₅ o₅ tk₅ N₅ n₅ => ?_
    refine hq h₅ tk₅ o₅ _ D tw tm N₅ n₅ (up_self _ _ _) ((up_ne (by kernel_rfl)).trans (up_self _ _ _)) fun x h1 h2 => ?_
    rw [up_ne (by simpa using h1), up_ne (by simpa using h2)]
end
end
section
open PySem PySem.W PySem.W.X PyProof.Rows PySem.Calls PySem.Spec PyProof
open LCg (NsObj lst)
set_option maxHeartbeats 1000000
set_option genInjectivity false
set_option genSizeOfSpec false
/-- an object that a turn leaves as it is -/
noncomputable def Old (g : Heap) (mu : List Addr) (a : Addr) (o : Obj) : Prop := g.get? a = some o ∧ a ∉ mu
theorem Old.at {g h : Heap} {mu : List Addr} {a : Addr} {o : Obj} {obs : List (Addr × Obj)} (x : Old g mu a o) (N : Now g mu h obs) : h.get? a = some o := N.keep _ _ x.1 x.2
theorem Old.ne {g h : Heap} {mu : List Addr} {a b : Addr} {o o' : Obj} {obs : List (Addr × Obj)} (x : Old g mu a o) (N : Now g mu h obs) (hb : (b, o') ∈ obs) : a ≠ b := fun e => by
  subst e
  rcases N.ok _ hb with z | z
  · exact x.2 z
  · have := x.1; rw [z] at this; cases this
/-- what stands behind a run, in one turn -/
structure Mid where
  (L su na oi ol ds dp td tt ed ec x0 x1 x2 : Addr)
  (oL ods odp ot oc : Obj)
  m : Str → Option Value
  v6 : Option Value
  sums : List Value
  ns : Nat
  sz : Nat → Nat
  pr : Nat → Int
  o : List Nat
  mo : Nat
  i : Nat
  (sv pv rve : List (Str × Int × Tok))
  tl : List TRec
  tn : Nat → Tok
  (tm ti t0 t1 t2 t3 : Tok)
noncomputable abbrev Mid.mu (f : Mid) : List Addr := [f.L, f.L + 6, f.su]
noncomputable abbrev Mid.bb (f : Mid) (p : Nat) : List (Str × Int) := named (fun i => nmL (plc f.o i)) (BB f.sz f.o f.mo p)
structure Mid.In (w : World) (g : Heap) (f : Mid) : Prop where
  X : (KK w.params).In g
  hlo : ∀ a ∈ f.mu, Lo a
  nd : f.mu.Nodup
  eL : g.get? f.L = some f.oL
  nL : NsObj f.oL f.m
  e6 : g.get? (f.L + 6) = some (cellO f.v6)
  es : g.get? f.su = some (listObj f.sums.toArray f.ns)
  s3 : f.sums.length ≤ 3
  c2 : Old g f.mu (f.L + 2) (cellO (some (.ref f.na)))
  c3 : Old g f.mu (f.L + 3) (cellO (some (.ref f.ds)))
  ena : Old g f.mu f.na (listObj ((List.range 4).map fun k => Value.str (nmL k) (f.tn k)).toArray 0)
  eoi : Old g f.mu f.oi (listObj #[.ref f.x0, .ref f.x1, .ref f.x2] 0)
  i3 : f.i < 3
  xi : (#[Value.ref f.x0, .ref f.x1, .ref f.x2] : Array Value)[f.i]? = some (.ref f.ol)
  eol : ∃ n, Old g f.mu f.ol (listObj (f.o.map fun j => Value.str (nmL j) (f.tn j)).toArray n)
  eds : Old g f.mu f.ds f.ods
  edp : Old g f.mu f.dp f.odp
  hds : 183 ≤ f.ds
  hdp : 183 ≤ f.dp
  ids : f.ods.IsDictOf (SK w) (intPairs f.sv)
  idp : f.odp.IsDictOf (SK w) (intPairs f.pv)
  hsz : ∀ i, i < 4 → ∃ t, valueAt (intPairs f.sv) (nmL i) = some (.int (f.sz i : Nat) t)
  hpr : ∀ i, i < 4 → ∃ t, valueAt (intPairs f.pv) (nmL i) = some (.int (f.pr i) t)
  ssum : (f.sv.map (·.2.1)).sum = ((List.range 4).map fun k => ((f.sz k : Nat) : Int)).sum
  s5 : ∀ i, i < 4 → 1 ≤ f.sz i ∧ f.sz i ≤ 5
  ok : OOk f.o
  mok : MOk f.mo
  etd : Old g f.mu f.td f.ot
  htd : (f.td == sysModules) = false
  itd : f.ot.IsDictOf (SK w) (toldKv f.tl)
  tl4 : f.tl.length = 4
  told : ∀ t ∈ f.tl, ∃ p, p < 4 ∧ t.i = plc f.o p ∧ Old g f.mu t.tup (tupO #[.str (wordD (97 + t.i) (f.sz t.i + 1)) t.tw, .ref t.bd]) ∧ Old g f.mu t.bd t.ob ∧ 183 ≤ t.bd ∧ t.ob.IsDictOf (SK w) (intPairs t.rv) ∧ bk t.rv = f.bb p
  ett : Old g f.mu f.tt (tupO #[.ref f.td, .ref f.ed])
  eed : Old g f.mu f.ed (entO 4 ((List.range 4).map fun k => ((f.sz k : Nat) : Int)).sum ((List.range 4).map fun k => hourOf (BB f.sz f.o f.mo k)).sum ((List.range 4).map fun k => f.pr (plc f.o k) * hourOf (BB f.sz f.o f.mo k)).sum f.t0 f.t1 f.t2 f.t3 f.ec)
  eec : Old g f.mu f.ec f.oc
  hec : 183 ≤ f.ec
  iec : f.oc.IsDictOf (SK w) (intPairs f.rve)
  bec : SameD (bk f.rve) (foldB ((List.range 4).map f.bb))
  q1 : f.m (S "turn") = some (.int (f.i : Nat) f.ti)
  q2 : f.m (S "orders") = some (.ref f.oi)
  q3 : f.m (S "most") = some (.int (f.mo : Nat) f.tm)
  q4 : f.m (S "prices") = some (.ref f.dp)
  q5 : f.m (S "sums") = some (.ref f.su)
theorem OOk.pos {o : List Nat} (h : OOk o) : ∃ q : Nat → Nat, ∀ k, k < 4 → q k < 4 ∧ Mine.plc o (q k) = k := by
  have : ∀ k, ∃ p, k < 4 → p < 4 ∧ Mine.plc o p = k := fun k => by
    by_cases hk : k < 4
    · have hm : k ∈ [0, 1, 2, 3].map (Mine.plc o) := by
        rw [plc_list h.h4]
        refine h.p.symm.subset ?_
        rcases lt4 hk with rfl | rfl | rfl | rfl <;> simp
      obtain ⟨p, hp, e⟩ := List.mem_map.mp hm
      exact ⟨p, fun _ => ⟨by simp at hp; lia, e⟩⟩
    · exact ⟨0, fun z => absurd z hk⟩
  exact ⟨fun k => (this k).choose, fun k hk => (this k).choose_spec hk⟩
theorem OOk.plc4 {o : List Nat} (h : OOk o) {p : Nat} (hp : p < 4) : Mine.plc o p < 4 := by
  have hm : Mine.plc o p ∈ [0, 1, 2, 3].map (Mine.plc o) := List.mem_map_of_mem (by rcases lt4 hp with rfl | rfl | rfl | rfl <;> simp)
  rw [plc_list h.h4] at hm
  exact h.hl _ hm
theorem OOk.inj {o : List Nat} (h : OOk o) {i j : Nat} (e : nmL (Mine.plc o i) = nmL (Mine.plc o j)) : i = j := plc_inj h.h4 h.hl h.hn _ _ (nmL_inj e)
theorem OOk.map {o : List Nat} (h : OOk o) {α : Type} (f : Nat → α) : o.map f = (List.range 4).map fun k => f (Mine.plc o k) := by
  conv => lhs; rw [← plc_list h.h4]
  rw [List.map_map]; rfl
theorem nodup_on {α β : Type} {f : α → β} : ∀ {l : List α}, (∀ x ∈ l, ∀ y ∈ l, f x = f y → x = y) → l.Nodup → (l.map f).Nodup
  | [], _, _ => List.nodup_nil
  | a :: l, h, n => by
    rw [List.nodup_cons] at n
    rw [List.map_cons, List.nodup_cons]
    refine ⟨fun hm => ?_, nodup_on (fun x hx y hy => h x (.tail _ hx) y (.tail _ hy)) n.2⟩
    obtain ⟨b, hb, e⟩ := List.mem_map.mp hm
    exact n.1 (h b (.tail _ hb) a (.head _) e ▸ hb)
theorem bb_nodup {f : Mid} (h : OOk f.o) (p : Nat) : ((f.bb p).map (·.1)).Nodup := by
  unfold Mid.bb named BB bookP
  rw [List.map_map, List.map_map]
  refine nodup_on (fun x _ y _ e => h.inj e) (List.Pairwise.filter _ List.nodup_range)
theorem value_at {nm : Nat → Str} {v : Nat → Value} (hn : ∀ i j, i < 4 → j < 4 → nm i = nm j → i = j) {i : Nat} (hi : i < 4) : valueAt ((List.range 4).map fun j => (nm j, v j)) (nm i) = some (v i) := by
  refine valueAt_of_get (i := i) ?_ (get_fun hi)
  rw [List.map_map]
  exact nodup_on (fun x hx y hy e => hn x y (List.mem_range.mp hx) (List.mem_range.mp hy) e) List.nodup_range
theorem callers_eq {rvs : Nat → List (Str × Int × Tok)} {F : Nat → List (Str × Int)} (h : ∀ k, k < 4 → bk (rvs k) = F k) : callersOf rvs 4 = foldB ((List.range 4).map F) := by
  unfold callersOf foldB
  rw [List.foldl_map]
  show addBk (addBk (addBk (addBk [] (bk (rvs 0))) (bk (rvs 1))) (bk (rvs 2))) (bk (rvs 3)) = addBk (addBk (addBk (addBk [] (F 0)) (F 1)) (F 2)) (F 3)
  rw [h 0 (by decide), h 1 (by decide), h 2 (by decide), h 3 (by decide)]
theorem hours_eq {rvs : Nat → List (Str × Int × Tok)} {nm : Nat → Str} {b : List (Nat × Int)} {k : Nat} (h : bk (rvs k) = named nm b) : hoursOf rvs k = hourOf b := by
  unfold hoursOf hourOf
  have e1 : (rvs k).map (·.2.1) = (bk (rvs k)).map (·.2) := by unfold bk; rw [List.map_map]; rfl
  rw [e1, h]
  unfold named
  rw [List.map_map]; rfl
theorem hour_small : ∀ {b : List (Nat × Int)}, (∀ p ∈ b, 0 ≤ p.2 ∧ p.2 ≤ 5) → 0 ≤ hourOf b ∧ hourOf b ≤ 5 * b.length
  | [], _ => by simp [hourOf]
  | p :: b, h => by
    have ih := hour_small fun x hx => h x (.tail _ hx)
    have h1 := h p (.head _)
    have e : hourOf (p :: b) = p.2 + hourOf b := by simp [hourOf]
    rw [e, List.length_cons]; lia
theorem bb_small {s : Nat → Nat} {o : List Nat} {m p : Nat} (h : OOk o) (hs : ∀ i, i < 4 → 1 ≤ s i ∧ s i ≤ 5) : (0 ≤ hourOf (BB s o m p) ∧ hourOf (BB s o m p) ≤ 20) ∧ (BB s o m p).length ≤ 4 := by
  have hl : (BB s o m p).length ≤ 4 := by
    unfold BB bookP
    rw [List.length_map]
    have := List.length_filter_le (fun j => decide (0 < hadP (fun k => ((s (plc o k) : Nat) : Int)) (m : Nat) p j)) (List.range 4)
    simpa using this
  have := hour_small (b := BB s o m p) fun x hx => by
    unfold BB bookP at hx
    obtain ⟨j, hj, rfl⟩ := List.mem_map.mp hx
    obtain ⟨hj1, hj2⟩ := List.mem_filter.mp hj
    have hj4 := List.mem_range.mp hj1
    have := hs _ (h.plc4 hj4)
    have h0 : 0 < hadP (fun k => ((s (plc o k) : Nat) : Int)) (m : Nat) p j := by simpa using hj2
    refine ⟨by show 0 ≤ hadP _ _ _ _; lia, ?_⟩
    show hadP _ _ _ _ ≤ 5
    unfold hadP
    dsimp only
    split <;> lia
  exact ⟨⟨this.1, by lia⟩, hl⟩
end
section
open PySem PySem.W PySem.W.X PyProof.Rows PySem.Calls PySem.Spec PyProof
open LCg (NsObj lst)
set_option maxHeartbeats 1000000
theorem four_split {bl : List (Addr × Obj)} (h : bl.length = 4) : ∃ (ba : Nat → Addr) (bo : Nat → Obj), bl = (List.range 4).map fun k => (ba k, bo k) := by
  refine ⟨fun k => (bl[k]?.map (·.1)).getD 0, fun k => (bl[k]?.map (·.2)).getD { cls := .none }, ?_⟩
  refine List.ext_getElem? fun i => ?_
  by_cases hi : i < 4
  · have hl : i < bl.length := by lia
    have e := List.getElem?_eq_getElem hl
    rw [get_fun hi]
    dsimp only
    rw [e]; rfl
  · rw [List.getElem?_eq_none (by lia), List.getElem?_eq_none (by simp; lia)]
section
variable {w : World} {A : Around} {s : Shared} {E : Value → Shared → Prop} {Q : Flow → Shared → Prop} {g : Heap} {tk : Nat}
/-- the books of the law, made and stored -/
theorem turnB (hh : A.handled = none) (hroom : A.depth + 1 < recursionLimit) {f : Mid} (I : f.In w g) {h : Heap} {oL : Obj} {m : Str → Option Value}
    (N : Now g f.mu h [(f.L, oL), (f.L + 6, cellO f.v6), (f.su, listObj f.sums.toArray f.ns)]) (nL : NsObj oL m) (m1 : m (S "orders") = some (.ref f.oi)) (m2 : m (S "turn") = some (.int (f.i : Nat) f.ti)) (m3 : m (S "most") = some (.int (f.mo : Nat) f.tm))
    (hq : ∀ h' tk' D oD (ba : Nat → Addr) (bo : Nat → Obj) (rvs : Nat → List (Str × Int × Tok)), Now g f.mu h' ([(f.L, oL), (f.L + 6, cellO (some (.ref D))), (f.su, listObj f.sums.toArray f.ns), (D, oD)] ++ (List.range 4).map fun k => (ba k, bo k)) →
      183 ≤ D → oD.IsDictOf (SK w) ((List.range 4).map fun k => (nmL (plc f.o k), Value.ref (ba k))) → (∀ k, k < 4 → 183 ≤ ba k ∧ (bo k).IsDictOf (SK w) (intPairs (rvs k)) ∧ bk (rvs k) = f.bb k) →
      wpAny (MM w) A (execs (bTurn.drop 4) (eW w f.L)) Q E (St s h' tk')) :
    wpAny (MM w) A (execs (bTurn.drop 3) (eW w f.L)) Q E (St s h tk) := by
  have XN : ∀ {h' : Heap} {obs : List (Addr × Obj)}, Now g f.mu h' obs → (KK w.params).In h' := fun N' => kk_keep I.X N' I.hlo
  conv => arg 3; arg 1; whnf
  with_reducible refine x_assign ?_ (by kernel_rfl)
  refine r_callD (s := s) (f := 172) (o := obAt (KK w.params) 172) (fd := fnAt (KK w.params) 172) (XN N) (by kernel_rfl) (by kernel_rfl) (by kernel_rfl) (by kernel_rfl) (by kernel_rfl) (by kernel_rfl) (by kernel_rfl) ?_ (by kernel_rfl)
  with_reducible refine args_cons ?_ (by kernel_rfl)
  with_reducible refine Subscript_ ?_
  refine r_name (env := eW w f.L) (s := s) (v := .ref f.oi) (N.get 0 rfl) nL m1 (by kernel_rfl) (by kernel_rfl) ?_ (by kernel_rfl)
  refine r_name (env := eW w f.L) (s := s) (v := .int (f.i : Nat) f.ti) (N.get 0 rfl) nL m2 (by kernel_rfl) (by kernel_rfl) ?_ (by kernel_rfl)
  refine r_itemL (s := s) (items := #[.ref f.x0, .ref f.x1, .ref f.x2]) (x := .ref f.ol) ⟨_, I.eoi.at N, rfl, _, rfl⟩ (by have := I.i3; lia) I.xi ?_ (by kernel_rfl) (by intro _; kernel_rfl)
  with_reducible refine args_cons ?_ (by kernel_rfl)
  refine r_cell (env := eW w f.L) (s := s) (c := f.L + 3) (v := .ref f.ds) (by kernel_rfl) (by kernel_rfl) (by kernel_rfl) (I.c3.at N) ?_ (by kernel_rfl)
  with_reducible refine args_cons ?_ (by kernel_rfl)
  refine r_name (env := eW w f.L) (s := s) (v := .int (f.mo : Nat) f.tm) (N.get 0 rfl) nL m3 (by kernel_rfl) (by kernel_rfl) ?_ (by kernel_rfl)
  refine args_nil ⟨(XN N) _ _ (by kernel_rfl), ?_⟩
  obtain ⟨nl, eol⟩ := I.eol
  have hlist : h.IsList f.ol ((List.range 4).map fun i => Value.str (nmL (plc f.o i)) (f.tn (plc f.o i))).toArray := by
    have e := I.ok.map fun j => Value.str (nmL j) (f.tn j)
    rw [← e]
    exact ⟨_, eol.at N, rfl, _, rfl⟩
  have hm1 : 1 ≤ f.mo ∧ f.mo ≤ 5 := by rcases I.mok with e | e | e | e <;> lia
  refine law_books (s := s) (nm := fun k => nmL (plc f.o k)) (tn := fun k => f.tn (plc f.o k)) (sz := fun k => ((f.sz (plc f.o k) : Nat) : Int)) (m := (f.mo : Nat)) (sv := f.sv) (XN N) hroom hh hlist (dictOf_at (I.eds.at N) I.ids)
    (fun k hk => I.hsz _ (I.ok.plc4 hk)) (fun i j _ _ e => I.ok.inj e) (by lia) (by lia) fun h₁ tk₁ D oD bl D₁ hbl hD iD hB => ?_
  obtain ⟨ba, bo, ebl⟩ := four_split hbl
  subst ebl
  have hb : ∀ k, k < 4 → ∃ rv, 183 ≤ ba k ∧ (bo k).IsDictOf (SK w) (intPairs rv) ∧ bk rv = f.bb k := fun k hk => by
    refine Classical.byContradiction fun hng => ?_
    obtain ⟨h1, rv, h2, h3⟩ := hB k (ba k) (bo k) (get_fun hk)
    refine hng ?_
    exact ⟨rv, h1, h2, h3⟩
  let rvs : Nat → List (Str × Int × Tok) := fun k => if hk : k < 4 then (hb k hk).choose else []
  have hr : ∀ k, k < 4 → 183 ≤ ba k ∧ (bo k).IsDictOf (SK w) (intPairs (rvs k)) ∧ bk (rvs k) = f.bb k := fun k hk => by
    have := (hb k hk).choose_spec
    have e : rvs k = (hb k hk).choose := by simp only [rvs, hk, dif_pos]
    rw [e]; exact this
  have N₁ := N.pureE D₁
  refine r_storeC (env := eW w f.L) (s := s) (c := f.L + 6) N₁ 1 rfl (by kernel_rfl) (by kernel_rfl) (by kernel_rfl) fun h₂ N₂ => ?_
  replace N₂ : Now g f.mu h₂ ([(f.L, oL), (f.L + 6, cellO (some (.ref D))), (f.su, listObj f.sums.toArray f.ns), (D, oD)] ++ (List.range 4).map fun k => (ba k, bo k)) := N₂
  exact hq h₂ tk₁ D oD ba bo rvs N₂ hD iD hr
end
end
section
open PySem PySem.W PySem.W.X PyProof.Rows PySem.Calls PySem.Spec PyProof
open LCg (NsObj lst)
set_option maxHeartbeats 1000000
section
variable {w : World} {A : Around} {s : Shared} {E : Value → Shared → Prop} {Q : Flow → Shared → Prop} {g : Heap} {tk : Nat}
noncomputable abbrev Mid.obs (f : Mid) (oL : Obj) (D : Addr) (oD : Obj) (ba : Nat → Addr) (bo : Nat → Obj) : List (Addr × Obj) :=
  [(f.L, oL), (f.L + 6, cellO (some (.ref D))), (f.su, listObj f.sums.toArray f.ns), (D, oD)] ++ (List.range 4).map fun k => (ba k, bo k)
/-- what is told is what the books say -/
theorem turnD (hh : A.handled = none) (hu : A.units + 10 < cLine) {f : Mid} (I : f.In w g) {h : Heap} {oL oD : Obj} {m : Str → Option Value} {D : Addr} {ba : Nat → Addr} {bo : Nat → Obj} {rvs : Nat → List (Str × Int × Tok)}
    (N : Now g f.mu h (f.obs oL D oD ba bo)) (nL : NsObj oL m) (m1 : m (S "told") = some (.ref f.td)) (iD : oD.IsDictOf (SK w) ((List.range 4).map fun k => (nmL (plc f.o k), Value.ref (ba k)))) (hr : ∀ k, k < 4 → 183 ≤ ba k ∧ (bo k).IsDictOf (SK w) (intPairs (rvs k)) ∧ bk (rvs k) = f.bb k)
    (hq : ∀ h' tk', Now g f.mu h' (f.obs oL D oD ba bo) → wpAny (MM w) A (execs (bTurn.drop 5) (eW w f.L)) Q E (St s h' tk')) :
    wpAny (MM w) A (execs (bTurn.drop 4) (eW w f.L)) Q E (St s h tk) := by
  have XN : ∀ {h' : Heap} {obs : List (Addr × Obj)}, Now g f.mu h' obs → (KK w.params).In h' := fun N' => kk_keep I.X N' I.hlo
  obtain ⟨q, hqp⟩ := I.ok.pos
  conv => arg 3; arg 1; whnf
  with_reducible refine wpAny_execs_cons ?_
  with_reducible refine wpAny_If ?_
  refine wpAny_isTrue_Compare1 ?_ (by kernel_rfl)
  refine r_name (env := eW w f.L) (s := s) (v := .ref f.td) (N.get 0 rfl) nL m1 (by kernel_rfl) (by kernel_rfl) ?_ (by kernel_rfl)
  with_reducible refine r_dc (cl := [(S "sizes", f.L + 3), (S "books", f.L + 6)]) (by kernel_rfl) (by kernel_rfl) (by kernel_rfl) (by intro _; kernel_rfl) ?_
  refine r_cell (env := eW w f.L) (s := s) (c := f.L + 2) (v := .ref f.na) (by kernel_rfl) (by kernel_rfl) (by kernel_rfl) (I.c2.at N) ?_ (by kernel_rfl)
  refine r_iterL N (items := ((List.range 4).map fun k => Value.str (nmL k) (f.tn k)).toArray) ⟨_, I.ena.at N, rfl, _, rfl⟩ fun h₁ J oJ N₁ hJ hl₁ hJc hne => ?_
  let tup : Nat → Addr × Tok → Obj := fun k a => tupO #[.str (wordD (97 + k) (f.sz k + 1)) a.2, .ref (ba (q k))]
  let J14 : Nat → List (Addr × Obj) → List (Str × Value) → Prop := fun i obs' kvs => ∃ t : Nat → Addr × Tok, obs' = f.obs oL D oD ba bo ++ (List.range i).map (fun k => ((t k).1, tup k (t k))) ∧ kvs = (List.range i).map fun k => (nmL k, Value.ref (t k).1)
  refine dcAll J14
    (Walks.list hh J f.na hne _) (fun i h ⟨⟨o, e, _⟩, _⟩ => ⟨o, e⟩) hJc (by kernel_rfl) (by kernel_rfl) (by intro C; kernel_rfl) (by simp)
    (stays_list fun k obs' h' _ _ hk => ⟨_, hk _ _ I.ena.1 I.ena.2, rfl, _, rfl⟩) N₁ ⟨hJ, hl₁⟩ ⟨fun _ => (0, 0), by simp, rfl⟩ ?_ ?_
  · rintro i v h' tk' C D2 oC mC oI' oD2 _ _ E' hi hP ⟨t, rfl, rfl⟩ nC hC N'
    have hi4 : i < 4 := by simpa using hi
    rw [get_funA hi4] at hP
    cases hP
    have eC : h'.get? C = some oC := N'.at_ (C, oC) (by simp)
    have g1 : ∀ {j : Nat} {a : Addr} {o : Obj}, (f.obs oL D oD ba bo)[j]? = some (a, o) → h'.get? a = some o := fun {j a o} e => N'.at_ (a, o) (List.mem_append_left _ (List.mem_append_left _ (List.mem_of_getElem? e)))
    obtain ⟨ts, hts⟩ := I.hsz i hi4
    have s5 := I.s5 i hi4
    refine wpAny_tests_nil ?_
    simp only [if_true]
    refine r_name (s := s) (v := .str (nmL i) (f.tn i)) eC nC hC (by kernel_rfl) (by kernel_rfl) ?_ (by kernel_rfl)
    with_reducible refine r_tuple (s := s) ?_
    with_reducible refine args_cons ?_ (by kernel_rfl)
    with_reducible refine wpAny_BinOp ?_
    with_reducible refine wpAny_BinOp ?_
    with_reducible refine wpAny_BinOp ?_
    with_reducible refine r_str (s := s) fun u1 tk1 => ?_
    with_reducible refine wpAny_BinOp ?_
    with_reducible refine Subscript_ ?_
    refine r_cell (s := s) (c := f.L + 3) (v := .ref f.ds) (by kernel_rfl) (by kernel_rfl) (by kernel_rfl) (I.c3.at N') ?_ (by kernel_rfl)
    refine r_name (s := s) (v := .str (nmL i) (f.tn i)) eC nC hC (by kernel_rfl) (by kernel_rfl) ?_ (by kernel_rfl)
    refine r_itemD (s := s) (dictOf_at (I.eds.at N') I.ids) (is_key _ _) hts (fun tk2 => ?_) (by kernel_rfl) (by intro _; kernel_rfl)
    with_reducible refine r_int (s := s) fun u3 tk3 => ?_
    refine r_add (s := s) fun u4 tk4 => ?_
    refine SB.mul (mulOk_dots s5) fun u5 tk5 => ?_
    refine r_name (s := s) (v := .str (nmL i) (f.tn i)) eC nC hC (by kernel_rfl) (by kernel_rfl) ?_ (by kernel_rfl)
    have hdl := dots_len (f.sz i) (mem_five s5)
    have hnl : (nmL i).length = 1 := rfl
    refine PyProof.Rows.add_str (fun u6 tk6 => ?_) (by rw [sizeLine_eq]; show (Txt.mul (S ".") _).length + (nmL i).length ≤ _; lia)
    with_reducible refine r_str (s := s) fun u7 tk7 => ?_
    refine PyProof.Rows.add_str (fun u8 tk8 => ?_) (by
      have e1 : (Txt.mul (S ".") ((f.sz i : Nat) + 1 : Int) ++ nmL i).length = (Txt.mul (S ".") ((f.sz i : Nat) + 1 : Int)).length + (nmL i).length := by
        show (_ ++ _ : Array Nat).size = _
        rw [Array.size_append]; rfl
      have e2 : (S "\r\n").length = 2 := rfl
      rw [sizeLine_eq]
      show (Txt.mul (S ".") ((f.sz i : Nat) + 1 : Int) ++ nmL i).length + (S "\r\n").length ≤ _
      lia)
    have ew := dots_eq hi4 s5
    with_reducible refine args_cons ?_ (by kernel_rfl)
    with_reducible refine Subscript_ ?_
    refine r_cell (s := s) (c := f.L + 6) (v := .ref D) (by kernel_rfl) (by kernel_rfl) (by kernel_rfl) (g1 (j := 1) rfl) ?_ (by kernel_rfl)
    refine r_name (s := s) (v := .str (nmL i) (f.tn i)) eC nC hC (by kernel_rfl) (by kernel_rfl) ?_ (by kernel_rfl)
    have hval : valueAt ((List.range 4).map fun k => (nmL (plc f.o k), Value.ref (ba k))) (nmL i) = some (.ref (ba (q i))) := by
      have := value_at (nm := fun k => nmL (plc f.o k)) (v := fun k => .ref (ba k)) (fun i j _ _ e => I.ok.inj e) (hqp i hi4).1
      rw [(hqp i hi4).2] at this
      exact this
    refine r_itemD (s := s) (dictOf_at (g1 (j := 3) rfl) iD) (is_key _ _) hval (fun tk9 => ?_) (by kernel_rfl) (by intro _; kernel_rfl)
    refine args_nil ⟨by simp [sizeLine_eq], ?_⟩
    have N₃ := (N'.allocE (tup i (h'.objs.size, u8)) rfl).swap3
    obtain ⟨t', er⟩ := snoc_fun (f := fun k (a : Addr × Tok) => (((nmL k, Value.ref a.1) : Str × Value), ((a.1, tup k a) : Addr × Obj))) (t := t) (i := i) (u := (h'.objs.size, u8))
    have e1 := congrArg (List.map Prod.fst) er
    have e2 := congrArg (List.map Prod.snd) er
    rw [List.map_append, List.map_map, List.map_map] at e1 e2
    refine ⟨nmL i, _, _, _, rfl, is_key _ _, ⟨t', rfl, ?_⟩, ?_⟩
    · rw [stored_fun (nm := nmL) (g := fun k => Value.ref (t k).1) fun j hj e => Nat.ne_of_lt hj (nmL_inj e)]
      exact e1
    · have e3 : f.obs oL D oD ba bo ++ (List.range (i + 1)).map (fun k => ((t' k).1, tup k (t' k))) = (f.obs oL D oD ba bo ++ (List.range i).map fun k => ((t k).1, tup k (t k))) ++ [(h'.objs.size, tup i (h'.objs.size, u8))] := by
        have e5 := congrArg (fun x => f.obs oL D oD ba bo ++ x) e2.symm
        exact e5.trans (List.append_assoc _ _ _).symm
      rw [e3]
      have ew' : tup i (h'.objs.size, u8) = tupO #[.str (Txt.mul (S ".") ((f.sz i : Nat) + 1 : Int) ++ nmL i ++ S "\r\n") u8, .ref (ba (q i))] := by
        rw [ew]
      rw [ew'] at N₃ ⊢
      exact N₃
  · rintro h' tk' C D2 oC oD2 mC _ _ ⟨t, rfl, rfl⟩ nC iD2 hD2 hC N'
    have hD2' : 183 ≤ D2 := Nat.le_trans (kk_size (XN N₁)) hD2
    with_reducible refine compEnd N' hC nC fun h₂ N₂ => ?_
    have e4 : ((List.range 4).map fun k => Value.str (nmL k) (f.tn k)).toArray.size = 4 := rfl
    rw [e4] at N₂ iD2
    have mt : ∀ k, k < 4 → ((t k).1, tup k (t k)) ∈ (f.obs oL D oD ba bo ++ (List.range 4).map (fun k => ((t k).1, tup k (t k)))) ++ [(D2, oD2)] := fun k hk => by
      refine List.mem_append_left _ (List.mem_append_right _ ?_)
      exact List.mem_of_getElem? (get_fun hk)
    have mb : ∀ k, k < 4 → (ba k, bo k) ∈ (f.obs oL D oD ba bo ++ (List.range 4).map (fun k => ((t k).1, tup k (t k)))) ++ [(D2, oD2)] := fun k hk => by
      refine List.mem_append_left _ (List.mem_append_left _ (List.mem_append_right _ ?_))
      exact List.mem_of_getElem? (get_fun hk)
    refine r_neT (s := s) (tl := f.tl) (ta := fun k => (t k).1) I.htd hD2' (dictOf_at (I.etd.at N₂) I.itd) (dictOf_at (N₂.at_ (D2, oD2) (by simp)) iD2) (by lia) I.tl4 (fun x hx => ?_) ?_
    · refine Classical.byContradiction fun hng => ?_
      obtain ⟨p, hp, ei, etup, ebd, hbd, iob, hbk⟩ := I.told x hx
      refine hng ?_
      have hx4 : x.i < 4 := by rw [ei]; exact I.ok.plc4 hp
      have hqx := hqp x.i hx4
      have eqp : q x.i = p := plc_inj I.ok.h4 I.ok.hl I.ok.hn _ _ (hqx.2.trans ei)
      obtain ⟨hb1, hb2, hb3⟩ := hr (q x.i) hqx.1
      refine ⟨hx4, etup.ne N₂ (mt x.i hx4), ?_⟩
      refine rc_told (w := w) (ra := x.rv) (rb := rvs (q x.i)) (etup.at N₂) (N₂.at_ _ (mt x.i hx4)) (ebd.ne N₂ (mb _ hqx.1)) hbd hb1 (dictOf_at (ebd.at N₂) iob) (dictOf_at (N₂.at_ _ (mb _ hqx.1)) hb2) (by show A.units + 1 + 1 < _; lia) ?_
      rw [hbk, hb3, eqp]
      exact SameD.refl (bb_nodup I.ok p)
    · refine wpAny_truthy_bool ?_
      rw [if_neg (by decide)]
      refine wpAny_execs_nil ?_
      exact hq h₂ _ N₂.drop.drop
end
end
section
open PySem PySem.W PySem.W.X PyProof.Rows PySem.Calls PySem.Spec PyProof
open LCg (NsObj lst)
set_option maxHeartbeats 1000000
section
variable {w : World} {A : Around} {s : Shared} {E : Value → Shared → Prop} {Q : Flow → Shared → Prop} {g : Heap} {tk : Nat}
/-- the entry is what plain sums say; the hours are noted -/
theorem turnF (hh : A.handled = none) (hroom : A.depth + 1 < recursionLimit) (hu : A.units + 10 < cLine) {f : Mid} (I : f.In w g) {h : Heap} {oL oD : Obj} {m : Str → Option Value} {D : Addr} {ba : Nat → Addr} {bo : Nat → Obj} {rvs : Nat → List (Str × Int × Tok)}
    (N : Now g f.mu h (f.obs oL D oD ba bo)) (nL : NsObj oL m) (m1 : m (S "entry") = some (.ref f.ed)) (m2 : m (S "prices") = some (.ref f.dp)) (m3 : m (S "sums") = some (.ref f.su)) (hD : 183 ≤ D) (iD : oD.IsDictOf (SK w) ((List.range 4).map fun k => (nmL (plc f.o k), Value.ref (ba k)))) (hr : ∀ k, k < 4 → 183 ≤ ba k ∧ (bo k).IsDictOf (SK w) (intPairs (rvs k)) ∧ bk (rvs k) = f.bb k)
    (hq : ∀ h' tk' t ns, Now g f.mu h' [(f.L, oL), (f.L + 6, cellO (some (.ref D))), (f.su, listObj (f.sums ++ [Value.int ((List.range 4).map fun k => hourOf (BB f.sz f.o f.mo k)).sum t]).toArray ns)] → Q .next (St s h' tk')) :
    wpAny (MM w) A (execs (bTurn.drop 5) (eW w f.L)) Q E (St s h tk) := by
  have XN : ∀ {h' : Heap} {obs : List (Addr × Obj)}, Now g f.mu h' obs → (KK w.params).In h' := fun N' => kk_keep I.X N' I.hlo
  obtain ⟨epD, hDat⟩ := isDictOf_at iD
  obtain ⟨eps, hSat⟩ := isDictOf_at I.ids
  have hbe : ∀ k, ∃ ep, k < 4 → ∀ (h : Heap) a, h.get? a = some (bo k) → h.DictAt (SK w) a (intPairs (rvs k)) ep := fun k => by
    by_cases hk : k < 4
    · obtain ⟨ep, z⟩ := isDictOf_at (hr k hk).2.1
      exact ⟨ep, fun _ => z⟩
    · exact ⟨0, fun z => absurd z hk⟩
  have mb : ∀ k, k < 4 → (ba k, bo k) ∈ f.obs oL D oD ba bo := fun k hk => List.mem_append_right _ (List.mem_of_getElem? (get_fun hk))
  have hho : ∀ k, k < 4 → hoursOf rvs k = hourOf (BB f.sz f.o f.mo k) := fun k hk => hours_eq (nm := fun i => nmL (plc f.o i)) (hr k hk).2.2
  conv => arg 3; arg 1; whnf
  with_reducible refine wpAny_execs_cons ?_
  with_reducible refine wpAny_If ?_
  refine wpAny_isTrue_Compare1 ?_ (by kernel_rfl)
  refine r_name (env := eW w f.L) (s := s) (v := .ref f.ed) (N.get 0 rfl) nL m1 (by kernel_rfl) (by kernel_rfl) ?_ (by kernel_rfl)
  refine r_callD (s := s) (f := 177) (o := obAt (KK w.params) 177) (fd := fnAt (KK w.params) 177) (XN N) (by kernel_rfl) (by kernel_rfl) (by kernel_rfl) (by kernel_rfl) (by kernel_rfl) (by kernel_rfl) (by kernel_rfl) ?_ (by kernel_rfl)
  with_reducible refine args_cons ?_ (by kernel_rfl)
  refine r_cell (env := eW w f.L) (s := s) (c := f.L + 6) (v := .ref D) (by kernel_rfl) (by kernel_rfl) (by kernel_rfl) (N.get 1 rfl) ?_ (by kernel_rfl)
  with_reducible refine args_cons ?_ (by kernel_rfl)
  refine r_cell (env := eW w f.L) (s := s) (c := f.L + 3) (v := .ref f.ds) (by kernel_rfl) (by kernel_rfl) (by kernel_rfl) (I.c3.at N) ?_ (by kernel_rfl)
  with_reducible refine args_cons ?_ (by kernel_rfl)
  refine r_name (env := eW w f.L) (s := s) (v := .ref f.dp) (N.get 0 rfl) nL m2 (by kernel_rfl) (by kernel_rfl) ?_ (by kernel_rfl)
  refine args_nil ⟨(XN N) _ _ (by kernel_rfl), ?_⟩
  refine law_entry (s := s) (nm := fun k => nmL (plc f.o k)) (ba := ba) (be := fun k => (hbe k).choose) (rvs := rvs) (sv := f.sv) (pv := f.pv) (pr := fun k => f.pr (plc f.o k)) (XN N) hroom hh (hDat h D (N.get 3 rfl)) hD (fun k hk => ⟨(hbe k).choose_spec hk h _ (N.at_ _ (mb k hk)), (hr k hk).1⟩)
    (hSat h _ (I.eds.at N)) I.hds (dictOf_at (I.edp.at N) I.idp) (fun k hk => I.hpr _ (I.ok.plc4 hk)) (fun i j _ _ e => I.ok.inj e) (fun k hk => ?_) (fun k hk => ?_) fun h₁ tk₁ dn on rv ar r0 r1 r2 r3 D₁ ion hrv hdn har => ?_
  · have := (bb_small (o := f.o) (m := f.mo) (p := k) I.ok I.s5).1
    rw [hho k hk]; lia
  · have e : (rvs k).length = (bk (rvs k)).length := by unfold bk; rw [List.length_map]
    have := (bb_small (o := f.o) (m := f.mo) (p := k) I.ok I.s5).2
    rw [e, (hr k hk).2.2]
    unfold Mid.bb named
    rw [List.length_map]; lia
  have N₁ := N.pureE D₁
  have eH : (List.range 4).map (hoursOf rvs) = (List.range 4).map fun k => hourOf (BB f.sz f.o f.mo k) := List.map_congr_left fun k hk => hho k (List.mem_range.mp hk)
  have eD : ((List.range 4).map fun k => f.pr (plc f.o k) * hoursOf rvs k) = (List.range 4).map fun k => f.pr (plc f.o k) * hourOf (BB f.sz f.o f.mo k) := List.map_congr_left fun k hk => by rw [hho k (List.mem_range.mp hk)]
  have ear := N₁.get 8 rfl
  rw [I.ssum, eH, eD] at ear
  refine r_neE (s := s) (w := w) (ra := f.rve) (rb := rv) (I.eed.at N₁) ear (I.eec.ne N₁ (List.mem_of_getElem? (i := 9) rfl)) I.hec hdn (dictOf_at (I.eec.at N₁) I.iec) (dictOf_at (N₁.get 9 rfl) ion) (by lia) ?_ ?_
  · rw [hrv, callers_eq (F := f.bb) fun k hk => (hr k hk).2.2]
    exact I.bec
  refine wpAny_truthy_bool ?_
  rw [if_neg (by decide)]
  refine wpAny_execs_nil ?_
  with_reducible refine wpAny_execs_cons ?_
  refine wpAny_Expr ?_ (by kernel_rfl) (by kernel_rfl)
  refine MethodCall_ ?_
  refine r_name (env := eW w f.L) (s := s) (v := .ref f.su) (N₁.get 0 rfl) nL m3 (by kernel_rfl) (by kernel_rfl) ?_ (by kernel_rfl)
  refine getMethod_builtin (T := "list") ⟨_, N₁.get 2 rfl, rfl⟩ F.plainAttrs_list F.slot_list_append F.type_list_append (fun a e => by cases e; exact ⟨_, N₁.get 2 rfl, rfl⟩) ?_
  refine callWith_method1 ?_ (by kernel_rfl) (by kernel_rfl)
  with_reducible refine args_cons ?_ (by kernel_rfl)
  with_reducible refine Subscript_ ?_
  refine r_name (env := eW w f.L) (s := s) (v := .ref f.ed) (N₁.get 0 rfl) nL m1 (by kernel_rfl) (by kernel_rfl) ?_ (by kernel_rfl)
  with_reducible refine r_int (s := s) fun u1 tk2 => ?_
  refine r_itemT2 (s := s) (k := 2) ⟨_, I.eed.at N₁, rfl, _, rfl⟩ (by lia) rfl ?_ (by kernel_rfl)
  refine args_nil ?_
  refine append_at (N₁.get 2 rfl) (fun h₃ hs₃ e₃ => ?_) (by have := I.s3; rw [sizeLine_eq, List.size_toArray]; lia)
  have N₃ := N₁.same 2 rfl hs₃ e₃
  refine wpAny_execs_nil (hq h₃ _ f.t2 (f.ns + 1) ?_)
  have e5 : (f.sums ++ [Value.int ((List.range 4).map fun k => hourOf (BB f.sz f.o f.mo k)).sum f.t2]).toArray = f.sums.toArray.push (.int ((List.range 4).map fun k => hourOf (BB f.sz f.o f.mo k)).sum f.t2) := by simp
  rw [e5]
  exact N₃.sub (List.Sublist.cons_cons _ (List.Sublist.cons_cons _ (List.Sublist.cons_cons _ (List.nil_sublist _))))
end
end
section
open PySem PySem.W PySem.W.X PyProof.Rows PySem.Calls PySem.Spec PyProof
open LCg (NsObj lst)
set_option maxHeartbeats 1000000
section
variable {w : World} {hb h h' : Heap} {ch : List Addr} {obs : List (Addr × Obj)}
/-- three known places change -/
theorem Now.upd3 {a b c : Addr} {oa ob oc oa' ob' oc' : Obj} (N : Now hb ch h obs) (i j k : Nat) (hi : obs[i]? = some (a, oa)) (hj : obs[j]? = some (b, ob)) (hk : obs[k]? = some (c, oc)) (hij : i ≠ j) (hik : i ≠ k) (hjk : j ≠ k) (D : Now h [a, b, c] h' [(a, oa'), (b, ob'), (c, oc')]) :
    Now hb ch h' (((obs.set i (a, oa')).set j (b, ob')).set k (c, oc')) := by
  have one : ∀ (l : List (Addr × Obj)) (k : Nat) (x : Addr) (o o' : Obj), l[k]? = some (x, o) → (l.set k (x, o')).map (·.1) = l.map (·.1) := by
    intro l k x o o' e
    rw [List.map_set]
    refine List.ext_getElem? fun n => ?_
    rw [List.getElem?_set]
    split
    · rename_i q; subst q
      rw [List.getElem?_map, e, if_pos (by rw [List.length_map]; exact (List.getElem?_eq_some_iff.mp e).1)]; rfl
    · rfl
  have hj' : (obs.set i (a, oa'))[j]? = some (b, ob) := by rw [List.getElem?_set, if_neg hij]; exact hj
  have hk' : ((obs.set i (a, oa')).set j (b, ob'))[k]? = some (c, oc) := by rw [List.getElem?_set, if_neg hjk, List.getElem?_set, if_neg hik]; exact hk
  have hmap : (((obs.set i (a, oa')).set j (b, ob')).set k (c, oc')).map (·.1) = obs.map (·.1) := by
    rw [one _ k c oc oc' hk', one _ j b ob ob' hj', one _ i a oa oa' hi]
  refine N.step D ?_ ?_ (by rw [hmap]; exact N.nd)
  · intro x hx
    simp only [List.mem_cons, List.not_mem_nil, or_false] at hx
    rcases hx with rfl | rfl | rfl
    · exact List.mem_map.mpr ⟨_, List.mem_of_getElem? hi, rfl⟩
    · exact List.mem_map.mpr ⟨_, List.mem_of_getElem? hj, rfl⟩
    · exact List.mem_map.mpr ⟨_, List.mem_of_getElem? hk, rfl⟩
  · intro p hp
    obtain ⟨n, hn⟩ := List.mem_iff_getElem?.mp hp
    rw [List.getElem?_set] at hn
    split at hn
    · split at hn
      · cases hn; exact .inl (by simp)
      · cases hn
    rename_i hkn
    rw [List.getElem?_set] at hn
    split at hn
    · split at hn
      · cases hn; exact .inl (by simp)
      · cases hn
    rename_i hjn
    rw [List.getElem?_set] at hn
    split at hn
    · split at hn
      · cases hn; exact .inl (by simp)
      · cases hn
    rename_i hin
    refine .inr ⟨List.mem_of_getElem? hn, ?_⟩
    simp only [List.mem_cons, List.not_mem_nil, or_false, not_or]
    exact ⟨fun e => N.ne i n hi (b := p.1) (ob := p.2) hn (fun z => hin z) e.symm, fun e => N.ne j n hj (b := p.1) (ob := p.2) hn (fun z => hjn z) e.symm, fun e => N.ne k n hk (b := p.1) (ob := p.2) hn (fun z => hkn z) e.symm⟩
theorem Now.old3 {a b c x : Addr} {oa ob oc ox : Obj} (N : Now hb ch h obs) {i j k n : Nat} (hi : obs[i]? = some (a, oa)) (hj : obs[j]? = some (b, ob)) (hk : obs[k]? = some (c, oc)) (hn : obs[n]? = some (x, ox)) (h1 : n ≠ i) (h2 : n ≠ j) (h3 : n ≠ k) : Old h [a, b, c] x ox := by
  refine ⟨N.get n hn, ?_⟩
  simp only [List.mem_cons, List.not_mem_nil, or_false, not_or]
  exact ⟨N.ne n i hn hi h1, N.ne n j hn hj h2, N.ne n k hn hk h3⟩
theorem dict_frame {o : Obj} {m : Str → Option Value} {kvs : List (Str × Value)} (n : NsObj o m) (d : o.IsDictOf (SK w) kvs) {x : Str} {v : Value} (e : m x = some v) : valueAt kvs x = some v := by
  refine Classical.byContradiction fun hng => ?_
  obtain ⟨es, ep, h1, h2, h3⟩ := n
  refine hng ?_
  refine Classical.byContradiction fun hng => ?_
  obtain ⟨es', ep', _, h1', _, hp, _⟩ := d
  refine hng ?_
  rw [h1] at h1'
  cases h1'
  rw [← hp.find x, ← e, ← h3 x]
  unfold nsFind findBy
  rw [← Array.find?_toList]
  have : (fun en : DictEntry => (SK w).is x en.key) = fun en => en.key.isStr x := by
    funext en
    exact (SK w).strs x x 0 en.key (is_key x 0)
  rw [this]
theorem no_most {kvs : List (Str × Value)} (h : ∀ p ∈ kvs, p.1.length = 1) : valueAt kvs (S "most") = none := by
  unfold valueAt
  cases e : kvs.find? fun kv => kv.1 = S "most" with
  | none => rfl
  | some p =>
    exfalso
    have h1 := List.find?_some e
    have h2 := h p (List.mem_of_find?_eq_some e)
    have h3 : p.1 = S "most" := by simpa using h1
    rw [h3] at h2
    exact absurd h2 (by decide)
/-- a tuple, or a dict of short keys, is none of a turn's three places -/
theorem off3 {L su a : Addr} {oL o : Obj} {m : Str → Option Value} {v : Value} {v6 : Option Value} {xs : Array Value} {ns : Nat} (eL : h.get? L = some oL) (nL : NsObj oL m) (hm : m (S "most") = some v) (e6 : h.get? (L + 6) = some (cellO v6)) (es : h.get? su = some (listObj xs ns))
    (ea : h.get? a = some o) (ho : (∃ vs n, o.cls = .type "tuple" ∧ o.data = .seq vs n) ∨ ∃ kvs, o.IsDictOf (SK w) kvs ∧ ∀ p ∈ kvs, p.1.length = 1) : Old h [L, L + 6, su] a o := by
  refine ⟨ea, fun hx => ?_⟩
  simp only [List.mem_cons, List.not_mem_nil, or_false] at hx
  rcases ho with ⟨vs, n, hc, hd⟩ | ⟨kvs, hk, h1⟩
  · rcases hx with rfl | rfl | rfl
    · rw [eL] at ea; cases ea
      refine Classical.byContradiction fun hng => ?_
      obtain ⟨es', ep, hd', _⟩ := nL
      refine hng ?_
      rw [hd] at hd'; cases hd'
    · rw [e6] at ea; cases ea; cases hd
    · rw [es] at ea; cases ea
      have hc' : Value.type "list" = .type "tuple" := hc
      injection hc' with z; exact absurd z (by decide)
  · rcases hx with rfl | rfl | rfl
    · rw [eL] at ea; cases ea
      have := dict_frame (w := w) nL hk hm
      rw [no_most h1] at this; cases this
    · refine Classical.byContradiction fun hng => ?_
      obtain ⟨es', ep, _, hd, _⟩ := hk
      refine hng ?_
      rw [e6] at ea; cases ea; cases hd
    · refine Classical.byContradiction fun hng => ?_
      obtain ⟨es', ep, _, hd, _⟩ := hk
      refine hng ?_
      rw [es] at ea; cases ea; cases hd
theorem nmL_len (i : Nat) : (nmL i).length = 1 := rfl
theorem named_len {nm : Nat → Str} (hn : ∀ i, (nm i).length = 1) {b : List (Nat × Int)} {rv : List (Str × Int × Tok)} (e : bk rv = named nm b) : ∀ p ∈ intPairs rv, p.1.length = 1 := by
  intro p hp
  have h1 : p.1 ∈ (intPairs rv).map (·.1) := List.mem_map_of_mem hp
  rw [← keys_bk, e] at h1
  obtain ⟨q, hq, e1⟩ := List.mem_map.mp h1
  obtain ⟨r, _, e2⟩ := List.mem_map.mp hq
  rw [← e1, ← e2]; exact hn _
theorem same_len {rv : List (Str × Int × Tok)} {l : List (List (Str × Int))} (e : SameD (bk rv) (foldB l)) (hl : ∀ b ∈ l, ∀ p ∈ b, p.1.length = 1) : ∀ p ∈ intPairs rv, p.1.length = 1 := by
  intro p hp
  have h1 : p.1 ∈ (intPairs rv).map (·.1) := List.mem_map_of_mem hp
  rw [← keys_bk] at h1
  have h2 := (e.2.2.1 p.1).mp h1
  have h3 := ((foldB_from l [] (by simp)).2.2 p.1).mp h2
  rcases h3 with h3 | ⟨b, hb, h3⟩
  · simp at h3
  · obtain ⟨q, hq, e1⟩ := List.mem_map.mp h3
    rw [← e1]; exact hl b hb q hq
end
end
section
open PySem PySem.W PySem.W.X PyProof.Rows PySem.Calls PySem.Spec PyProof
open LCg (NsObj lst)
set_option maxHeartbeats 1000000
noncomputable abbrev lawTail (c : Nat → Int) (T : Int) (tn : Nat → Tok) (na lo li oo oi su : Addr) (osu : Obj) : List (Addr × Obj) :=
  [(lo, lst ((ordL c T).map fun i => .str (nmL i) (tn i))), (li, listObj #[.ref na, .ref na, .ref lo] 0), (oo, lst ((ordL c T).map fun i => .str (nmL i) (tn i))), (oi, listObj #[.ref na, .ref na, .ref oo] 0), (su, osu)]
theorem sne {a b : Str} (h : (a == b) = false) : a ≠ b := by simpa using h
noncomputable def dsz : Data → Nat
  | .dict es _ => es.size
  | _ => 0
theorem not_sys {w : World} {H : Heap} {a : Addr} {o : Obj} {kvs : List (Str × Value)} (X : (KK w.params).In H) (e : H.get? a = some o) (d : o.IsDictOf (SK w) kvs) (hl : kvs.length = 4) : (a == sysModules) = false := by
  rw [beq_eq_false_iff_ne]
  intro ea
  rw [ea] at e
  have e1 := X sysModules (obAt (KK w.params) sysModules) (by kernel_rfl)
  rw [e] at e1
  cases e1
  refine Classical.byContradiction fun hng => ?_
  obtain ⟨es, ep, _, hd, _, hp, _⟩ := d
  refine hng ?_
  have h1 : dsz (obAt (KK w.params) sysModules).data = 4 := by
    rw [hd]
    have := hp.length
    rw [hl] at this
    show es.size = 4
    rw [← Array.length_toList]; exact this
  have h2 : (dsz (obAt (KK w.params) sysModules).data == 4) = false := by kernel_rfl
  rw [h1] at h2
  exact absurd h2 (by decide)
theorem Now.lo {w : World} {hb h : Heap} {obs : List (Addr × Obj)} (X : (KK w.params).In hb) (N : Now hb [141, 179] h obs) {p : Addr × Obj} (hp : p ∈ obs) : Lo p.1 := by
  rcases N.ok p hp with z | z
  · rcases List.mem_cons.mp z with z | z
    · rw [z]; exact lo_table1
    · rw [List.mem_singleton.mp z]; exact lo_table2
  · exact lo_fresh X z
noncomputable def hourN (c : Nat → Int) (T : Int) (i : Nat) : Int := ((List.range 4).map fun k => hourOf (BB (szN c) (lineO c T i) (mostN T i) k)).sum
section
variable {w : World} {A : Around} {s : Shared} {E : Value → Shared → Prop} {Q : Flow → Shared → Prop} {hb h : Heap} {tk : Nat} {L : Addr} {oL : Obj} {m : Str → Option Value}
theorem law_turn (X : (KK w.params).In hb) (hh : A.handled = none) (hroom : A.depth + 4 < recursionLimit) (hu : A.units + 10 < cLine) {vs : Value} {v6 : Option Value} {c : Nat → Int} {tc tn tp tw ts tq : Nat → Tok} {ca na pa ds dp wa lo li oo oi su I : Addr} {ods odp t1 t2 od opl oI : Obj} {T : Int} {tv tT ti : Tok} {l : Lx} {i nq ns : Nat} {ln : Int} {sums : List Value} (hi : i < 3)
    (N : Now hb [141, 179] h (lawAll L oL vs v6 (some (.int (wayOf T) tv)) l c tc tn tp tw ca na pa ds dp wa ods odp t1 t2 od opl (listObj #[] nq) ++ lawTail c T tn na lo li oo oi su (listObj sums.toArray ns) ++ [(I, oI)])) (nL : NsObj oL m)
    (m1 : m (S "turn") = some (.int (i : Nat) ti)) (m2 : m (S "total") = some (.int T tT)) (m3 : m (S "lines") = some (.ref li)) (m4 : m (S "orders") = some (.ref oi)) (m5 : m (S "sums") = some (.ref su)) (m6 : m (S "prices") = some (.ref dp))
    (k : l.Ok) (lex : LexSt l od opl (listObj #[] nq) ln []) (ids : ods.IsDictOf (SK w) ((List.range 4).map fun k => (nmL k, Value.int (szN c k : Nat) (ts k)))) (idp : odp.IsDictOf (SK w) ((List.range 4).map fun k => (nmL k, Value.int (c k) (tq k)))) (hds : 183 ≤ ds) (hdp : 183 ≤ dp) (s3 : sums.length ≤ 3)
    (hq : ∀ h' tk' oL' m' v6' od' opl' nq' t ns', Now hb [141, 179] h' (lawAll L oL' vs v6' (some (.int (wayOf T) tv)) l c tc tn tp tw ca na pa ds dp wa ods odp t1 t2 od' opl' (listObj #[] nq') ++ lawTail c T tn na lo li oo oi su (listObj (sums ++ [Value.int (hourN c T i) t]).toArray ns') ++ [(I, oI)]) →
      NsObj oL' m' → LexSt l od' opl' (listObj #[] nq') ln [] → (∀ x, x ≠ S "row" → x ≠ S "most" → x ≠ S "told" → x ≠ S "entry" → m' x = m x) → Q .next (St s h' tk')) :
    wpAny (MM w) A (execs bTurn (eW w L)) Q E (St s h tk) := by
  have hlo : ∀ a ∈ [141, 179], Lo a := fun a ha => by
    rcases List.mem_cons.mp ha with rfl | ha
    · exact lo_table1
    · rcases List.mem_singleton.mp ha with rfl; exact lo_table2
  have XN : ∀ {h' : Heap} {obs : List (Addr × Obj)}, Now hb [141, 179] h' obs → (KK w.params).In h' := fun N' => kk_keep X N' hlo
  rw [List.append_assoc] at N
  replace N : Now hb [141, 179] h (lawAll L oL vs v6 (some (.int (wayOf T) tv)) l c tc tn tp tw ca na pa ds dp wa ods odp t1 t2 od opl (listObj #[] nq) ++ [(lo, lst ((ordL c T).map fun i => .str (nmL i) (tn i))), (li, listObj #[.ref na, .ref na, .ref lo] 0), (oo, lst ((ordL c T).map fun i => .str (nmL i) (tn i))), (oi, listObj #[.ref na, .ref na, .ref oo] 0), (su, listObj sums.toArray ns), (I, oI)]) := N
  with_reducible refine turnA (s := s) (w := w) (L := L) (T := T) (c := c) X hh hi N nL m1 m2 m3 fun h₁ tk₁ o₁ m' lr te tm N₁ n₁ q1 q2 q3 => ?_
  have m1' : m' (S "turn") = some (.int (i : Nat) ti) := (q3 _ (sne (by kernel_rfl)) (sne (by kernel_rfl))).trans m1
  have m4' : m' (S "orders") = some (.ref oi) := (q3 _ (sne (by kernel_rfl)) (sne (by kernel_rfl))).trans m4
  have m5' : m' (S "sums") = some (.ref su) := (q3 _ (sne (by kernel_rfl)) (sne (by kernel_rfl))).trans m5
  have m6' : m' (S "prices") = some (.ref dp) := (q3 _ (sne (by kernel_rfl)) (sne (by kernel_rfl))).trans m6
  conv => arg 3; arg 1; whnf
  with_reducible refine wpAny_execs_cons ?_
  with_reducible refine Assign_Tuple ?_ (by kernel_rfl) (by kernel_rfl)
  refine r_callD (s := s) (f := 165) (o := obAt (KK w.params) 165) (fd := fnAt (KK w.params) 165) (XN N₁) (by kernel_rfl) (by kernel_rfl) (by kernel_rfl) (by kernel_rfl) (by kernel_rfl) (by kernel_rfl) (by kernel_rfl) ?_ (by kernel_rfl)
  with_reducible refine args_cons ?_ (by kernel_rfl)
  refine r_cell (env := eW w L) (s := s) (c := L + 5) (v := .ref l.lx) (by kernel_rfl) (by kernel_rfl) (by kernel_rfl) (N₁.get 5 rfl) ?_ (by kernel_rfl)
  with_reducible refine args_cons ?_ (by kernel_rfl)
  refine r_name (env := eW w L) (s := s) (v := .ref lr) (N₁.get 0 rfl) n₁ q1 (by kernel_rfl) (by kernel_rfl) ?_ (by kernel_rfl)
  with_reducible refine args_cons ?_ (by kernel_rfl)
  refine r_cell (env := eW w L) (s := s) (c := L + 3) (v := .ref ds) (by kernel_rfl) (by kernel_rfl) (by kernel_rfl) (N₁.get 3 rfl) ?_ (by kernel_rfl)
  with_reducible refine args_cons ?_ (by kernel_rfl)
  refine r_name (env := eW w L) (s := s) (v := .ref dp) (N₁.get 0 rfl) n₁ m6' (by kernel_rfl) (by kernel_rfl) ?_ (by kernel_rfl)
  with_reducible refine args_cons ?_ (by kernel_rfl)
  refine r_name (env := eW w L) (s := s) (v := .int (mostN T i : Nat) tm) (N₁.get 0 rfl) n₁ q2 (by kernel_rfl) (by kernel_rfl) ?_ (by kernel_rfl)
  refine args_nil ⟨(XN N₁) _ _ (by kernel_rfl), ?_⟩
  obtain ⟨sv, esv⟩ : ∃ sv : List (Str × Int × Tok), sv = (List.range 4).map fun k => (nmL k, ((szN c k : Nat) : Int), ts k) := ⟨_, rfl⟩
  obtain ⟨pv, epv⟩ : ∃ pv : List (Str × Int × Tok), pv = (List.range 4).map fun k => (nmL k, c k, tq k) := ⟨_, rfl⟩
  have isv : intPairs sv = (List.range 4).map fun k => (nmL k, Value.int (szN c k : Nat) (ts k)) := by rw [esv]; unfold intPairs; rw [List.map_map]; rfl
  have ipv : intPairs pv = (List.range 4).map fun k => (nmL k, Value.int (c k) (tq k)) := by rw [epv]; unfold intPairs; rw [List.map_map]; rfl
  rw [← isv] at ids
  rw [← ipv] at idp
  have hsz : ∀ i, i < 4 → ∃ t, valueAt (intPairs sv) (nmL i) = some (.int (szN c i : Nat) t) := fun i hi => ⟨ts i, by rw [isv]; exact value_four (v := fun k => Value.int (szN c k : Nat) (ts k)) hi⟩
  have hpr : ∀ i, i < 4 → ∃ t, valueAt (intPairs pv) (nmL i) = some (.int (c i) t) := fun i hi => ⟨tq i, by rw [ipv]; exact value_four (v := fun k => Value.int (c k) (tq k)) hi⟩
  have mok := mostN_ok T i
  have ook := lineO_ok c T i
  have hm15 : 1 ≤ mostN T i ∧ mostN T i ≤ 5 := by rcases mok with e | e | e | e <;> lia
  have in1 := lawAll_in (r := _ ++ _) (by rw [List.append_assoc] at N₁; exact N₁)
  have RI : RunIn w h₁ l ln od opl (listObj #[] nq) lr ds dp ods odp sv pv (mostN T i) (szN c) (eN c) c (lineO c T i) te := {
    X := XN N₁, k := k, lin := in1, edl := N₁.get 27 rfl, epl := N₁.get 22 rfl, eq := N₁.get 25 rfl, lex := lex
    row := ⟨_, N₁.get 34 rfl, rfl, _, rfl⟩
    rowo := (N₁.old3 (i := 27) (j := 22) (k := 25) (n := 34) rfl rfl rfl rfl (by decide) (by decide) (by decide)).2
    eds := ⟨N₁.get 13 rfl, (N₁.old3 (i := 27) (j := 22) (k := 25) (n := 13) rfl rfl rfl rfl (by decide) (by decide) (by decide)).2, hds⟩
    edp := ⟨N₁.get 14 rfl, (N₁.old3 (i := 27) (j := 22) (k := 25) (n := 14) rfl rfl rfl rfl (by decide) (by decide) (by decide)).2, hdp⟩
    ids := ids, idp := idp, hsz := hsz, hpr := hpr, s5 := fun i _ => szN_bd c i, he := fun i _ => eN_or c i, m1 := hm15.1, m5 := hm15.2, o4 := ook.h4, oi := ook.hl, on := ook.hn }
  refine law_run hh hroom RI fun f H' h₂ tk₂ d kk tt f1 f2 f3 f4 f5 f6 hk hq0 R g₂ ett gk => ?_
  subst f1
  refine Classical.byContradiction fun hng => ?_
  obtain ⟨ps, hp, etold, eS, eH, eD, eC⟩ := turnE ook (fun i _ => szN_bd c i) mok hk hq0 c
  refine hng ?_
  have Rtold := R.told
  have Reed := R.eed
  have Rbec := R.bec
  have Rlex := R.lex
  rw [f3] at Rtold Reed
  rw [f5] at Reed
  rw [f2] at Rlex
  have tl4 : d.tl.length = 4 := by
    have := Rtold.length
    rw [etold, List.length_map, hp.length_eq] at this
    exact this.symm
  have e4 : (((runR (szN c) (mostN T i) kk (initR (lineO c T i))).told.length : Nat) : Int) = 4 := by
    rw [etold, List.length_map, hp.length_eq]; rfl
  rw [e4, eS, eH, eD] at Reed
  rw [← Rbec] at eC
  refine Classical.byContradiction fun hng => ?_
  obtain ⟨mL, p, t0, nq', io, lm, hol, hlen, hoq⟩ := Rlex.ex
  refine hng ?_
  have D₁ : Now h₁ [f.l.dl, f.l.pl, f.l.q] h₂ [(f.l.dl, d.od), (f.l.pl, d.opl), (f.l.q, d.oq)] := by
    have mem : ∀ p ∈ [(f.l.dl, d.od), (f.l.pl, d.opl), (f.l.q, d.oq)], h₂.get? p.1 = some p.2 := fun p hp => by
      simp only [List.mem_cons, List.not_mem_nil, or_false] at hp
      rcases hp with rfl | rfl | rfl
      · exact g₂ _ _ R.edl
      · exact g₂ _ _ R.epl
      · exact g₂ _ _ R.eq
    refine ⟨mem, k.nd, fun p hp => .inl ?_, gk, fun a ha => ?_⟩
    · have : p.1 ∈ [(f.l.dl, d.od), (f.l.pl, d.opl), (f.l.q, d.oq)].map (·.1) := List.mem_map_of_mem hp
      exact this
    · have : a ∈ [(f.l.dl, d.od), (f.l.pl, d.opl), (f.l.q, d.oq)].map (·.1) := ha
      obtain ⟨p, hp, rfl⟩ := List.mem_map.mp this
      exact ⟨_, mem p hp⟩
  rw [hoq] at D₁ Rlex
  have N₂ := N₁.upd3 27 22 25 rfl rfl rfl (by decide) (by decide) (by decide) D₁
  replace N₂ : Now hb [141, 179] h₂ ((lawAll L o₁ vs v6 (some (.int (wayOf T) tv)) f.l c tc tn tp tw ca na pa ds dp wa ods odp t1 t2 d.od d.opl (listObj #[] nq') ++ lawTail c T tn na lo li oo oi su (listObj sums.toArray ns) ++ [(I, oI)]) ++ [(lr, lst ((lineO c T i).map fun j => .str (wd (eN c) j 1) (te j)))]) := N₂
  replace N₂ := N₂.drop
  have eL2 := N₂.get 0 rfl
  have e62 := N₂.get 6 rfl
  have es2 := N₂.get 32 rfl
  have old : ∀ {n : Nat} {x : Addr} {ox : Obj}, (lawAll L o₁ vs v6 (some (.int (wayOf T) tv)) f.l c tc tn tp tw ca na pa ds dp wa ods odp t1 t2 d.od d.opl (listObj #[] nq') ++ lawTail c T tn na lo li oo oi su (listObj sums.toArray ns) ++ [(I, oI)])[n]? = some (x, ox) → n ≠ 0 → n ≠ 6 → n ≠ 32 → Old h₂ [L, L + 6, su] x ox :=
    fun e h1 h2 h3 => N₂.old3 (i := 0) (j := 6) (k := 32) rfl rfl rfl e h1 h2 h3
  have offT : ∀ {a : Addr} {vs : Array Value} {n : Nat}, H'.get? a = some { cls := .type "tuple", data := .seq vs n } → Old h₂ [L, L + 6, su] a { cls := .type "tuple", data := .seq vs n } := fun e => off3 (w := w) eL2 n₁ q2 e62 es2 (g₂ _ _ e) (.inl ⟨_, _, rfl, rfl⟩)
  have offD : ∀ {a : Addr} {o : Obj} {kvs : List (Str × Value)}, H'.get? a = some o → o.IsDictOf (SK w) kvs → (∀ p ∈ kvs, p.1.length = 1) → Old h₂ [L, L + 6, su] a o := fun e hk h1 => off3 (w := w) eL2 n₁ q2 e62 es2 (g₂ _ _ e) (.inr ⟨_, hk, h1⟩)
  have tw1 : ∀ t ∈ d.tl, ∃ p, p < 4 ∧ t.i = plc (lineO c T i) p ∧ Old h₂ [L, L + 6, su] t.tup (tupO #[.str (wordD (97 + t.i) (szN c t.i + 1)) t.tw, .ref t.bd]) ∧ Old h₂ [L, L + 6, su] t.bd t.ob ∧ 183 ≤ t.bd ∧ t.ob.IsDictOf (SK w) (intPairs t.rv) ∧ bk t.rv = named (fun i_1 => nmL (plc (lineO c T i) i_1)) (BB (szN c) (lineO c T i) (mostN T i) p) := by
    intro t ht
    obtain ⟨b, hb1, hT⟩ := Rtold.right t ht
    rw [etold] at hb1
    obtain ⟨p, hp1, rfl⟩ := List.mem_map.mp hb1
    have hp4 : p < 4 := by
      have := hp.subset hp1
      simp at this; lia
    refine Classical.byContradiction fun hng => ?_
    obtain ⟨h1, h2, h3, h4, h5⟩ := hT
    refine hng ?_
    dsimp only at h1 h5
    rw [named_mapB] at h5
    exact ⟨p, hp4, h1, offT h2.1, offD h3.1 h4 (named_len (fun i => nmL_len _) h5), h3.2.2, h4, h5⟩
  let F : Mid := ⟨L, su, na, oi, lineA na oo i, ds, dp, f.td, tt, d.ed, d.ec, na, na, oo, o₁, ods, odp, d.ot, d.oc, m', v6, sums, ns, szN c, c, lineO c T i, mostN T i, i, sv, pv, d.rve, d.tl, tn, tm, ti, d.t0, d.t1, d.t2, d.t3⟩
  have X₂ := XN N₂
  have hn := N₂.nd
  have IM : Mid.In w h₂ F := {
    X := X₂
    hlo := fun a ha => by
      have ha : a ∈ [L, L + 6, su] := ha
      simp only [List.mem_cons, List.not_mem_nil, or_false] at ha
      rcases ha with rfl | rfl | rfl
      · exact N₂.lo X (List.mem_of_getElem? (i := 0) rfl)
      · exact N₂.lo X (List.mem_of_getElem? (i := 6) rfl)
      · exact N₂.lo X (List.mem_of_getElem? (i := 32) rfl)
    nd := by
      have a1 := N₂.ne 0 6 rfl rfl (by decide)
      have a2 := N₂.ne 0 32 rfl rfl (by decide)
      have a3 := N₂.ne 6 32 rfl rfl (by decide)
      show [L, L + 6, su].Nodup
      simp only [List.nodup_cons, List.mem_cons, List.not_mem_nil, or_false, not_or, List.nodup_nil, and_true, not_false_eq_true]
      exact ⟨⟨a1, a2⟩, a3⟩
    eL := eL2, nL := n₁, e6 := e62, es := es2, s3 := s3
    c2 := old (n := 2) rfl (by decide) (by decide) (by decide), c3 := old (n := 3) rfl (by decide) (by decide) (by decide)
    ena := old (n := 11) rfl (by decide) (by decide) (by decide), eoi := old (n := 31) rfl (by decide) (by decide) (by decide)
    i3 := hi
    xi := by
      show (#[Value.ref na, .ref na, .ref oo] : Array Value)[i]? = some (.ref (lineA na oo i))
      rcases lt3 hi with rfl | rfl | rfl <;> rfl
    eol := by
      show ∃ n, Old h₂ [L, L + 6, su] (lineA na oo i) (listObj ((lineO c T i).map fun j => Value.str (nmL j) (tn j)).toArray n)
      unfold lineA lineO
      by_cases q : i = 2
      · rw [if_pos q, if_pos q]; exact ⟨_, old (n := 30) rfl (by decide) (by decide) (by decide)⟩
      · rw [if_neg q, if_neg q]; exact ⟨0, old (n := 11) rfl (by decide) (by decide) (by decide)⟩
    eds := old (n := 13) rfl (by decide) (by decide) (by decide), edp := old (n := 14) rfl (by decide) (by decide) (by decide)
    hds := hds, hdp := hdp, ids := ids, idp := idp, hsz := hsz, hpr := hpr
    ssum := by
      show (sv.map (·.2.1)).sum = ((List.range 4).map fun k => ((szN c k : Nat) : Int)).sum
      rw [esv, List.map_map]; rfl
    s5 := fun i _ => szN_bd c i, ok := ook, mok := mok
    etd := offD R.etd R.itd (fun p hp => by obtain ⟨t, _, rfl⟩ := List.mem_map.mp hp; exact nmL_len _)
    htd := not_sys R.X R.etd R.itd (by show (toldKv d.tl).length = 4; simp [toldKv, tl4])
    itd := R.itd, tl4 := tl4, told := tw1
    ett := off3 (w := w) eL2 n₁ q2 e62 es2 ett (.inl ⟨_, _, rfl, rfl⟩)
    eed := offT Reed.1
    eec := offD R.eec.1 R.iec (same_len eC fun b hb p hp => by
      obtain ⟨k, _, rfl⟩ := List.mem_map.mp hb
      obtain ⟨q, _, rfl⟩ := List.mem_map.mp hp
      exact nmL_len _)
    hec := R.eec.2.2, iec := R.iec, bec := eC, q1 := m1', q2 := m4', q3 := q2, q4 := m6', q5 := m5' }
  have N0 : Now h₂ F.mu h₂ [(L, o₁), (L + 6, cellO v6), (su, listObj sums.toArray ns)] := Now.start (obs := [(L, o₁), (L + 6, cellO v6), (su, listObj sums.toArray ns)]) (fun p hp => by
    simp only [List.mem_cons, List.not_mem_nil, or_false] at hp
    rcases hp with rfl | rfl | rfl
    · exact eL2
    · exact e62
    · exact es2) IM.nd
  refine r_assign2 (env := eW w L) (s := s) hh N0 0 rfl n₁ ⟨_, ett, rfl, _, rfl⟩ (by kernel_rfl) (by kernel_rfl) (by kernel_rfl) fun h₃ o₃ tk₃ N₃ n₃ => ?_
  replace N₃ : Now h₂ F.mu h₃ [(L, o₃), (L + 6, cellO v6), (su, listObj sums.toArray ns)] := N₃
  have z1 : up (up m' (S "told") (.ref f.td)) (S "entry") (.ref d.ed) (S "orders") = some (.ref oi) := by walk_at "lk"
  have z2 : up (up m' (S "told") (.ref f.td)) (S "entry") (.ref d.ed) (S "turn") = some (.int (i : Nat) ti) := by walk_at "lk"
  have z3 : up (up m' (S "told") (.ref f.td)) (S "entry") (.ref d.ed) (S "most") = some (.int (mostN T i : Nat) tm) := by walk_at "lk"
  have z4 : up (up m' (S "told") (.ref f.td)) (S "entry") (.ref d.ed) (S "prices") = some (.ref dp) := by walk_at "lk"
  have z5 : up (up m' (S "told") (.ref f.td)) (S "entry") (.ref d.ed) (S "sums") = some (.ref su) := by walk_at "lk"
  have z6 : up (up m' (S "told") (.ref f.td)) (S "entry") (.ref d.ed) (S "told") = some (.ref f.td) := by walk_at "lk"
  have z7 : up (up m' (S "told") (.ref f.td)) (S "entry") (.ref d.ed) (S "entry") = some (.ref d.ed) := by walk_at "lk"
  have z8 : ∀ x, x ≠ S "told" → x ≠ S "entry" → up (up m' (S "told") (.ref f.td)) (S "entry") (.ref d.ed) x = m' x := fun x h1 h2 => by rw [up_ne (by simpa using h2), up_ne (by simpa using h1)]
  generalize up (up m' (S "told") (.ref f.td)) (S "entry") (.ref d.ed) = m'' at n₃ z1 z2 z3 z4 z5 z6 z7 z8
  refine turnB (s := s) (f := F) hh (by lia) IM N₃ n₃ z1 z2 z3 fun h₄ tk₄ D oD ba bo rvs N₄ hD iD hr => ?_
  refine turnD (s := s) (f := F) hh hu IM N₄ n₃ z6 iD hr fun h₅ tk₅ N₅ => ?_
  refine turnF (s := s) (f := F) hh (by lia) hu IM N₅ n₃ z7 z4 z5 hD iD hr fun h₆ tk₆ th ns' N₆ => ?_
  have N₇ := N₂.upd3 0 6 32 rfl rfl rfl (by decide) (by decide) (by decide) N₆
  replace N₇ : Now hb [141, 179] h₆ (lawAll L o₃ vs (some (.ref D)) (some (.int (wayOf T) tv)) f.l c tc tn tp tw ca na pa ds dp wa ods odp t1 t2 d.od d.opl (listObj #[] nq') ++ lawTail c T tn na lo li oo oi su (listObj (sums ++ [Value.int (hourN c T i) th]).toArray ns') ++ [(I, oI)]) := N₇
  exact hq h₆ tk₆ o₃ m'' _ d.od d.opl nq' th ns' N₇ n₃ Rlex fun x h1 h2 h3 h4 => (z8 x h3 h4).trans (q3 x h1 h2)
end
end
section
open PySem PySem.W PySem.W.X PyProof.Rows PySem.Calls PySem.Spec PyProof
open LCg (NsObj lst)
set_option maxHeartbeats 1000000
noncomputable abbrev sumsN (c : Nat → Int) (T : Int) (n : Nat) (t : Nat → Tok) : List Value := (List.range n).map fun k => Value.int (hourN c T k) (t k)
section
variable {w : World} {A : Around} {s : Shared} {E : Value → Shared → Prop} {Q : Flow → Shared → Prop} {hb h : Heap} {tk : Nat} {L : Addr} {oL : Obj} {m : Str → Option Value}
/-- the three runs -/
theorem law8 (X : (KK w.params).In hb) (hh : A.handled = none) (hroom : A.depth + 4 < recursionLimit) (hu : A.units + 10 < cLine) {vs : Value} {c : Nat → Int} {tc tn tp tw ts tq : Nat → Tok} {ca na pa ds dp wa lo li oo oi su : Addr} {ods odp t1 t2 od opl : Obj} {T : Int} {tv tT : Tok} {l : Lx} {ln : Int}
    (N : Now hb [141, 179] h (lawAll L oL vs none (some (.int (wayOf T) tv)) l c tc tn tp tw ca na pa ds dp wa ods odp t1 t2 od opl (listObj #[] 0) ++ lawTail c T tn na lo li oo oi su (listObj #[] 0))) (nL : NsObj oL m)
    (m2 : m (S "total") = some (.int T tT)) (m3 : m (S "lines") = some (.ref li)) (m4 : m (S "orders") = some (.ref oi)) (m5 : m (S "sums") = some (.ref su)) (m6 : m (S "prices") = some (.ref dp))
    (k : l.Ok) (lex : LexSt l od opl (listObj #[] 0) ln []) (ids : ods.IsDictOf (SK w) ((List.range 4).map fun k => (nmL k, Value.int (szN c k : Nat) (ts k)))) (idp : odp.IsDictOf (SK w) ((List.range 4).map fun k => (nmL k, Value.int (c k) (tq k)))) (hds : 183 ≤ ds) (hdp : 183 ≤ dp)
    (hq : ∀ h' tk' oL' m' v6 od' opl' nq ns (t : Nat → Tok), Now hb [141, 179] h' (lawAll L oL' vs v6 (some (.int (wayOf T) tv)) l c tc tn tp tw ca na pa ds dp wa ods odp t1 t2 od' opl' (listObj #[] nq) ++ lawTail c T tn na lo li oo oi su (listObj (sumsN c T 3 t).toArray ns)) →
      NsObj oL' m' → m' (S "sums") = some (.ref su) → wpAny (MM w) A (execs (bLaw.drop 18) (eW w L)) Q E (St s h' tk')) :
    wpAny (MM w) A (execs (bLaw.drop 17) (eW w L)) Q E (St s h tk) := by
  let R64 : List (Addr × Obj) := lawAll L oL vs none (some (.int (wayOf T) tv)) l c tc tn tp tw ca na pa ds dp wa ods odp t1 t2 od opl (listObj #[] 0) ++ lawTail c T tn na lo li oo oi su (listObj #[] 0)
  replace N : Now hb [141, 179] h R64 := N
  have hlo : ∀ a ∈ [141, 179], Lo a := fun a ha => by
    rcases List.mem_cons.mp ha with rfl | ha
    · exact lo_table1
    · rcases List.mem_singleton.mp ha with rfl; exact lo_table2
  have XN : ∀ {h' : Heap} {obs : List (Addr × Obj)}, Now hb [141, 179] h' obs → (KK w.params).In h' := fun N' => kk_keep X N' hlo
  conv => arg 3; arg 1; whnf
  with_reducible refine wpAny_execs_cons ?_
  refine wpAny_For ?_ (by intro _; kernel_rfl)
  refine r_four (n := 3) (XN N) (by kernel_rfl) (by kernel_rfl) (by kernel_rfl) (by kernel_rfl) (by decide) (by kernel_rfl) N fun h₁ tk₁ I oI N₁ hI hIc => ?_
  let J12 : Nat → List (Addr × Obj) → Prop := fun i obs' => ∃ oL m v6 od opl nq ns, ∃ t : Nat → Tok, obs' = lawAll L oL vs v6 (some (.int (wayOf T) tv)) l c tc tn tp tw ca na pa ds dp wa ods odp t1 t2 od opl (listObj #[] nq) ++ lawTail c T tn na lo li oo oi su (listObj (sumsN c T i t).toArray ns) ∧ NsObj oL m ∧ m (S "total") = some (.int T tT) ∧ m (S "lines") = some (.ref li) ∧ m (S "orders") = some (.ref oi) ∧ m (S "sums") = some (.ref su) ∧ m (S "prices") = some (.ref dp) ∧ LexSt l od opl (listObj #[] nq) ln []
  refine r_forW2 (s := s) J12
    (walks_range hh 3) (fun i h e => ⟨_, e⟩) hIc stays_range N₁ (by simpa using hI) ⟨oL, m, none, od, opl, 0, 0, fun _ => 0, rfl, nL, m2, m3, m4, m5, m6, lex⟩ ?_ ?_
  · intro i v h' tk' oI' _ E' Pz hi hz1 hz2 N' hpz
    refine Classical.byContradiction fun hng => ?_
    obtain ⟨ti, rfl⟩ := hz1
    obtain ⟨oL', m', v6, od', opl', nq, ns, t, rfl, nL', p2, p3, p4, p5, p6, lex'⟩ := hz2
    refine hng ?_
    refine r_store (env := eW w L) (s := s) N' 0 rfl nL' (by kernel_rfl) (by kernel_rfl) fun h₂ o₂ tk₂ N₂ n₂ => ?_
    let R65 : List (Addr × Obj) := lawAll L o₂ vs v6 (some (.int (wayOf T) tv)) l c tc tn tp tw ca na pa ds dp wa ods odp t1 t2 od' opl' (listObj #[] nq) ++ lawTail c T tn na lo li oo oi su (listObj (sumsN c T i t).toArray ns) ++ [(I, oI')]
    replace N₂ : Now hb [141, 179] h₂ R65 := N₂
    have r1 : up m' (S "turn") (.int (i : Nat) ti) (S "turn") = some (.int (i : Nat) ti) := up_self _ _ _
    have r2 : up m' (S "turn") (.int (i : Nat) ti) (S "total") = some (.int T tT) := (up_ne (by kernel_rfl)).trans p2
    have r3 : up m' (S "turn") (.int (i : Nat) ti) (S "lines") = some (.ref li) := (up_ne (by kernel_rfl)).trans p3
    have r4 : up m' (S "turn") (.int (i : Nat) ti) (S "orders") = some (.ref oi) := (up_ne (by kernel_rfl)).trans p4
    have r5 : up m' (S "turn") (.int (i : Nat) ti) (S "sums") = some (.ref su) := (up_ne (by kernel_rfl)).trans p5
    have r6 : up m' (S "turn") (.int (i : Nat) ti) (S "prices") = some (.ref dp) := (up_ne (by kernel_rfl)).trans p6
    change NsObj o₂ (up m' (S "turn") (.int (i : Nat) ti)) at n₂
    generalize up m' (S "turn") (.int (i : Nat) ti) = mx at n₂ r1 r2 r3 r4 r5 r6
    change wpAny (MM w) A (execs bTurn (eW w L)) _ E' (St s h₂ tk₂)
    have hs3 : (sumsN c T i t).length ≤ 3 := by simp; lia
    with_reducible refine law_turn (s := s) (w := w) (L := L) (T := T) (c := c) X hh hroom hu hi N₂ n₂ r1 r2 r3 r4 r5 r6 k lex' ids idp hds hdp hs3 fun h₃ tk₃ o₃ m₃ v₃ od₃ opl₃ nq₃ t₃ ns₃ N₃ n₃ lex₃ e₃ => ?_
    obtain ⟨t', et⟩ := snoc_fun (f := fun k (u : Tok) => Value.int (hourN c T k) u) (t := t) (i := i) (u := t₃)
    have et' : sumsN c T i t ++ [Value.int (hourN c T i) t₃] = sumsN c T (i + 1) t' := et
    rw [et'] at N₃
    have ee : ∀ x v, mx x = some v → x ≠ S "row" → x ≠ S "most" → x ≠ S "told" → x ≠ S "entry" → m₃ x = some v := fun x v e h1 h2 h3 h4 => (e₃ x h1 h2 h3 h4).trans e
    exact (hpz _ _ ⟨.inl rfl, h₃, tk₃, _, rfl, ⟨o₃, m₃, v₃, od₃, opl₃, nq₃, ns₃, t', rfl, n₃, ee _ _ r2 (sne (by kernel_rfl)) (sne (by kernel_rfl)) (sne (by kernel_rfl)) (sne (by kernel_rfl)), ee _ _ r3 (sne (by kernel_rfl)) (sne (by kernel_rfl)) (sne (by kernel_rfl)) (sne (by kernel_rfl)), ee _ _ r4 (sne (by kernel_rfl)) (sne (by kernel_rfl)) (sne (by kernel_rfl)) (sne (by kernel_rfl)), ee _ _ r5 (sne (by kernel_rfl)) (sne (by kernel_rfl)) (sne (by kernel_rfl)) (sne (by kernel_rfl)), ee _ _ r6 (sne (by kernel_rfl)) (sne (by kernel_rfl)) (sne (by kernel_rfl)) (sne (by kernel_rfl)), lex₃⟩, N₃⟩)
  · intro h' tk' _ hz3 N'
    refine Classical.byContradiction fun hng => ?_
    obtain ⟨oL', m', v6, od', opl', nq, ns, t, rfl, nL', p2, p3, p4, p5, p6, lex'⟩ := hz3
    refine hng ?_
    exact hq h' tk' oL' m' v6 od' opl' nq ns t N' nL' p5
end
end
section
open PySem PySem.W PySem.W.X PyProof.Rows PySem.Calls PySem.Spec PyProof
set_option maxHeartbeats 1000000
section
variable {le : Nat → Nat → Bool}
theorem ins_true {x k : Nat} {r : List Nat} (h : le x k = true) : insAt le (x :: r) k = x :: insAt le r k := by
  unfold insAt
  rw [List.filter_cons_of_pos (by simpa using h)]
  simp
theorem ins_false {x k : Nat} {r : List Nat} (h : le x k = false) (hr : ∀ y ∈ r, le y k = false) : insAt le (x :: r) k = k :: x :: r := by
  unfold insAt
  have e : (x :: r).filter (fun y => le y k) = [] := by
    rw [List.filter_eq_nil_iff]
    intro y hy
    rcases List.mem_cons.mp hy with rfl | hy
    · rw [h]; decide
    · rw [hr y hy]; decide
  rw [e]; simp
theorem ins_sorted (ht : ∀ i j k, le i j = true → le j k = true → le i k = true) (hl : ∀ i j, le i j = false → le j i = true) {k : Nat} : ∀ {line : List Nat}, line.Pairwise (fun i j => le i j = true) → (insAt le line k).Pairwise (fun i j => le i j = true)
  | [], _ => by simp [insAt]
  | x :: r, h => by
    rw [List.pairwise_cons] at h
    cases q : le x k with
    | true =>
      rw [ins_true q, List.pairwise_cons]
      refine ⟨fun y hy => ?_, ins_sorted ht hl h.2⟩
      have := (insAt_perm le r k).subset hy
      rcases List.mem_append.mp this with hy | hy
      · exact h.1 y hy
      · rw [List.mem_singleton.mp hy]; exact q
    | false =>
      have hr : ∀ y ∈ r, le y k = false := fun y hy => by
        cases z : le y k with
        | false => rfl
        | true => rw [ht x y k (h.1 y hy) z] at q; cases q
      rw [ins_false q hr, List.pairwise_cons, List.pairwise_cons]
      refine ⟨fun y hy => ?_, h⟩
      rcases List.mem_cons.mp hy with rfl | hy
      · exact hl _ _ q
      · exact hl _ _ (hr y hy)
theorem order_sorted (ht : ∀ i j k, le i j = true → le j k = true → le i k = true) (hl : ∀ i j, le i j = false → le j i = true) : ∀ n, (orderOf le n).Pairwise (fun i j => le i j = true)
  | 0 => List.Pairwise.nil
  | n + 1 => by rw [orderOf_succ]; exact ins_sorted ht hl (order_sorted ht hl n)
end
theorem ordL_sorted (c : Nat → Int) (T : Int) : ((ordL c T).map (szN c)).Pairwise (· ≤ ·) := by
  rw [List.pairwise_map]
  refine List.Pairwise.imp (R := fun i j => leRow (pzN c) c (wayOf T) i j = true) (fun {i j} h => ?_) (order_sorted (fun i j k h1 h2 => ?_) (fun i j h => ?_) 4)
  · have h' : leRow (pzN c) c (wayOf T) i j = true := h
    unfold leRow pzN at h'
    have := of_decide_eq_true h'
    omega
  · simp only [leRow, decide_eq_true_eq] at h1 h2 ⊢; omega
  · simp only [leRow, decide_eq_true_eq, decide_eq_false_iff_not] at h ⊢; omega
noncomputable def ins1 (a : Nat) : List Nat → List Nat
  | [] => [a]
  | b :: r => if Nat.ble a b then a :: b :: r else b :: ins1 a r
noncomputable def isort : List Nat → List Nat
  | [] => []
  | a :: r => ins1 a (isort r)
theorem ins1_perm (a : Nat) : ∀ l, (ins1 a l).Perm (a :: l)
  | [] => List.Perm.refl _
  | b :: r => by
    unfold ins1
    split
    · exact List.Perm.refl _
    · exact ((ins1_perm a r).cons b).trans (List.Perm.swap a b r)
theorem isort_perm : ∀ l, (isort l).Perm l
  | [] => List.Perm.refl _
  | a :: r => (ins1_perm a (isort r)).trans ((isort_perm r).cons a)
theorem ins1_sorted (a : Nat) : ∀ {l : List Nat}, l.Pairwise (· ≤ ·) → (ins1 a l).Pairwise (· ≤ ·)
  | [], _ => by simp [ins1]
  | b :: r, h => by
    unfold ins1
    rw [List.pairwise_cons] at h
    split
    · rename_i q
      have q' := Nat.le_of_ble_eq_true q
      rw [List.pairwise_cons, List.pairwise_cons]
      refine ⟨fun y hy => ?_, h⟩
      rcases List.mem_cons.mp hy with rfl | hy
      · exact q'
      · exact Nat.le_trans q' (h.1 y hy)
    · rename_i q
      rw [List.pairwise_cons]
      refine ⟨fun y hy => ?_, ins1_sorted a h.2⟩
      have := (ins1_perm a r).subset hy
      rcases List.mem_cons.mp this with rfl | hy
      · have : ¬ y ≤ b := fun z => q (Nat.ble_eq_true_of_le z)
        omega
      · exact h.1 y hy
theorem isort_sorted : ∀ l, (isort l).Pairwise (· ≤ ·)
  | [] => List.Pairwise.nil
  | a :: r => ins1_sorted a (isort_sorted r)
theorem ordL_isort (c : Nat → Int) (T : Int) : (ordL c T).map (szN c) = isort [szN c 0, szN c 1, szN c 2, szN c 3] := by
  refine List.Perm.eq_of_pairwise (fun a b _ _ h1 h2 => Nat.le_antisymm h1 h2) (ordL_sorted c T) (isort_sorted _) ?_
  exact ((ordL_perm c T).map (szN c)).trans (isort_perm _).symm
/-- the law's list of sums, over all orders -/
noncomputable def leastI (p : Nat → Nat) : List Int := (List.range 4).flatMap fun i => ((List.range 4).filter fun j => i != j).flatMap fun j => ((List.range 4).filter fun k => k != i && k != j).map fun k =>
  4 * ((p i : Nat) : Int) + 3 * ((p j : Nat) : Int) + 2 * ((p k : Nat) : Int) + ((p (6 - i - j - k) : Nat) : Int)
noncomputable def pairsN (p : Nat → Nat) : List (Nat × Nat) := (List.range 4).flatMap fun i => ((List.range i).filter fun j => Nat.ble (p j) (p i)).map fun j => (i, j)
noncomputable def hourT (s : Nat → Nat) (m : Nat) : Int := ((List.range 4).map fun k => hourOf (bookN s m k)).sum
noncomputable def chkH (p0 p1 p2 p3 : Nat) : Bool := match isort [p0, p1, p2, p3] with
  | [z0, z1, z2, z3] => (hourT (rk z0 z1 z2 z3) 5 == 4 * z0 + 3 * z1 + 2 * z2 + z3) && (leastI (rk p0 p1 p2 p3)).any (fun a => a == hourT (rk z0 z1 z2 z3) 5) && (leastI (rk p0 p1 p2 p3)).all (fun a => decide (hourT (rk z0 z1 z2 z3) 5 ≤ a)) &&
      (hourT (rk p0 p1 p2 p3) 1 == 2 * hourT (rk z0 z1 z2 z3) 5 - ((p0 + p1 + p2 + p3 : Nat) : Int) - ((pairsN (rk p0 p1 p2 p3)).length : Nat))
  | _ => false
set_option maxHeartbeats 0 in
theorem chk_h : ∀ z0 ∈ five, ∀ z1 ∈ five, ∀ z2 ∈ five, ∀ z3 ∈ five, (chkH z0 z1 z2 z3) = true := by decide +kernel
theorem rk_eq (p : Nat → Nat) {i : Nat} (hi : i < 4) : rk (p 0) (p 1) (p 2) (p 3) i = p i := by
  rcases lt4 hi with rfl | rfl | rfl | rfl <;> rfl
theorem hadN_congr {s s' : Nat → Nat} {m k j : Nat} (hk : s k = s' k) (hj : s j = s' j) : hadN s m k j = hadN s' m k j := by
  unfold hadN slN; rw [hk, hj]
theorem bookN_congr {s s' : Nat → Nat} {m k : Nat} (h : ∀ j, j < 4 → s j = s' j) (hk : k < 4) : bookN s m k = bookN s' m k := by
  unfold bookN
  have hm : ∀ j ∈ [0, 1, 2, 3], hadN s m k j = hadN s' m k j := fun j hj => hadN_congr (h k hk) (h j (by simp at hj; omega))
  have ef : ([0, 1, 2, 3].filter fun j => Nat.blt 0 (hadN s m k j)) = [0, 1, 2, 3].filter fun j => Nat.blt 0 (hadN s' m k j) := List.filter_congr fun j hj => by rw [hm j hj]
  rw [ef]
  exact List.map_congr_left fun j hj => by rw [hm j (List.mem_filter.mp hj).1]
theorem hourT_congr {s s' : Nat → Nat} {m : Nat} (h : ∀ j, j < 4 → s j = s' j) : hourT s m = hourT s' m := by
  unfold hourT
  rw [List.map_congr_left fun k hk => by rw [bookN_congr h (List.mem_range.mp hk)]]
theorem hourN_T (c : Nat → Int) (T : Int) (i : Nat) : hourN c T i = hourT (fun k => szN c (plc (lineO c T i) k)) (mostN T i) := by
  unfold hourN hourT BB
  rw [List.map_congr_left fun k _ => by rw [bookN_eq (s := fun k => szN c (plc (lineO c T i) k)) (szN_bd c _) (mostN_ok T i)]]
theorem flat_congr {α β : Type} {f g : α → List β} : ∀ {l : List α}, (∀ x ∈ l, f x = g x) → l.flatMap f = l.flatMap g
  | [], _ => rfl
  | a :: l, h => by rw [List.flatMap_cons, List.flatMap_cons, h a (.head _), flat_congr fun x hx => h x (.tail _ hx)]
theorem leastI_congr {p p' : Nat → Nat} (h : ∀ j, j < 4 → p j = p' j) : leastI p = leastI p' := by
  unfold leastI
  refine flat_congr fun i hi => flat_congr fun j hj => List.map_congr_left fun k hk => ?_
  obtain ⟨hj1, hj2⟩ := List.mem_filter.mp hj
  obtain ⟨hk1, hk2⟩ := List.mem_filter.mp hk
  have i4 := List.mem_range.mp hi
  have j4 := List.mem_range.mp hj1
  have k4 := List.mem_range.mp hk1
  simp only [bne_iff_ne, ne_eq, Bool.and_eq_true] at hj2 hk2
  rw [h i i4, h j j4, h k k4, h (6 - i - j - k) (by omega)]
theorem pairsN_congr {p p' : Nat → Nat} (h : ∀ j, j < 4 → p j = p' j) : pairsN p = pairsN p' := by
  unfold pairsN
  refine flat_congr fun i hi => ?_
  have i4 := List.mem_range.mp hi
  rw [List.filter_congr fun j hj => by rw [h i i4, h j (by have := List.mem_range.mp hj; omega)]]
/-- what the law asks at its end -/
theorem law_pure (c : Nat → Int) (T : Int) : hourN c T 2 ∈ leastI (szN c) ∧ (∀ a ∈ leastI (szN c), hourN c T 2 ≤ a) ∧
    hourN c T 0 = 2 * hourN c T 2 - ((List.range 4).map fun k => ((szN c k : Nat) : Int)).sum - ((pairsN (szN c)).length : Nat) := by
  have ck := chk_h _ (mem_five (szN_bd c 0)) _ (mem_five (szN_bd c 1)) _ (mem_five (szN_bd c 2)) _ (mem_five (szN_bd c 3))
  have hp : ∀ j, j < 4 → rk (szN c 0) (szN c 1) (szN c 2) (szN c 3) j = szN c j := fun j hj => rk_eq (szN c) hj
  have hz := ordL_isort c T
  unfold chkH at ck
  rw [← hz] at ck
  have ho := (lineO_ok c T 2).h4
  have eo : lineO c T 2 = ordL c T := if_pos rfl
  have e2 : hourN c T 2 = hourT (fun k => szN c (plc (ordL c T) k)) 5 := by
    rw [hourN_T, eo]; rfl
  have e0 : hourN c T 0 = hourT (szN c) 1 := by
    rw [hourN_T]
    show hourT _ 1 = _
    refine hourT_congr fun j hj => ?_
    have el : lineO c T 0 = [0, 1, 2, 3] := rfl
    rw [el]
    rcases lt4 hj with rfl | rfl | rfl | rfl <;> rfl
  rw [leastI_congr hp, pairsN_congr hp, hourT_congr (m := 1) hp, ← e0] at ck
  rw [eo] at ho
  match e : ordL c T, ho with
  | [a, b, d, f], _ =>
    rw [e] at ck e2
    simp only [List.map_cons, List.map_nil, Bool.and_eq_true] at ck
    refine Classical.byContradiction fun hng => ?_
    obtain ⟨⟨⟨_, h2⟩, h3⟩, h4⟩ := ck
    refine hng ?_
    have e3 : hourT (rk (szN c a) (szN c b) (szN c d) (szN c f)) 5 = hourN c T 2 := by
      rw [e2]
      refine hourT_congr fun j hj => ?_
      rcases lt4 hj with rfl | rfl | rfl | rfl <;> rfl
    rw [e3] at h2 h3 h4
    refine ⟨?_, fun x hx => ?_, ?_⟩
    · obtain ⟨x, hx, ex⟩ := List.any_eq_true.mp h2
      rw [eq_of_beq ex] at hx; exact hx
    · exact of_decide_eq_true (List.all_eq_true.mp h3 x hx)
    · have := eq_of_beq h4
      rw [this]
      have es : ((List.range 4).map fun k => ((szN c k : Nat) : Int)).sum = ((szN c 0 + szN c 1 + szN c 2 + szN c 3 : Nat) : Int) := by
        show ((szN c 0 : Nat) : Int) + (((szN c 1 : Nat) : Int) + (((szN c 2 : Nat) : Int) + (((szN c 3 : Nat) : Int) + 0))) = _
        omega
      rw [es]
end
section
open PySem PySem.W PySem.W.X PyProof.Rows PySem.Calls PySem.Spec PyProof
open LCg (NsObj lst)
set_option maxHeartbeats 1000000
/-- one turn of a comprehension's clause, what is done when the tests hold: BB -/
noncomputable def TurnB (e : Expr) (d : Nat) (it acc : Value) (env : Env) (x : Str) (px : Pos) (iter : Expr) (ifs : List Expr) (BB : Sem PySem.Fin) : Prop :=
  compTurn e d it acc env = (standAt iter.pos >>= fun _ => pyNext it >>= fun r => match r with
    | none => pure (.done .next)
    | some v => letOwnedTupleGo (.Name x px) it v >>= fun _ => assign (.Name x px) env v >>= fun _ => tests ifs env >>= fun ok =>
      (if ok = true then BB else again (.compLoop e d it acc env)))
/-- the work of a clause that has another behind it -/
noncomputable abbrev nestB (e : Expr) (d : Nat) (it acc : Value) (env : Env) (iter : Expr) : Sem PySem.Fin :=
  eval iter env >>= fun x => standAt iter.pos >>= fun _ => foldedSetIterable iter env x >>= fun x => holding [x] (pyIter x) >>= fun it2 => runOwn (.compStart e (d + 1) it2 acc env) env >>= fun _ => again (.compLoop e d it acc env)
section
variable {w : World} {A : Around} {s : Shared} {h : Heap} {tk : Nat} {E : Value → Shared → Prop} {env : Env} {hb : Heap} {ch : List Addr} {obs : List (Addr × Obj)}
theorem compJ2 {R : Result → Shared → Prop} {e : Expr} {d : Nat} {acc : Value} {x : Str} {px : Pos} {iter : Expr} {ifs : List Expr} {BB : Sem PySem.Fin} {I : Addr} {oI : Obj} {fp : List Addr} {n : Nat} {P : Nat → Value → Prop} {Sh : Nat → Heap → Prop}
    (hT : TurnB e d (.ref I) acc env x px iter ifs BB) (hfr : (Code.compLoop e d (.ref I) acc env).isFrame = false) (hU : A.under (Code.compLoop e d (.ref I) acc env) = A)
    (W : Walks PR w A I fp [I] n P Sh) (hI : ∀ i h, Sh i h → ∃ o, h.get? I = some o) (hIc : I ∉ ch) (J : Nat → List (Addr × Obj) → Prop)
    (hSh : ∀ i h h' o, Sh i h → h.get? I = some o → h'.get? I = some o → Sh i h')
    (N : Now hb ch h (obs ++ [(I, oI)])) (h0 : Sh 0 h) (hJ : J 0 obs)
    (turn : ∀ i v h' tk' oI' obs' (E' : Value → Shared → Prop), i < n → P i v → J i obs' → Now hb ch h' (obs' ++ [(I, oI')]) →
      wpAny (MM w) A (storeName env x v) (fun _ s₂ => wpAny (MM w) A (tests ifs env) (fun ok s₃ =>
        if ok = true then wpAny (MM w) A BB (fun fin s₄ => fin = .again (.compLoop e d (.ref I) acc env) ∧ ∃ h'' tk'' obs'', s₄ = St s h'' tk'' ∧ J (i + 1) obs'' ∧ Now hb ch h'' (obs'' ++ [(I, oI')])) E' s₃
        else ∃ h'' tk'' obs'', s₃ = St s h'' tk'' ∧ J (i + 1) obs'' ∧ Now hb ch h'' (obs'' ++ [(I, oI')])) E' s₂) E' (St s h' tk'))
    (done : ∀ h' tk' obs', J n obs' → Now hb ch h' obs' → R (.ok .next) (St s h' tk')) :
    codeAny (MM w) A (.compLoop e d (.ref I) acc env) R (St s h tk) := by
  refine codeAny_loop rfl (fun k s' => ∃ i h' tk' oI' obs', s' = St s h' tk' ∧ i ≤ n ∧ k = n + 1 - i ∧ Sh i h' ∧ J i obs' ∧ Now hb ch h' (obs' ++ [(I, oI')])) ?_ (n + 1) ⟨0, h, tk, oI, obs, rfl, Nat.zero_le _, rfl, h0, hJ, N⟩
  intro k _ hz1
  refine Classical.byContradiction fun hng => ?_
  obtain ⟨i, h', tk', oI', obs', rfl, hi, rfl, st, j, N'⟩ := hz1
  refine hng ?_
  have e1 : denote table (.compLoop e d (.ref I) acc env) = (compTurn e d (.ref I) acc env).onRaise (fun x => do noteFrame x env; theTreesLotGoes x) := by
    show (if (Code.compLoop e d (.ref I) acc env).isFrame = true then _ else _) = _
    rw [if_neg (by rw [hfr]; decide)]
  rw [hU]
  show wpAny _ A (denote table (.compLoop e d (.ref I) acc env)) _ _ _
  rw [e1]
  refine wpAny_noted ?_
  rw [hT]
  refine wpAny_bind (wpAny_standAt (wpAny_bind ?_))
  have upI : ∀ {h₁ : Heap} {o₁ : Obj}, (∀ b o, b ∉ [I] → h'.get? b = some o → h₁.get? b = some o) → h₁.get? I = some o₁ → Now hb ch h₁ (obs' ++ [(I, o₁)]) := fun hk e₁ =>
    ((N'.front : Now hb ch h' ((I, oI') :: obs')).but (fun b o hne e => hk b o (by simpa using hne) e) e₁).perm (List.perm_append_singleton _ _)
  by_cases hlt : i < n
  · refine W.item i _ _ _ hlt st fun v h₁ tk₁ hP st₁ hk => ?_
    obtain ⟨o₁, e₁⟩ := hI _ _ st₁
    have N₁ := upI hk e₁
    refine wpAny_bind (wpAny_of_eq (a := ()) rfl ?_)
    refine wpAny_bind (wpAny_assign_Name (wpAny_mono (turn i v h₁ tk₁ o₁ obs' _ hlt hP j N₁) (fun _ s₂ h₂ => wpAny_bind (wpAny_mono h₂ (fun ok s₃ h₃ => ?_) fun _ _ e => e)) fun _ _ e => e))
    have fin : ∀ s₄, (∃ h'' tk'' obs'', s₄ = St s h'' tk'' ∧ J (i + 1) obs'' ∧ Now hb ch h'' (obs'' ++ [(I, o₁)])) → ∃ m, m < n + 1 - i ∧ ∃ i h' tk' oI' obs', s₄ = St s h' tk' ∧ i ≤ n ∧ m = n + 1 - i ∧ Sh i h' ∧ J i obs' ∧ Now hb ch h' (obs' ++ [(I, oI')]) := by
      intro _ hz2
      refine Classical.byContradiction fun hng => ?_
      obtain ⟨h₂, tk₂, obs₂, rfl, j₂, N₂⟩ := hz2
      refine hng ?_
      have eI : h₂.get? I = some o₁ := N₂.at_ (I, o₁) (by simp)
      exact ⟨n + 1 - (i + 1), by lia, i + 1, h₂, tk₂, o₁, obs₂, rfl, hlt, rfl, hSh _ _ _ _ st₁ e₁ eI, j₂, N₂⟩
    cases ok with
    | true =>
      simp only [if_true] at h₃ ⊢
      refine wpAny_mono h₃ (fun f s₄ h₄ => ?_) fun _ _ e => e
      obtain ⟨rfl, h₄⟩ := h₄
      exact ⟨rfl, fin s₄ h₄⟩
    | false =>
      simp only [Bool.false_eq_true, if_false] at h₃ ⊢
      exact wpAny_pure ⟨rfl, fin s₃ h₃⟩
  · obtain rfl : i = n := Nat.le_antisymm hi (Nat.not_lt.mp hlt)
    refine W.done _ _ _ st fun h₁ tk₁ hk => ?_
    exact wpAny_pure (done h₁ tk₁ obs' j (N'.forget hIc fun b o hne e => hk b o (by simpa using hne) e))
/-- the start of a clause's loop, whatever its depth -/
theorem startAny {R : Result → Shared → Prop} {elt : Expr} {gens : List Comprehension} {scope : Scope} {pos : Pos} {d : Nat} {it acc : Value} {target iter : Expr} {ifs : List Expr} (hg : gens[d]? = some ⟨target, iter, ifs, 0⟩)
    (h0 : codeAny (MM w) A (.compLoop (.ListComp elt gens scope pos) d it acc env) R s)
    (h1 : wpAny (MM w) A (pyIter it) (fun it' s' => codeAny (MM w) A (.compLoop (.ListComp elt gens scope pos) d it' acc env) R s') (notedBy (MM w) A env fun x s' => R (.error x) s') s) :
    codeAny (MM w) A (.compStart (.ListComp elt gens scope pos) d it acc env) R s := by
  refine codeAny_of_tree ?_
  show wpAny _ _ ((compStart (.ListComp elt gens scope pos) d it acc env).onRaise (fun x => do noteFrame x env; standAt theWindowsPlace)) _ _ s
  refine wpAny_notedAt ?_
  unfold compStart
  have e1 : (clausesOf (.ListComp elt gens scope pos))[d]? = some ⟨target, iter, ifs, 0⟩ := hg
  rw [e1]
  show wpAny _ _ (ask >>= _) _ _ s
  refine wpAny_bind (wpAny_askSetting (wpAny_ite ?_))
  split
  · first
      | exact wpAny_bind (wpAny_pure (wpAny_pure (And.intro rfl h0)))
      | exact wpAny_pure (And.intro rfl h0)
  · refine wpAny_bind (wpAny_rule ?_)
    show wpAny _ _ (standAt iter.pos >>= _) _ _ s
    exact wpAny_bind (wpAny_standAt (wpAny_bind (wpAny_mono h1 (fun it' s' h' => wpAny_pure (And.intro rfl h')) fun _ _ x => x)))
/-- a clause within a clause -/
theorem r_nest {P : Shared → Prop} {elt : Expr} {gens : List Comprehension} {scope : Scope} {pos : Pos} {d : Nat} {it acc : Value} {target iter : Expr} {ifs : List Expr} {s : Shared} (hg : gens[d + 1]? = some ⟨target, iter, ifs, 0⟩) (hs : ∀ x, foldedSetIterable iter env x = pure x)
    (hq : wpAny (MM w) A (eval iter env) (fun xv s₁ => wpAny (MM w) A (pyIter xv) (fun it2 s₂ => ∃ I fp wr n Q Sh, it2 = .ref I ∧ Walks PR w A I fp wr n Q Sh ∧ Sh 0 s₂.heap ∧
      ∀ R : Result → Shared → Prop, (∀ s', P s' → R (.ok .next) s') → codeAny (MM w) A (.compLoop (.ListComp elt gens scope pos) (d + 1) it2 acc env) R s₂) E s₁) E s) :
    wpAny (MM w) A (nestB (.ListComp elt gens scope pos) d it acc env iter) (fun fin s₄ => fin = .again (.compLoop (.ListComp elt gens scope pos) d it acc env) ∧ P s₄) E s := by
  refine wpAny_bind (wpAny_mono hq (fun xv s₁ h₁ => wpAny_bind (wpAny_standAt ?_)) fun _ _ e => e)
  rw [hs]
  refine wpAny_bind (wpAny_pure (wpAny_bind (wpAny_holding (wpAny_mono h₁ (fun it2 s₂ h₂ => ?_) fun _ _ e => e))))
  refine Classical.byContradiction fun hng => ?_
  obtain ⟨I, fp, wr, n, Q, Sh, rfl, W, h0, hc⟩ := h₂
  refine hng ?_
  refine wpAny_bind (wpAny_runOwn ?_)
  have hc' := hc (fun r s' => match r with | .ok _ => wpAny (MM w) A (again (.compLoop (.ListComp elt gens scope pos) d it acc env)) (fun fin s₄ => fin = .again (.compLoop (.ListComp elt gens scope pos) d it acc env) ∧ P s₄) E s' | .error e => cameBackBy (MM w) A env E e s') fun s' p => wpAny_pure ⟨rfl, p⟩
  exact startAny hg hc' (W.self 0 _ _ _ h0 hc')
end
end
section
open PySem PySem.W PySem.W.X PyProof.Rows PySem.Calls PySem.Spec PyProof
open LCg (NsObj lst)
set_option maxHeartbeats 1000000
noncomputable abbrev intsL (vals : List (Int × Tok)) : List Value := vals.map fun p => Value.int p.1 p.2
/-- a comprehension of ints under way: its list, its frame, the iterators of the clauses that run -/
noncomputable def CSN (hb : Heap) (ch : List Addr) (h : Heap) (pre : List (Addr × Obj)) (D C : Addr) (its : List (Addr × Obj)) (vars : List (Str × Value)) (ns : List Int) : Prop :=
  ∃ vals oC mC, Now hb ch h (pre ++ ((D, lst (intsL vals)) :: (C, oC) :: its)) ∧ NsObj oC mC ∧ (∀ p ∈ vars, mC p.1 = some p.2) ∧ vals.map (·.1) = ns
section
variable {w : World} {A : Around} {s : Shared} {h : Heap} {tk : Nat} {E : Value → Shared → Prop} {env : Env} {hb : Heap} {ch : List Addr} {pre its : List (Addr × Obj)} {D C : Addr} {vars : List (Str × Value)} {ns : List Int}
theorem clause {R : Result → Shared → Prop} {elt : Expr} {gens : List Comprehension} {scope : Scope} {pos : Pos} {d : Nat} {x : Str} {px : Pos} {iter : Expr} {ifs : List Expr} {BB : Sem PySem.Fin} {I : Addr} {oI : Obj} {n : Nat} {cl : List (Str × Addr)} (F : Nat → List Int) (B m : Nat)
    (hT : TurnB (.ListComp elt gens scope pos) d (.ref I) (.ref D) (compEnvC scope cl C env) x px iter ifs BB) (hkind : scope.kind = .function) (hh : A.handled = none)
    (hIc : I ∉ ch) (hx : (compEnvC scope cl C env).kindOf x = some .local) (hv : ∀ p ∈ vars, (p.1 == x) = false) (S0 : CSN hb ch h pre D C (its ++ [(I, oI)]) vars ns) (hI : IsRangeIter h I 0 n 1) (hB : ns.length ≤ B) (hF : ∀ i, i < n → (F i).length ≤ m)
    (work : ∀ i t h' tk' oI' ns' (E' : Value → Shared → Prop), i < n → CSN hb ch h' pre D C (its ++ [(I, oI')]) ((x, .int (i : Nat) t) :: vars) ns' → ns'.length ≤ B + m * i →
      wpAny (MM w) A (tests ifs (compEnvC scope cl C env)) (fun ok s₃ =>
        if ok = true then wpAny (MM w) A BB (fun fin s₄ => fin = .again (.compLoop (.ListComp elt gens scope pos) d (.ref I) (.ref D) (compEnvC scope cl C env)) ∧ ∃ h'' tk'', s₄ = St s h'' tk'' ∧ CSN hb ch h'' pre D C (its ++ [(I, oI')]) ((x, .int (i : Nat) t) :: vars) (ns' ++ F i)) E' s₃
        else F i = [] ∧ ∃ h'' tk'', s₃ = St s h'' tk'' ∧ CSN hb ch h'' pre D C (its ++ [(I, oI')]) ((x, .int (i : Nat) t) :: vars) ns') E' (St s h' tk'))
    (done : ∀ h' tk', CSN hb ch h' pre D C its vars (ns ++ (List.range n).flatMap F) → R (.ok .next) (St s h' tk')) :
    codeAny (MM w) A (.compLoop (.ListComp elt gens scope pos) d (.ref I) (.ref D) (compEnvC scope cl C env)) R (St s h tk) := by
  refine Classical.byContradiction fun hng => ?_
  obtain ⟨vals, oC, mC, N, nC, hmC, hns⟩ := S0
  refine hng ?_
  have hk2 : ((compEnvC scope cl C env).scope.kind == .class || ((compEnvC scope cl C env).scope.kind == .module && (compEnvC scope cl C env).locals != (compEnvC scope cl C env).globals)) = false := by
    have : (compEnvC scope cl C env).scope.kind = .function := hkind
    rw [this]; rfl
  have ea : ∀ (vals : List (Int × Tok)) (oC oI : Obj), pre ++ ((D, lst (intsL vals)) :: (C, oC) :: (its ++ [(I, oI)])) = (pre ++ ((D, lst (intsL vals)) :: (C, oC) :: its)) ++ [(I, oI)] := fun vals oC oI => by
    rw [List.append_assoc]; rfl
  have hlen : ∀ i, i ≤ n → ((List.range i).flatMap F).length ≤ m * i := by
    intro i
    induction i with
    | zero => intro _; simp
    | succ i ih =>
      intro hi
      have h1 := ih (by lia)
      have h2 := hF i (by lia)
      rw [List.range_succ, List.flatMap_append, List.length_append, List.flatMap_singleton, Nat.mul_succ]
      lia
  rw [ea] at N
  refine compJ2 (s := s) hT rfl rfl (walks_range hh n) (fun i h e => ⟨_, e⟩) hIc
    (fun i obs' => ∃ vals oC mC, obs' = pre ++ ((D, lst (intsL vals)) :: (C, oC) :: its) ∧ NsObj oC mC ∧ (∀ p ∈ vars, mC p.1 = some p.2) ∧ vals.map (·.1) = ns ++ (List.range i).flatMap F) (fun i h h' o hs e e' => by rw [hs] at e; cases e; exact e') N (by simpa using hI)
    ⟨vals, oC, mC, rfl, nC, hmC, by simpa using hns⟩ ?_ ?_
  · intro i v h' tk' oI' _ E' hi hz1 hz2 N'
    refine Classical.byContradiction fun hng => ?_
    obtain ⟨t, rfl⟩ := hz1
    obtain ⟨vals', oC', mC', rfl, nC', hmC', hns'⟩ := hz2
    refine hng ?_
    rw [← ea] at N'
    have hidx : (pre ++ ((D, lst (intsL vals')) :: (C, oC') :: (its ++ [(I, oI')])))[pre.length + 1]? = some ((compEnvC scope cl C env).locals, oC') := by rw [get_app]; rfl
    refine r_store N' _ hidx nC' hx hk2 fun h₂ o₂ tk₂ N₂ n₂ => ?_
    have e2 : (pre ++ ((D, lst (intsL vals')) :: (C, oC') :: (its ++ [(I, oI')]))).set (pre.length + 1) (C, o₂) = pre ++ ((D, lst (intsL vals')) :: (C, o₂) :: (its ++ [(I, oI')])) := by rw [set_app]; rfl
    have N₃ : Now hb ch h₂ (pre ++ ((D, lst (intsL vals')) :: (C, o₂) :: (its ++ [(I, oI')]))) := by rw [← e2]; exact N₂
    have S₃ : CSN hb ch h₂ pre D C (its ++ [(I, oI')]) ((x, .int (i : Nat) t) :: vars) (ns ++ (List.range i).flatMap F) := by
      refine ⟨vals', o₂, _, N₃, n₂, fun p hp => ?_, hns'⟩
      rcases List.mem_cons.mp hp with rfl | hp
      · exact up_self _ _ _
      · exact (up_ne (hv p hp)).trans (hmC' p hp)
    have hb1 : (ns ++ (List.range i).flatMap F).length ≤ B + m * i := by
      have := hlen i (by lia)
      rw [List.length_append]; lia
    have back : ∀ h'' (ns'' : List Int), CSN hb ch h'' pre D C (its ++ [(I, oI')]) ((x, .int (i : Nat) t) :: vars) ns'' → ns'' = ns ++ (List.range (i + 1)).flatMap F →
        ∃ obs'', (∃ vals oC mC, obs'' = pre ++ ((D, lst (intsL vals)) :: (C, oC) :: its) ∧ NsObj oC mC ∧ (∀ p ∈ vars, mC p.1 = some p.2) ∧ vals.map (·.1) = ns ++ (List.range (i + 1)).flatMap F) ∧ Now hb ch h'' (obs'' ++ [(I, oI')]) := by
      intro h'' _ hz3 hz4
      refine Classical.byContradiction fun hng => ?_
      obtain ⟨vals'', oC'', mC'', N'', nC'', hmC'', hns''⟩ := hz3
      obtain rfl := hz4
      refine hng ?_
      exact ⟨_, ⟨vals'', oC'', mC'', rfl, nC'', fun p hp => hmC'' p (.tail _ hp), hns''⟩, by rw [← ea]; exact N''⟩
    have er : (List.range (i + 1)).flatMap F = (List.range i).flatMap F ++ F i := by rw [List.range_succ, List.flatMap_append, List.flatMap_singleton]
    refine wpAny_mono (work i t h₂ tk₂ oI' _ E' hi S₃ hb1) (fun ok s₃ h₃ => ?_) fun _ _ e => e
    cases ok with
    | true =>
      simp only [if_true] at h₃ ⊢
      refine wpAny_mono h₃ (fun fin s₄ h₄ => ?_) fun _ _ e => e
      refine Classical.byContradiction fun hng => ?_
      obtain ⟨e, h'', tk'', rfl, S'⟩ := h₄
      refine hng ?_
      obtain ⟨obs'', j, N''⟩ := back h'' _ S' (by rw [er, List.append_assoc])
      exact ⟨e, h'', tk'', obs'', rfl, j, N''⟩
    | false =>
      simp only [Bool.false_eq_true, if_false] at h₃ ⊢
      refine Classical.byContradiction fun hng => ?_
      obtain ⟨eF, h'', tk'', rfl, S'⟩ := h₃
      refine hng ?_
      obtain ⟨obs'', j, N''⟩ := back h'' _ S' (by rw [er, eF, List.append_nil])
      exact ⟨h'', tk'', obs'', rfl, j, N''⟩
  · intro h' tk' _ hz5 N'
    refine Classical.byContradiction fun hng => ?_
    obtain ⟨vals', oC', mC', rfl, nC', hmC', hns'⟩ := hz5
    refine hng ?_
    exact done h' tk' ⟨vals', oC', mC', N', nC', hmC', hns'⟩
/-- the innermost work: an int is put behind -/
theorem emitI {c : Code} {elt : Expr} {env' : Env} {f : Int} (hl : ns.length ≤ 1000)
    (hq : wpAny (MM w) A (eval elt env') (fun val s₄ => ∃ h'' tk'' t, s₄ = St s h'' tk'' ∧ val = .int f t ∧ CSN hb ch h'' pre D C its vars ns) E (St s h tk)) :
    wpAny (MM w) A ((do let _ ← call (.builtin "list.append") [.ref D, ← eval elt env']) >>= fun _ => again c) (fun fin s₄ => fin = .again c ∧ ∃ h'' tk'', s₄ = St s h'' tk'' ∧ CSN hb ch h'' pre D C its vars (ns ++ [f])) E (St s h tk) := by
  refine wpAny_bind (wpAny_bind (wpAny_mono hq (fun val s₄ h₄ => ?_) fun _ _ e => e))
  refine Classical.byContradiction fun hng => ?_
  obtain ⟨h'', tk'', t, rfl, rfl, vals, oC, mC, N, nC, hmC, hns⟩ := h₄
  refine hng ?_
  have hD : (pre ++ ((D, lst (intsL vals)) :: (C, oC) :: its))[pre.length]? = some (D, lst (intsL vals)) := by rw [get_app0]; rfl
  have hvl : vals.length = ns.length := by rw [← hns, List.length_map]
  refine wpAny_bind (append_at (N.get _ hD) (fun h₅ hs₅ e₅ => ?_) (by rw [sizeLine_eq, List.size_toArray, List.length_map]; lia))
  have e₅' : h₅.get? D = some (lst (intsL (vals ++ [(f, t)]))) := by rw [e₅]; simp [lst]
  have N₅ := N.same _ hD hs₅ e₅'
  rw [set_app0] at N₅
  exact wpAny_pure (wpAny_pure ⟨rfl, h₅, tk'', rfl, vals ++ [(f, t)], oC, mC, N₅, nC, hmC, by rw [List.map_append, hns]; rfl⟩)
theorem CSN.front (S0 : CSN hb ch h pre D C its vars ns) : ∃ oC mC, h.get? C = some oC ∧ NsObj oC mC ∧ ∀ p ∈ vars, mC p.1 = some p.2 := by
  refine Classical.byContradiction fun hng => ?_
  obtain ⟨vals, oC, mC, N, nC, hmC, _⟩ := S0
  refine hng ?_
  exact ⟨oC, mC, N.at_ (C, oC) (by simp), nC, hmC⟩
theorem CSN.get (S0 : CSN hb ch h pre D C its vars ns) {i : Nat} {a : Addr} {o : Obj} (e : pre[i]? = some (a, o)) : h.get? a = some o := by
  refine Classical.byContradiction fun hng => ?_
  obtain ⟨vals, oC, mC, N, _⟩ := S0
  refine hng ?_
  exact N.at_ (a, o) (List.mem_append_left _ (List.mem_of_getElem? e))
theorem CSN.kk (X : (KK w.params).In hb) (hc : ∀ a ∈ ch, Lo a) (S0 : CSN hb ch h pre D C its vars ns) : (KK w.params).In h := by
  refine Classical.byContradiction fun hng => ?_
  obtain ⟨vals, oC, mC, N, _⟩ := S0
  refine hng ?_
  exact kk_keep X N hc
/-- range(e) and its iterator, within a comprehension -/
theorem rangeS {n : Nat} {e : Expr} {env' : Env} {p pos : Pos} {K : Value → Shared → Prop} (X : (KK w.params).In h) (hk : env'.scope.kind = .function) (hx : env'.kindOf (S "range") = some .globalImplicit) (hg : env'.globals = mainGlobals) (hbn : env'.builtins = builtinsNs)
    (S0 : CSN hb ch h pre D C its vars ns) (hn : n ≤ 1000) (he : starEach [e] env' = [(false, eval e env')])
    (ha : ∀ (Q' : Value → Shared → Prop), (∀ t tk', Q' (.int n t) (St s h tk')) → wpAny (MM w) A (eval e env') Q' E (St s h tk))
    (hq : ∀ h' tk' I oI, CSN hb ch h' pre D C (its ++ [(I, oI)]) vars ns → IsRangeIter h' I 0 n 1 → I ∉ ch → K (.ref I) (St s h' tk')) :
    wpAny (MM w) A (eval (.Call (.Name (S "range") p) [e] [] pos) env') (fun xv s₁ => wpAny (MM w) A (pyIter xv) K E s₁) E (St s h tk) := by
  refine Classical.byContradiction fun hng => ?_
  obtain ⟨vals, oC, mC, N, nC, hmC, hns⟩ := S0
  refine hng ?_
  refine r_range X hk hx hg hbn N hn he ha fun h' tk' I oI N' hI hIc => ?_
  refine hq h' tk' I oI ⟨vals, oC, mC, ?_, nC, hmC, hns⟩ hI hIc
  rw [List.append_assoc] at N'
  exact N'
theorem flat_len {F : Nat → List Int} {m : Nat} : ∀ {n : Nat}, (∀ i, i < n → (F i).length ≤ m) → ((List.range n).flatMap F).length ≤ m * n
  | 0, _ => by simp
  | n + 1, h => by
    have h1 := flat_len (n := n) fun i hi => h i (by lia)
    have h2 := h n (by lia)
    rw [List.range_succ, List.flatMap_append, List.length_append, List.flatMap_singleton, Nat.mul_succ]
    lia
theorem r_minL {Q : Value → Shared → Prop} {l : Addr} {vals : List (Int × Tok)} {obs : List (Addr × Obj)} (hh : A.handled = none) (hl : h.IsList l (intsL vals).toArray) (hne : 0 < vals.length) (N : Now hb ch h obs)
    (hq : ∀ h' tk' M t, Now hb ch h' obs → M ∈ vals.map (·.1) → (∀ a ∈ vals.map (·.1), M ≤ a) → Q (.int M t) (St s h' tk')) : wpAny (MM w) A (call (.builtin "min") [.ref l]) Q E (St s h tk) := by
  have e : (intsL vals).toArray = intItems vals.toArray := by unfold intItems intsL; simp
  rw [e] at hl
  refine min_intList (s := St s h tk) hh hl (by simpa using hne) fun v h' tk' hv hk => ?_
  obtain ⟨t, rfl⟩ := intItems_at hv
  obtain ⟨h1, h2⟩ := argBest_lt (numAt vals.toArray) (vals.toArray.size - 1)
  have hsz : vals.toArray.size = vals.length := by simp
  refine hq h' tk' _ t (N.grow hk) ?_ fun a ha => ?_
  · rw [numAt_eq]
    have : (argBest (fun i j => decide (numAt vals.toArray i < numAt vals.toArray j)) (vals.toArray.size - 1)) < (vals.toArray.toList.map (·.1)).length := by
      rw [List.length_map, Array.length_toList]; lia
    rw [List.getD_eq_getElem?_getD, List.getElem?_eq_getElem this]
    exact List.getElem_mem this
  · obtain ⟨j, hj⟩ := List.mem_iff_getElem?.mp ha
    have hjl := (List.getElem?_eq_some_iff.mp hj).1
    rw [List.length_map] at hjl
    have := h2 j (by lia)
    rw [numAt_eq vals.toArray j] at this
    rw [List.getD_eq_getElem?_getD] at this
    have ej : (vals.toArray.toList.map (·.1))[j]? = some a := hj
    rw [ej] at this
    exact this
end
end
section
open PySem PySem.W PySem.W.X PyProof.Rows PySem.Calls PySem.Spec PyProof
open LCg (NsObj lst)
set_option maxHeartbeats 1000000
theorem flat_flat_len {α β γ : Type} {f : α → List β} {g : α → List γ} : ∀ {l : List α}, (∀ x ∈ l, (f x).length = (g x).length) → (l.flatMap f).length = (l.flatMap g).length
  | [], _ => rfl
  | a :: l, h => by rw [List.flatMap_cons, List.flatMap_cons, List.length_append, List.length_append, h a (.head _), flat_flat_len fun x hx => h x (.tail _ hx)]
theorem filter_flat_len {α β γ : Type} {c : α → Bool} {f : α → β} {g : α → γ} : ∀ {l : List α}, (l.flatMap fun x => if c x = true then [g x] else []).length = ((l.filter c).map f).length
  | [] => rfl
  | a :: l => by
    rw [List.flatMap_cons, List.length_append, filter_flat_len (l := l) (c := c) (f := f) (g := g), List.filter_cons]
    split <;> simp <;> lia
section
variable {w : World} {A : Around} {s : Shared} {h : Heap} {tk : Nat} {E : Value → Shared → Prop} {env : Env} {hb : Heap} {ch : List Addr} {pre : List (Addr × Obj)} {Q : Value → Shared → Prop}
/-- [elt for x in range(4) for .. ], a list of ints -/
theorem lc_outer {elt : Expr} {x x1 : Str} {px p1 p pr pos rpos : Pos} {kk : Nat} {iter1 : Expr} {ifs1 : List Expr} {rest : List Comprehension} {scope : Scope} {cl : List (Str × Addr)} (F : Nat → List Int) (m : Nat) (hh : A.handled = none) (X : (KK w.params).In h) (hk : env.scope.kind = .function) (hx : env.kindOf (S "range") = some .globalImplicit) (hg : env.globals = mainGlobals) (hbn : env.builtins = builtinsNs)
    (he : starEach [.Constant (.int ((4 : Nat) : Int)) kk p] env = [(false, eval (.Constant (.int ((4 : Nat) : Int)) kk p) env)])
    (hclos : closureFor scope env = pure cl) (hkind : scope.kind = .function) (hnames : (scope.names.all fun y => !decide (y.2 = .local) || decide (scope.names.lookup y.1 = some .local)) = true) (hs : ∀ x, foldedSetIterable (.Call (.Name (S "range") pr) [.Constant (.int ((4 : Nat) : Int)) kk p] [] rpos) env x = pure x)
    (hcell : (scope.names.all fun y => !decide (y.2 = .cell)) = true) (hxl : ∀ C, (compEnvC scope cl C env).kindOf x = some .local) (N : Now hb ch h pre) (hF : ∀ i, i < 4 → (F i).length ≤ m)
    (work : ∀ C D I oI i t h' tk' ns (E' : Value → Shared → Prop), i < 4 → CSN hb ch h' pre D C [(I, oI)] [(x, .int (i : Nat) t)] ns → ns.length ≤ 0 + m * i →
      wpAny (MM w) A (nestB (.ListComp elt (⟨.Name x px, .Call (.Name (S "range") pr) [.Constant (.int ((4 : Nat) : Int)) kk p] [] rpos, [], 0⟩ :: ⟨.Name x1 p1, iter1, ifs1, 0⟩ :: rest) scope pos) 0 (.ref I) (.ref D) (compEnvC scope cl C env) iter1)
        (fun fin s₄ => fin = .again (.compLoop (.ListComp elt (⟨.Name x px, .Call (.Name (S "range") pr) [.Constant (.int ((4 : Nat) : Int)) kk p] [] rpos, [], 0⟩ :: ⟨.Name x1 p1, iter1, ifs1, 0⟩ :: rest) scope pos) 0 (.ref I) (.ref D) (compEnvC scope cl C env)) ∧
          ∃ h'' tk'', s₄ = St s h'' tk'' ∧ CSN hb ch h'' pre D C [(I, oI)] [(x, .int (i : Nat) t)] (ns ++ F i)) E' (St s h' tk'))
    (done : ∀ h' tk' D vals, Now hb ch h' (pre ++ [(D, lst (intsL vals))]) → vals.map (·.1) = (List.range 4).flatMap F → Q (.ref D) (St s h' tk')) :
    wpAny (MM w) A (eval (.ListComp elt (⟨.Name x px, .Call (.Name (S "range") pr) [.Constant (.int ((4 : Nat) : Int)) kk p] [] rpos, [], 0⟩ :: ⟨.Name x1 p1, iter1, ifs1, 0⟩ :: rest) scope pos) env) Q E (St s h tk) := by
  refine r_lc (cl := cl) hclos hkind hnames hs ?_
  refine r_four (n := 4) X hk hx hg hbn (by decide) he N fun h₁ tk₁ I oI N₁ hI hIc => ?_
  refine lcFront (walks_range hh 4) N₁ (by simpa using hI) hcell hkind fun C D oC h₂ tk₂ hC nC N₂ h0 => ?_
  have S0 : CSN hb ch h₂ pre D C ([] ++ [(I, oI)]) [] [] := ⟨[], oC, _, by rw [List.append_assoc] at N₂; exact N₂, nC, fun p hp => (nomatch hp), rfl⟩
  refine clause (its := []) (vars := []) (ns := []) (n := 4) (x := x) (px := px) (iter := .Call (.Name (S "range") pr) [.Constant (.int ((4 : Nat) : Int)) kk p] [] rpos) (ifs := []) (BB := nestB (.ListComp elt (⟨.Name x px, .Call (.Name (S "range") pr) [.Constant (.int ((4 : Nat) : Int)) kk p] [] rpos, [], 0⟩ :: ⟨.Name x1 p1, iter1, ifs1, 0⟩ :: rest) scope pos) 0 (.ref I) (.ref D) (compEnvC scope cl C env) iter1) F 0 m rfl hkind hh hIc (hxl C) (fun p hp => (nomatch hp)) S0 (by simpa using h0) (by simp) hF ?_ ?_
  · intro i t h' tk' oI' ns' E' hi S' hl
    refine wpAny_tests_nil ?_
    simp only [if_true]
    exact work C D I oI' i t h' tk' ns' E' hi S' hl
  · intro h' tk' S'
    refine Classical.byContradiction fun hng => ?_
    obtain ⟨vals, oC', mC', N', nC', _, hns⟩ := S'
    refine hng ?_
    refine compEnd (obs := pre ++ [(D, lst (intsL vals))]) (by rw [List.append_assoc]; exact N') hC nC' fun h'' N'' => done h'' tk' D vals N'' ?_
    rw [hns]; rfl
end
end
section
open PySem PySem.W PySem.W.X PyProof.Rows PySem.Calls PySem.Spec PyProof
open LCg (NsObj lst)
set_option maxHeartbeats 1000000
noncomputable def gF2 (c2 : Nat → Nat → Nat → Bool) (val : Nat → Nat → Nat → Int) (i j k : Nat) : List Int := if c2 i j k = true then [val i j k] else []
noncomputable def gF1 (c1 : Nat → Nat → Bool) (c2 : Nat → Nat → Nat → Bool) (val : Nat → Nat → Nat → Int) (i j : Nat) : List Int := if c1 i j = true then (List.range 4).flatMap (gF2 c2 val i j) else []
theorem gF2_len {c2 : Nat → Nat → Nat → Bool} {val : Nat → Nat → Nat → Int} (i j : Nat) : ∀ k, k < 4 → (gF2 c2 val i j k).length ≤ 1 := fun k _ => by unfold gF2; split <;> simp
theorem gF1_len {c1 : Nat → Nat → Bool} {c2 : Nat → Nat → Nat → Bool} {val : Nat → Nat → Nat → Int} (i : Nat) : ∀ j, j < 4 → (gF1 c1 c2 val i j).length ≤ 4 := fun j _ => by
  unfold gF1
  split
  · exact flat_len (gF2_len i j)
  · simp
noncomputable abbrev rng4 (pr p rpos : Pos) (kk : Nat) : Expr := .Call (.Name (S "range") pr) [.Constant (.int ((4 : Nat) : Int)) kk p] [] rpos
section
variable {w : World} {A : Around} {s : Shared} {h : Heap} {tk : Nat} {E : Value → Shared → Prop} {env : Env} {hb : Heap} {ch : List Addr} {pre : List (Addr × Obj)} {Q : Value → Shared → Prop}
/-- three clauses over range(4), with tests in the second and the third -/
theorem lc_three {elt t1 t2 : Expr} {x0 x1 x2 : Str} {px0 px1 px2 p0 p1 p2 pr0 pr1 pr2 pos r0 r1 r2 : Pos} {k0 k1 k2 : Nat} {scope : Scope} {cl : List (Str × Addr)} (c1 : Nat → Nat → Bool) (c2 : Nat → Nat → Nat → Bool) (val : Nat → Nat → Nat → Int) (hh : A.handled = none) (Xb : (KK w.params).In hb) (hc : ∀ a ∈ ch, Lo a) (N : Now hb ch h pre)
    (hk : env.scope.kind = .function) (hx : env.kindOf (S "range") = some .globalImplicit) (hg : env.globals = mainGlobals) (hbn : env.builtins = builtinsNs)
    (he : starEach [.Constant (.int ((4 : Nat) : Int)) k0 p0] env = [(false, eval (.Constant (.int ((4 : Nat) : Int)) k0 p0) env)])
    (hclos : closureFor scope env = pure cl) (hkind : scope.kind = .function) (hnames : (scope.names.all fun y => !decide (y.2 = .local) || decide (scope.names.lookup y.1 = some .local)) = true) (hs : ∀ x, foldedSetIterable (rng4 pr0 p0 r0 k0) env x = pure x)
    (hcell : (scope.names.all fun y => !decide (y.2 = .cell)) = true) (hl0 : ∀ C, (compEnvC scope cl C env).kindOf x0 = some .local) (hl1 : ∀ C, (compEnvC scope cl C env).kindOf x1 = some .local) (hl2 : ∀ C, (compEnvC scope cl C env).kindOf x2 = some .local)
    (hxr : ∀ C, (compEnvC scope cl C env).kindOf (S "range") = some .globalImplicit) (h01 : (x0 == x1) = false) (h02 : (x0 == x2) = false) (h12 : (x1 == x2) = false)
    (hs1 : ∀ C x, foldedSetIterable (rng4 pr1 p1 r1 k1) (compEnvC scope cl C env) x = pure x) (hs2 : ∀ C x, foldedSetIterable (rng4 pr2 p2 r2 k2) (compEnvC scope cl C env) x = pure x)
    (he1 : ∀ C, starEach [.Constant (.int ((4 : Nat) : Int)) k1 p1] (compEnvC scope cl C env) = [(false, eval (.Constant (.int ((4 : Nat) : Int)) k1 p1) (compEnvC scope cl C env))]) (he2 : ∀ C, starEach [.Constant (.int ((4 : Nat) : Int)) k2 p2] (compEnvC scope cl C env) = [(false, eval (.Constant (.int ((4 : Nat) : Int)) k2 p2) (compEnvC scope cl C env))])
    (test1 : ∀ C D its ns i j ti tj h' tk' (Q' : Bool → Shared → Prop) (E' : Value → Shared → Prop), i < 4 → j < 4 → CSN hb ch h' pre D C its [(x1, .int (j : Nat) tj), (x0, .int (i : Nat) ti)] ns → (∀ tk'', Q' (c1 i j) (St s h' tk'')) →
      wpAny (MM w) A (isTrue t1 (compEnvC scope cl C env) (eval t1 (compEnvC scope cl C env))) Q' E' (St s h' tk'))
    (test2 : ∀ C D its ns i j k ti tj t h' tk' (Q' : Bool → Shared → Prop) (E' : Value → Shared → Prop), i < 4 → j < 4 → k < 4 → CSN hb ch h' pre D C its [(x2, .int (k : Nat) t), (x1, .int (j : Nat) tj), (x0, .int (i : Nat) ti)] ns → (∀ tk'', Q' (c2 i j k) (St s h' tk'')) →
      wpAny (MM w) A (isTrue t2 (compEnvC scope cl C env) (eval t2 (compEnvC scope cl C env))) Q' E' (St s h' tk'))
    (helt : ∀ C D its ns i j k ti tj t h' tk' (Q' : Value → Shared → Prop) (E' : Value → Shared → Prop), i < 4 → j < 4 → k < 4 → c1 i j = true → c2 i j k = true → CSN hb ch h' pre D C its [(x2, .int (k : Nat) t), (x1, .int (j : Nat) tj), (x0, .int (i : Nat) ti)] ns → (∀ tk'' u, Q' (.int (val i j k) u) (St s h' tk'')) →
      wpAny (MM w) A (eval elt (compEnvC scope cl C env)) Q' E' (St s h' tk'))
    (done : ∀ h' tk' D vals, Now hb ch h' (pre ++ [(D, lst (intsL vals))]) → vals.map (·.1) = ((List.range 4).flatMap fun i => (List.range 4).flatMap (gF1 c1 c2 val i)) → Q (.ref D) (St s h' tk')) :
    wpAny (MM w) A (eval (.ListComp elt [⟨.Name x0 px0, rng4 pr0 p0 r0 k0, [], 0⟩, ⟨.Name x1 px1, rng4 pr1 p1 r1 k1, [t1], 0⟩, ⟨.Name x2 px2, rng4 pr2 p2 r2 k2, [t2], 0⟩] scope pos) env) Q E (St s h tk) := by
  refine lc_outer (fun i => (List.range 4).flatMap (gF1 c1 c2 val i)) 16 hh (kk_keep Xb N hc) hk hx hg hbn he hclos hkind hnames hs hcell hl0 N (fun i _ => flat_len (gF1_len i)) ?_ done
  intro C D I oI i ti h₁ tk₁ ns₁ E₁ hi S₁ hl₁
  refine r_nest (P := fun s₄ => ∃ h'' tk'', s₄ = St s h'' tk'' ∧ CSN hb ch h'' pre D C [(I, oI)] [(x0, .int (i : Nat) ti)] (ns₁ ++ (List.range 4).flatMap (gF1 c1 c2 val i))) rfl (hs1 C) ?_
  refine rangeS (n := 4) (S₁.kk Xb hc) hkind (hxr C) hg hbn S₁ (by decide) (he1 C) (fun Q' hq' => r_int (s := s) fun t tk' => hq' t tk') fun h₂ tk₂ I₁ oI₁ S₂ hI₁ hIc₁ => ?_
  refine ⟨I₁, _, _, 4, _, _, rfl, walks_range hh 4, by simpa using hI₁, fun R hR => ?_⟩
  refine clause (its := [(I, oI)]) (x := x1) (px := px1) (iter := rng4 pr1 p1 r1 k1) (ifs := [t1]) (n := 4) (BB := nestB (.ListComp elt [⟨.Name x0 px0, rng4 pr0 p0 r0 k0, [], 0⟩, ⟨.Name x1 px1, rng4 pr1 p1 r1 k1, [t1], 0⟩, ⟨.Name x2 px2, rng4 pr2 p2 r2 k2, [t2], 0⟩] scope pos) 1 (.ref I₁) (.ref D) (compEnvC scope cl C env) (rng4 pr2 p2 r2 k2))
    (gF1 c1 c2 val i) 48 4 rfl hkind hh hIc₁ (hl1 C) (fun p hp => by rw [List.mem_singleton.mp hp]; exact h01) S₂ hI₁ (by lia) (gF1_len i) ?_ fun h' tk' S' => hR _ ⟨h', tk', rfl, S'⟩
  intro j tj h₃ tk₃ oI₃ ns₃ E₃ hj S₃ hl₃
  refine wpAny_tests_one ?_
  refine test1 C D _ _ i j ti tj h₃ tk₃ _ _ hi hj S₃ fun tk₄ => ?_
  cases q1 : c1 i j with
  | false =>
    rw [if_neg (by decide)]
    refine ⟨?_, h₃, tk₄, rfl, S₃⟩
    unfold gF1
    rw [q1, if_neg (by decide)]
  | true =>
    rw [if_pos rfl]
    have e1 : gF1 c1 c2 val i j = (List.range 4).flatMap (gF2 c2 val i j) := if_pos q1
    rw [e1]
    refine r_nest (P := fun s₄ => ∃ h'' tk'', s₄ = St s h'' tk'' ∧ CSN hb ch h'' pre D C [(I, oI), (I₁, oI₃)] [(x1, .int (j : Nat) tj), (x0, .int (i : Nat) ti)] (ns₃ ++ (List.range 4).flatMap (gF2 c2 val i j))) rfl (hs2 C) ?_
    refine rangeS (n := 4) (S₃.kk Xb hc) hkind (hxr C) hg hbn S₃ (by decide) (he2 C) (fun Q' hq' => r_int (s := s) fun t tk' => hq' t tk') fun h₅ tk₅ I₂ oI₂ S₅ hI₂ hIc₂ => ?_
    refine ⟨I₂, _, _, 4, _, _, rfl, walks_range hh 4, by simpa using hI₂, fun R hR => ?_⟩
    refine clause (its := [(I, oI), (I₁, oI₃)]) (x := x2) (px := px2) (iter := rng4 pr2 p2 r2 k2) (ifs := [t2]) (n := 4) (BB := (do let _ ← call (.builtin "list.append") [.ref D, ← eval elt (compEnvC scope cl C env)]) >>= fun _ => again (.compLoop (.ListComp elt [⟨.Name x0 px0, rng4 pr0 p0 r0 k0, [], 0⟩, ⟨.Name x1 px1, rng4 pr1 p1 r1 k1, [t1], 0⟩, ⟨.Name x2 px2, rng4 pr2 p2 r2 k2, [t2], 0⟩] scope pos) 2 (.ref I₂) (.ref D) (compEnvC scope cl C env)))
      (gF2 c2 val i j) 60 1 rfl hkind hh hIc₂ (hl2 C) (fun p hp => by
        simp only [List.mem_cons, List.not_mem_nil, or_false] at hp
        rcases hp with rfl | rfl
        · exact h12
        · exact h02) S₅ hI₂ (by lia) (gF2_len i j) ?_ fun h' tk' S' => hR _ ⟨h', tk', rfl, S'⟩
    intro k t h₆ tk₆ oI₆ ns₆ E₆ hk4 S₆ hl₆
    refine wpAny_tests_one ?_
    refine test2 C D _ _ i j k ti tj t h₆ tk₆ _ _ hi hj hk4 S₆ fun tk₇ => ?_
    cases q2 : c2 i j k with
    | false =>
      rw [if_neg (by decide)]
      refine ⟨?_, h₆, tk₇, rfl, S₆⟩
      unfold gF2
      rw [q2, if_neg (by decide)]
    | true =>
      rw [if_pos rfl]
      have e2 : gF2 c2 val i j k = [val i j k] := if_pos q2
      rw [e2]
      refine emitI (f := val i j k) (by lia) ?_
      exact helt C D _ _ i j k ti tj t h₆ tk₇ _ _ hi hj hk4 q1 q2 S₆ fun tk₈ u => ⟨h₆, tk₈, u, rfl, rfl, S₆⟩
noncomputable def hF1 (c1 : Nat → Nat → Bool) (val : Nat → Nat → Int) (i j : Nat) : List Int := if c1 i j = true then [val i j] else []
theorem hF1_len {c1 : Nat → Nat → Bool} {val : Nat → Nat → Int} (i n : Nat) : ∀ j, j < n → (hF1 c1 val i j).length ≤ 1 := fun j _ => by unfold hF1; split <;> simp
/-- two clauses, the second over range(x0), with a test -/
theorem lc_two {elt t1 : Expr} {x0 x1 : Str} {px0 px1 p0 p1 pr0 pr1 pos r0 r1 : Pos} {k0 : Nat} {scope : Scope} {cl : List (Str × Addr)} (c1 : Nat → Nat → Bool) (val : Nat → Nat → Int) (hh : A.handled = none) (Xb : (KK w.params).In hb) (hc : ∀ a ∈ ch, Lo a) (N : Now hb ch h pre)
    (hk : env.scope.kind = .function) (hx : env.kindOf (S "range") = some .globalImplicit) (hg : env.globals = mainGlobals) (hbn : env.builtins = builtinsNs)
    (he : starEach [.Constant (.int ((4 : Nat) : Int)) k0 p0] env = [(false, eval (.Constant (.int ((4 : Nat) : Int)) k0 p0) env)])
    (hclos : closureFor scope env = pure cl) (hkind : scope.kind = .function) (hnames : (scope.names.all fun y => !decide (y.2 = .local) || decide (scope.names.lookup y.1 = some .local)) = true) (hs : ∀ x, foldedSetIterable (rng4 pr0 p0 r0 k0) env x = pure x)
    (hcell : (scope.names.all fun y => !decide (y.2 = .cell)) = true) (hl0 : ∀ C, (compEnvC scope cl C env).kindOf x0 = some .local) (hl1 : ∀ C, (compEnvC scope cl C env).kindOf x1 = some .local)
    (hxr : ∀ C, (compEnvC scope cl C env).kindOf (S "range") = some .globalImplicit) (h01 : (x0 == x1) = false) (hd0 : (x0 == ("__debug__" : Str)) = false)
    (hs1 : ∀ C x, foldedSetIterable (.Call (.Name (S "range") pr1) [.Name x0 p1] [] r1) (compEnvC scope cl C env) x = pure x)
    (he1 : ∀ C, starEach [.Name x0 p1] (compEnvC scope cl C env) = [(false, eval (.Name x0 p1) (compEnvC scope cl C env))])
    (test1 : ∀ C D its ns i j ti tj h' tk' (Q' : Bool → Shared → Prop) (E' : Value → Shared → Prop), i < 4 → j < 4 → CSN hb ch h' pre D C its [(x1, .int (j : Nat) tj), (x0, .int (i : Nat) ti)] ns → (∀ tk'', Q' (c1 i j) (St s h' tk'')) →
      wpAny (MM w) A (isTrue t1 (compEnvC scope cl C env) (eval t1 (compEnvC scope cl C env))) Q' E' (St s h' tk'))
    (helt : ∀ C D its ns i j ti tj h' tk' (Q' : Value → Shared → Prop) (E' : Value → Shared → Prop), i < 4 → j < 4 → c1 i j = true → CSN hb ch h' pre D C its [(x1, .int (j : Nat) tj), (x0, .int (i : Nat) ti)] ns → (∀ tk'' u, Q' (.int (val i j) u) (St s h' tk'')) →
      wpAny (MM w) A (eval elt (compEnvC scope cl C env)) Q' E' (St s h' tk'))
    (done : ∀ h' tk' D vals, Now hb ch h' (pre ++ [(D, lst (intsL vals))]) → vals.map (·.1) = ((List.range 4).flatMap fun i => (List.range i).flatMap (hF1 c1 val i)) → Q (.ref D) (St s h' tk')) :
    wpAny (MM w) A (eval (.ListComp elt [⟨.Name x0 px0, rng4 pr0 p0 r0 k0, [], 0⟩, ⟨.Name x1 px1, .Call (.Name (S "range") pr1) [.Name x0 p1] [] r1, [t1], 0⟩] scope pos) env) Q E (St s h tk) := by
  refine lc_outer (fun i => (List.range i).flatMap (hF1 c1 val i)) 4 hh (kk_keep Xb N hc) hk hx hg hbn he hclos hkind hnames hs hcell hl0 N (fun i hi => by have := flat_len (hF1_len (c1 := c1) (val := val) i i); lia) ?_ done
  intro C D I oI i ti h₁ tk₁ ns₁ E₁ hi S₁ hl₁
  refine r_nest (P := fun s₄ => ∃ h'' tk'', s₄ = St s h'' tk'' ∧ CSN hb ch h'' pre D C [(I, oI)] [(x0, .int (i : Nat) ti)] (ns₁ ++ (List.range i).flatMap (hF1 c1 val i))) rfl (hs1 C) ?_
  refine Classical.byContradiction fun hng => ?_
  obtain ⟨oC, mC, eC, nC, hmC⟩ := S₁.front
  refine hng ?_
  refine rangeS (n := i) (S₁.kk Xb hc) hkind (hxr C) hg hbn S₁ (by lia) (he1 C) (fun Q' hq' => r_name (s := s) eC nC (hmC (x0, _) (by simp)) hkind (hl0 C) (hq' ti _) hd0) fun h₂ tk₂ I₁ oI₁ S₂ hI₁ hIc₁ => ?_
  refine ⟨I₁, _, _, i, _, _, rfl, walks_range hh i, by simpa using hI₁, fun R hR => ?_⟩
  refine clause (its := [(I, oI)]) (x := x1) (px := px1) (iter := .Call (.Name (S "range") pr1) [.Name x0 p1] [] r1) (ifs := [t1]) (n := i) (BB := (do let _ ← call (.builtin "list.append") [.ref D, ← eval elt (compEnvC scope cl C env)]) >>= fun _ => again (.compLoop (.ListComp elt [⟨.Name x0 px0, rng4 pr0 p0 r0 k0, [], 0⟩, ⟨.Name x1 px1, .Call (.Name (S "range") pr1) [.Name x0 p1] [] r1, [t1], 0⟩] scope pos) 1 (.ref I₁) (.ref D) (compEnvC scope cl C env)))
    (hF1 c1 val i) 48 1 rfl hkind hh hIc₁ (hl1 C) (fun p hp => by rw [List.mem_singleton.mp hp]; exact h01) S₂ hI₁ (by lia) (hF1_len i i) ?_ fun h' tk' S' => hR _ ⟨h', tk', rfl, S'⟩
  intro j tj h₃ tk₃ oI₃ ns₃ E₃ hj S₃ hl₃
  refine wpAny_tests_one ?_
  refine test1 C D _ _ i j ti tj h₃ tk₃ _ _ hi (by lia) S₃ fun tk₄ => ?_
  cases q1 : c1 i j with
  | false =>
    rw [if_neg (by decide)]
    refine ⟨?_, h₃, tk₄, rfl, S₃⟩
    unfold hF1
    rw [q1, if_neg (by decide)]
  | true =>
    rw [if_pos rfl]
    have e1 : hF1 c1 val i j = [val i j] := if_pos q1
    rw [e1]
    refine emitI (f := val i j) (by lia) ?_
    exact helt C D _ _ i j ti tj h₃ tk₄ _ _ hi (by lia) q1 S₃ fun tk₅ u => ⟨h₃, tk₅, u, rfl, rfl, S₃⟩
end
end
section
open PySem PySem.W PySem.W.X PyProof.Rows PySem.Calls PySem.Spec PyProof
open LCg (NsObj lst)
set_option maxHeartbeats 1000000
noncomputable def lV (p : Nat → Nat) (i j k : Nat) : Int := 4 * ((p i : Nat) : Int) + 3 * ((p j : Nat) : Int) + 2 * ((p k : Nat) : Int) + ((p (6 - i - j - k) : Nat) : Int)
noncomputable abbrev lC1 (i j : Nat) : Bool := i != j
noncomputable abbrev lC2 (i j k : Nat) : Bool := k != i && k != j
theorem leastI_eq (p : Nat → Nat) : leastI p = (List.range 4).flatMap fun i => (List.range 4).flatMap (gF1 lC1 lC2 (lV p) i) := by kernel_rfl
noncomputable abbrev pC (p : Nat → Nat) (i j : Nat) : Bool := Nat.ble (p j) (p i)
theorem pairs_len (p : Nat → Nat) : ((List.range 4).flatMap fun i => (List.range i).flatMap (hF1 (pC p) (fun _ _ => 1) i)).length = (pairsN p).length := by
  unfold pairsN
  refine flat_flat_len fun i _ => ?_
  exact filter_flat_len (c := fun j => Nat.ble (p j) (p i)) (g := fun _ => (1 : Int))
theorem bne_cast {i j : Nat} : (((i : Nat) : Int) != ((j : Nat) : Int)) = (i != j) := by
  rw [Bool.eq_iff_iff]; simp only [bne_iff_ne, ne_eq]; lia
section
variable {w : World} {A : Around} {s : Shared} {E : Value → Shared → Prop} {Q : Flow → Shared → Prop} {hb h : Heap} {tk : Nat} {L : Addr} {oL : Obj} {m : Str → Option Value}
theorem law9a (X : (KK w.params).In hb) (hh : A.handled = none) {vs : Value} {v6 v9 : Option Value} {c : Nat → Int} {tc tn tp tw : Nat → Tok} {ca na pa ds dp wa : Addr} {ods odp t1 t2 od opl oq : Obj} {l : Lx} {r : List (Addr × Obj)}
    (N : Now hb [141, 179] h (lawAll L oL vs v6 v9 l c tc tn tp tw ca na pa ds dp wa ods odp t1 t2 od opl oq ++ r)) (nL : NsObj oL m)
    (hq : ∀ h' tk' oL' m' M t, Now hb [141, 179] h' (lawAll L oL' vs v6 v9 l c tc tn tp tw ca na pa ds dp wa ods odp t1 t2 od opl oq ++ r) → NsObj oL' m' → m' (S "least") = some (.int M t) → M ∈ leastI (szN c) → (∀ a ∈ leastI (szN c), M ≤ a) → (∀ x, x ≠ S "least" → m' x = m x) →
      wpAny (MM w) A (execs (bLaw.drop 19) (eW w L)) Q E (St s h' tk')) :
    wpAny (MM w) A (execs (bLaw.drop 18) (eW w L)) Q E (St s h tk) := by
  let R46 : List (Addr × Obj) := lawAll L oL vs v6 v9 l c tc tn tp tw ca na pa ds dp wa ods odp t1 t2 od opl oq ++ r
  replace N : Now hb [141, 179] h R46 := N
  have hlo : ∀ a ∈ [141, 179], Lo a := fun a ha => by
    rcases List.mem_cons.mp ha with rfl | ha
    · exact lo_table1
    · rcases List.mem_singleton.mp ha with rfl; exact lo_table2
  have XN : ∀ {h' : Heap} {obs : List (Addr × Obj)}, Now hb [141, 179] h' obs → (KK w.params).In h' := fun N' => kk_keep X N' hlo
  conv => arg 3; arg 1; whnf
  with_reducible refine x_assign ?_ (by kernel_rfl)
  refine r_callB (s := s) (id := "min") (XN N) (by kernel_rfl) (by kernel_rfl) (by kernel_rfl) (by kernel_rfl) (by kernel_rfl) (by kernel_rfl) (by kernel_rfl) (by kernel_rfl) ?_ (by kernel_rfl)
  with_reducible refine args_cons ?_ (by kernel_rfl)
  refine lc_three (s := s) (cl := [(S "parts", L + 8)]) lC1 lC2 (lV (szN c)) hh X hlo N (by kernel_rfl) (by kernel_rfl) (by kernel_rfl) (by kernel_rfl) (by kernel_rfl) (by kernel_rfl) (by kernel_rfl) (by kernel_rfl) (by intro _; kernel_rfl) (by kernel_rfl) (by intro _; kernel_rfl) (by intro _; kernel_rfl) (by intro _; kernel_rfl) (by intro _; kernel_rfl) (by kernel_rfl) (by kernel_rfl) (by kernel_rfl)
    (by intro _ _; kernel_rfl) (by intro _ _; kernel_rfl) (by intro _; kernel_rfl) (by intro _; kernel_rfl) ?_ ?_ ?_ fun h₁ tk₁ D vals N₁ hv => ?_
  · intro C D its ns i j ti tj h' tk' Q' E' hi hj S' hq'
    refine Classical.byContradiction fun hng => ?_
    obtain ⟨oC, mC, eC, nC, hm⟩ := S'.front
    refine hng ?_
    have mi := hm (S "i", .int (i : Nat) ti) (by simp)
    have mj := hm (S "j", .int (j : Nat) tj) (by simp)
    refine wpAny_isTrue_Compare1 ?_ (by kernel_rfl)
    refine r_name (s := s) eC nC mi (by kernel_rfl) (by kernel_rfl) ?_ (by kernel_rfl)
    refine r_name (s := s) eC nC mj (by kernel_rfl) (by kernel_rfl) ?_ (by kernel_rfl)
    refine PyProof.Rows.ne_int ?_
    refine wpAny_truthy_bool ?_
    rw [bne_cast]
    exact hq' _
  · intro C D its ns i j k ti tj t h' tk' Q' E' hi hj hk S' hq'
    refine Classical.byContradiction fun hng => ?_
    obtain ⟨oC, mC, eC, nC, hm⟩ := S'.front
    refine hng ?_
    have mi := hm (S "i", .int (i : Nat) ti) (by simp)
    have mj := hm (S "j", .int (j : Nat) tj) (by simp)
    have mk := hm (S "k", .int (k : Nat) t) (by simp)
    refine isTrue_and ?_
    refine wpAny_isTrue_Compare1 ?_ (by kernel_rfl)
    refine r_name (s := s) eC nC mk (by kernel_rfl) (by kernel_rfl) ?_ (by kernel_rfl)
    refine r_name (s := s) eC nC mi (by kernel_rfl) (by kernel_rfl) ?_ (by kernel_rfl)
    refine PyProof.Rows.ne_int ?_
    refine wpAny_truthy_bool ?_
    rw [bne_cast]
    have hq2 := hq'
    unfold lC2 at hq2
    cases q1 : (k != i) with
    | false =>
      rw [if_neg (by decide)]
      rw [q1, Bool.false_and] at hq2
      exact hq2 _
    | true =>
      rw [if_pos rfl]
      rw [q1, Bool.true_and] at hq2
      refine isTrue_and ?_
      refine wpAny_isTrue_Compare1 ?_ (by kernel_rfl)
      refine r_name (s := s) eC nC mk (by kernel_rfl) (by kernel_rfl) ?_ (by kernel_rfl)
      refine r_name (s := s) eC nC mj (by kernel_rfl) (by kernel_rfl) ?_ (by kernel_rfl)
      refine PyProof.Rows.ne_int ?_
      refine wpAny_truthy_bool ?_
      rw [bne_cast]
      cases q2 : (k != j) with
      | false =>
        rw [if_neg (by decide)]
        rw [q2] at hq2
        exact hq2 _
      | true =>
        rw [if_pos rfl]
        rw [q2] at hq2
        exact isTrue_and_nil (hq2 _)
  · intro C D its ns i j k ti tj t h' tk' Q' E' hi hj hk q1 q2 S' hq'
    refine Classical.byContradiction fun hng => ?_
    obtain ⟨oC, mC, eC, nC, hm⟩ := S'.front
    refine hng ?_
    have mi := hm (S "i", .int (i : Nat) ti) (by simp)
    have mj := hm (S "j", .int (j : Nat) tj) (by simp)
    have mk := hm (S "k", .int (k : Nat) t) (by simp)
    have e8 := S'.get (i := 8) rfl
    have e12 := S'.get (i := 12) rfl
    simp only [lC1, lC2, bne_iff_ne, ne_eq, Bool.and_eq_true] at q1 q2
    have szb : ∀ x, IntMulOk 4 ((szN c x : Nat) : Int) ∧ IntMulOk 3 ((szN c x : Nat) : Int) ∧ IntMulOk 2 ((szN c x : Nat) : Int) := fun x => by
      have := szN_bd c x
      exact ⟨mulOk_small (by lia) (by lia), mulOk_small (by lia) (by lia), mulOk_small (by lia) (by lia)⟩
    with_reducible refine wpAny_BinOp ?_
    with_reducible refine wpAny_BinOp ?_
    with_reducible refine wpAny_BinOp ?_
    with_reducible refine wpAny_BinOp ?_
    refine r_int (s := s) fun u1 tk1 => ?_
    with_reducible refine Subscript_ ?_
    refine r_cell (s := s) (c := L + 8) (v := .ref pa) (by kernel_rfl) (by kernel_rfl) (by kernel_rfl) e8 ?_ (by kernel_rfl)
    refine r_name (s := s) eC nC mi (by kernel_rfl) (by kernel_rfl) ?_ (by kernel_rfl)
    refine r_itemL (s := s) (items := ((List.range 4).map fun k => Value.int (szN c k : Nat) (tp k)).toArray) ⟨_, e12, rfl, _, rfl⟩ (by lia) (get_funA hi) ?_ (by kernel_rfl) (by intro _; kernel_rfl)
    refine r_mul (s := s) (szb i).1 fun u2 tk2 => ?_
    with_reducible refine wpAny_BinOp ?_
    refine r_int (s := s) fun u3 tk3 => ?_
    with_reducible refine Subscript_ ?_
    refine r_cell (s := s) (c := L + 8) (v := .ref pa) (by kernel_rfl) (by kernel_rfl) (by kernel_rfl) e8 ?_ (by kernel_rfl)
    refine r_name (s := s) eC nC mj (by kernel_rfl) (by kernel_rfl) ?_ (by kernel_rfl)
    refine r_itemL (s := s) (items := ((List.range 4).map fun k => Value.int (szN c k : Nat) (tp k)).toArray) ⟨_, e12, rfl, _, rfl⟩ (by lia) (get_funA hj) ?_ (by kernel_rfl) (by intro _; kernel_rfl)
    refine r_mul (s := s) (szb j).2.1 fun u4 tk4 => ?_
    refine r_add (s := s) fun u5 tk5 => ?_
    with_reducible refine wpAny_BinOp ?_
    refine r_int (s := s) fun u6 tk6 => ?_
    with_reducible refine Subscript_ ?_
    refine r_cell (s := s) (c := L + 8) (v := .ref pa) (by kernel_rfl) (by kernel_rfl) (by kernel_rfl) e8 ?_ (by kernel_rfl)
    refine r_name (s := s) eC nC mk (by kernel_rfl) (by kernel_rfl) ?_ (by kernel_rfl)
    refine r_itemL (s := s) (items := ((List.range 4).map fun k => Value.int (szN c k : Nat) (tp k)).toArray) ⟨_, e12, rfl, _, rfl⟩ (by lia) (get_funA hk) ?_ (by kernel_rfl) (by intro _; kernel_rfl)
    refine r_mul (s := s) (szb k).2.2 fun u7 tk7 => ?_
    refine r_add (s := s) fun u8 tk8 => ?_
    with_reducible refine Subscript_ ?_
    refine r_cell (s := s) (c := L + 8) (v := .ref pa) (by kernel_rfl) (by kernel_rfl) (by kernel_rfl) e8 ?_ (by kernel_rfl)
    with_reducible refine wpAny_BinOp ?_
    with_reducible refine wpAny_BinOp ?_
    with_reducible refine wpAny_BinOp ?_
    refine r_int (s := s) fun u9 tk9 => ?_
    refine r_name (s := s) eC nC mi (by kernel_rfl) (by kernel_rfl) ?_ (by kernel_rfl)
    refine r_sub (s := s) fun u10 tk10 => ?_
    refine r_name (s := s) eC nC mj (by kernel_rfl) (by kernel_rfl) ?_ (by kernel_rfl)
    refine r_sub (s := s) fun u11 tk11 => ?_
    refine r_name (s := s) eC nC mk (by kernel_rfl) (by kernel_rfl) ?_ (by kernel_rfl)
    refine r_sub (s := s) fun u12 tk12 => ?_
    have ei : (6 : Int) - ((i : Nat) : Int) - ((j : Nat) : Int) - ((k : Nat) : Int) = ((6 - i - j - k : Nat) : Int) := by lia
    rw [ei]
    refine r_itemL (s := s) (items := ((List.range 4).map fun k => Value.int (szN c k : Nat) (tp k)).toArray) ⟨_, e12, rfl, _, rfl⟩ (by lia) (get_funA (i := 6 - i - j - k) (by lia)) ?_ (by kernel_rfl) (by intro _; kernel_rfl)
    refine r_add (s := s) fun u13 tk13 => ?_
    exact hq' _ _
  · rw [← leastI_eq] at hv
    refine args_nil ?_
    refine r_minL (s := s) hh ⟨_, N₁.at_ (D, lst (intsL vals)) (by simp), rfl, _, rfl⟩ ?_ N₁ fun h₂ tk₂ M t N₂ hM1 hM2 => ?_
    · have e24 : (leastI (szN c)).length = 24 := by kernel_rfl
      have : vals.length = 24 := by rw [← e24, ← hv, List.length_map]
      lia
    rw [hv] at hM1 hM2
    refine r_store (env := eW w L) (s := s) N₂.drop 0 rfl nL (by kernel_rfl) (by kernel_rfl) fun h₃ o₃ tk₃ N₃ n₃ => ?_
    exact hq h₃ tk₃ o₃ _ M t N₃ n₃ (up_self _ _ _) hM1 hM2 fun x hx => up_ne (by simpa using hx)
end
end
section
open PySem PySem.W PySem.W.X PyProof.Rows PySem.Calls PySem.Spec PyProof
open LCg (NsObj lst)
set_option maxHeartbeats 1000000
theorem least_bd (c : Nat → Int) : ∀ a ∈ leastI (szN c), 0 ≤ a ∧ a ≤ 50 := by
  intro a ha
  unfold leastI at ha
  obtain ⟨i, _, ha⟩ := List.mem_flatMap.mp ha
  obtain ⟨j, _, ha⟩ := List.mem_flatMap.mp ha
  obtain ⟨k, _, rfl⟩ := List.mem_map.mp ha
  have h1 := szN_bd c i
  have h2 := szN_bd c j
  have h3 := szN_bd c k
  have h4 := szN_bd c (6 - i - j - k)
  lia
section
variable {w : World} {A : Around} {s : Shared} {E : Value → Shared → Prop} {Q : Flow → Shared → Prop} {hb h : Heap} {tk : Nat} {L : Addr} {oL : Obj} {m : Str → Option Value}
/-- the law's last lines -/
theorem law9 (X : (KK w.params).In hb) (hh : A.handled = none) {vs : Value} {v6 : Option Value} {c : Nat → Int} {tc tn tp tw tu : Nat → Tok} {ca na pa ds dp wa lo li oo oi su : Addr} {ods odp t1 t2 od opl oq : Obj} {T : Int} {tv : Tok} {l : Lx} {ns : Nat}
    (N : Now hb [141, 179] h (lawAll L oL vs v6 (some (.int (wayOf T) tv)) l c tc tn tp tw ca na pa ds dp wa ods odp t1 t2 od opl oq ++ lawTail c T tn na lo li oo oi su (listObj (sumsN c T 3 tu).toArray ns))) (nL : NsObj oL m) (m5 : m (S "sums") = some (.ref su))
    (hq : ∀ h' tk' obs, Now hb [141, 179] h' obs → h'.get? 141 = some t1 → h'.get? 179 = some t2 → Q (.ret (.bool true)) (St s h' tk')) :
    wpAny (MM w) A (execs (bLaw.drop 18) (eW w L)) Q E (St s h tk) := by
  let R58 : List (Addr × Obj) := lawAll L oL vs v6 (some (.int (wayOf T) tv)) l c tc tn tp tw ca na pa ds dp wa ods odp t1 t2 od opl oq ++ lawTail c T tn na lo li oo oi su (listObj (sumsN c T 3 tu).toArray ns)
  replace N : Now hb [141, 179] h R58 := N
  have hlo : ∀ a ∈ [141, 179], Lo a := fun a ha => by
    rcases List.mem_cons.mp ha with rfl | ha
    · exact lo_table1
    · rcases List.mem_singleton.mp ha with rfl; exact lo_table2
  have XN : ∀ {h' : Heap} {obs : List (Addr × Obj)}, Now hb [141, 179] h' obs → (KK w.params).In h' := fun N' => kk_keep X N' hlo
  obtain ⟨pu1, pu2, pu3⟩ := law_pure c T
  have hM50 := least_bd c _ pu1
  with_reducible refine law9a (s := s) (w := w) (L := L) (c := c) X hh N nL fun h₁ tk₁ o₁ m' M tM N₁ n₁ q1 hM1 hM2 q2 => ?_
  have eM : M = hourN c T 2 := by
    have h1 := hM2 _ pu1
    have h2 := pu2 _ hM1
    lia
  subst eM
  have m5' : m' (S "sums") = some (.ref su) := (q2 _ (sne (by kernel_rfl))).trans m5
  conv => arg 3; arg 1; whnf
  with_reducible refine x_assign ?_ (by kernel_rfl)
  refine r_callB (s := s) (id := "len") (XN N₁) (by kernel_rfl) (by kernel_rfl) (by kernel_rfl) (by kernel_rfl) (by kernel_rfl) (by kernel_rfl) (by kernel_rfl) (by kernel_rfl) ?_ (by kernel_rfl)
  with_reducible refine args_cons ?_ (by kernel_rfl)
  refine lc_two (s := s) (cl := [(S "parts", L + 8)]) (pC (szN c)) (fun _ _ => 1) hh X hlo N₁ (by kernel_rfl) (by kernel_rfl) (by kernel_rfl) (by kernel_rfl) (by kernel_rfl) (by kernel_rfl) (by kernel_rfl) (by kernel_rfl) (by intro _; kernel_rfl) (by kernel_rfl) (by intro _; kernel_rfl) (by intro _; kernel_rfl) (by intro _; kernel_rfl) (by kernel_rfl) (by kernel_rfl)
    (by intro _ _; kernel_rfl) (by intro _; kernel_rfl) ?_ ?_ fun h₂ tk₂ D vals N₂ hv => ?_
  · intro C D its ns i j ti tj h' tk' Q' E' hi hj S' hq'
    refine Classical.byContradiction fun hng => ?_
    obtain ⟨oC, mC, eC, nC, hm⟩ := S'.front
    refine hng ?_
    have mi := hm (S "i", .int (i : Nat) ti) (by simp)
    have mj := hm (S "j", .int (j : Nat) tj) (by simp)
    have e8 := S'.get (i := 8) rfl
    have e12 := S'.get (i := 12) rfl
    refine wpAny_isTrue_Compare1 ?_ (by kernel_rfl)
    with_reducible refine Subscript_ ?_
    refine r_cell (s := s) (c := L + 8) (v := .ref pa) (by kernel_rfl) (by kernel_rfl) (by kernel_rfl) e8 ?_ (by kernel_rfl)
    refine r_name (s := s) eC nC mj (by kernel_rfl) (by kernel_rfl) ?_ (by kernel_rfl)
    refine r_itemL (s := s) (items := ((List.range 4).map fun k => Value.int (szN c k : Nat) (tp k)).toArray) ⟨_, e12, rfl, _, rfl⟩ (by lia) (get_funA hj) ?_ (by kernel_rfl) (by intro _; kernel_rfl)
    with_reducible refine Subscript_ ?_
    refine r_cell (s := s) (c := L + 8) (v := .ref pa) (by kernel_rfl) (by kernel_rfl) (by kernel_rfl) e8 ?_ (by kernel_rfl)
    refine r_name (s := s) eC nC mi (by kernel_rfl) (by kernel_rfl) ?_ (by kernel_rfl)
    refine r_itemL (s := s) (items := ((List.range 4).map fun k => Value.int (szN c k : Nat) (tp k)).toArray) ⟨_, e12, rfl, _, rfl⟩ (by lia) (get_funA hi) ?_ (by kernel_rfl) (by intro _; kernel_rfl)
    refine PyProof.Rows.le_int ?_
    refine wpAny_truthy_bool ?_
    have e : decide (((szN c j : Nat) : Int) ≤ ((szN c i : Nat) : Int)) = pC (szN c) i j := by
      show _ = Nat.ble _ _
      rw [Bool.eq_iff_iff, decide_eq_true_eq, Nat.ble_eq]
      lia
    rw [e]
    exact hq' _
  · intro C D its ns i j ti tj h' tk' Q' E' hi hj q1 S' hq'
    exact r_int (s := s) fun u1 tk1 => hq' _ _
  · have hvl : vals.length = (pairsN (szN c)).length := by
      rw [← pairs_len, ← hv, List.length_map]
    have hv16 : vals.length ≤ 16 := by
      rw [← List.length_map (f := fun x : Int × Tok => x.1), hv]
      have := flat_len (n := 4) (m := 4) (F := fun i => (List.range i).flatMap (hF1 (pC (szN c)) (fun _ _ => 1) i)) fun i hi => by
        have := flat_len (hF1_len (c1 := pC (szN c)) (val := fun _ _ => (1 : Int)) i i)
        lia
      lia
    refine args_nil ?_
    refine r_len (s := s) (l := D) (items := (intsL vals).toArray) ⟨_, N₂.at_ (D, lst (intsL vals)) (by simp), rfl, _, rfl⟩ (by rw [List.size_toArray, List.length_map]; lia) fun tp' tk₃ => ?_
    have esz : ((intsL vals).toArray.size : Nat) = (pairsN (szN c)).length := by rw [List.size_toArray, List.length_map, hvl]
    rw [esz]
    refine r_store (env := eW w L) (s := s) N₂.drop 0 rfl n₁ (by kernel_rfl) (by kernel_rfl) fun h₃ o₃ tk₄ N₃ n₃ => ?_
    let R59 : List (Addr × Obj) := lawAll L o₃ vs v6 (some (.int (wayOf T) tv)) l c tc tn tp tw ca na pa ds dp wa ods odp t1 t2 od opl oq ++ lawTail c T tn na lo li oo oi su (listObj (sumsN c T 3 tu).toArray ns)
    replace N₃ : Now hb [141, 179] h₃ R59 := N₃
    have z1 : up m' (S "pairs") (.int ((pairsN (szN c)).length : Nat) tp') (S "sums") = some (.ref su) := (up_ne (by kernel_rfl)).trans m5'
    have z2 : up m' (S "pairs") (.int ((pairsN (szN c)).length : Nat) tp') (S "least") = some (.int (hourN c T 2) tM) := (up_ne (by kernel_rfl)).trans q1
    have z3 : up m' (S "pairs") (.int ((pairsN (szN c)).length : Nat) tp') (S "pairs") = some (.int ((pairsN (szN c)).length : Nat) tp') := up_self _ _ _
    refine x_ret ?_
    refine BoolOp_and ?_
    refine wpAny_Compare1 ?_
    with_reducible refine Subscript_ ?_
    refine r_name (env := eW w L) (s := s) (v := .ref su) (N₃.get 0 rfl) n₃ z1 (by kernel_rfl) (by kernel_rfl) ?_ (by kernel_rfl)
    refine r_int (s := s) fun u1 tk5 => ?_
    refine r_itemL (s := s) (k := 2) (items := (sumsN c T 3 tu).toArray) ⟨_, N₃.get 32 rfl, rfl, _, rfl⟩ (by lia) (get_funA (by decide)) ?_ (by kernel_rfl) (by intro _; kernel_rfl)
    refine r_name (env := eW w L) (s := s) (v := .int (hourN c T 2) tM) (N₃.get 0 rfl) n₃ z2 (by kernel_rfl) (by kernel_rfl) ?_ (by kernel_rfl)
    refine PyProof.Rows.eq_int ?_
    refine wpAny_truthy_bool ?_
    rw [beq_self_eq_true, if_pos rfl]
    refine BoolOp_one ?_
    refine wpAny_Compare1 ?_
    with_reducible refine Subscript_ ?_
    refine r_name (env := eW w L) (s := s) (v := .ref su) (N₃.get 0 rfl) n₃ z1 (by kernel_rfl) (by kernel_rfl) ?_ (by kernel_rfl)
    refine r_int (s := s) fun u2 tk6 => ?_
    refine r_itemL (s := s) (k := 0) (items := (sumsN c T 3 tu).toArray) ⟨_, N₃.get 32 rfl, rfl, _, rfl⟩ (by lia) (get_funA (by decide)) ?_ (by kernel_rfl) (by intro _; kernel_rfl)
    with_reducible refine wpAny_BinOp ?_
    with_reducible refine wpAny_BinOp ?_
    with_reducible refine wpAny_BinOp ?_
    refine r_int (s := s) fun u3 tk7 => ?_
    refine r_name (env := eW w L) (s := s) (v := .int (hourN c T 2) tM) (N₃.get 0 rfl) n₃ z2 (by kernel_rfl) (by kernel_rfl) ?_ (by kernel_rfl)
    refine r_mul (s := s) (mulOk_small (by lia) (by lia)) fun u4 tk8 => ?_
    refine r_callB (s := s) (id := "sum") (XN N₃) (by kernel_rfl) (by kernel_rfl) (by kernel_rfl) (by kernel_rfl) (by kernel_rfl) (by kernel_rfl) (by kernel_rfl) (by kernel_rfl) ?_ (by kernel_rfl)
    with_reducible refine args_cons ?_ (by kernel_rfl)
    refine r_cell (env := eW w L) (s := s) (c := L + 8) (v := .ref pa) (by kernel_rfl) (by kernel_rfl) (by kernel_rfl) (N₃.get 8 rfl) ?_ (by kernel_rfl)
    refine args_nil ?_
    refine r_sumL (s := s) (vals := (List.range 4).map fun k => (((szN c k : Nat) : Int), tp k)) hh ⟨_, N₃.get 12 rfl, rfl, _, by rw [List.map_map]; rfl⟩ N₃ fun h₄ tk9 t9 N₄ => ?_
    have es : (((List.range 4).map fun k => (((szN c k : Nat) : Int), tp k)).map (·.1)).sum = ((List.range 4).map fun k => ((szN c k : Nat) : Int)).sum := by rw [List.map_map]; rfl
    rw [es]
    refine r_sub (s := s) fun u5 tk10 => ?_
    refine r_name (env := eW w L) (s := s) (v := .int ((pairsN (szN c)).length : Nat) tp') (N₄.get 0 rfl) n₃ z3 (by kernel_rfl) (by kernel_rfl) ?_ (by kernel_rfl)
    refine r_sub (s := s) fun u6 tk11 => ?_
    refine PyProof.Rows.eq_int ?_
    rw [← pu3, beq_self_eq_true]
    exact hq h₄ _ _ N₄ (N₄.get 16 rfl) (N₄.get 17 rfl)
end
end
section
open PySem PySem.W PySem.W.X PyProof.Rows PySem.Calls PySem.Spec PyProof
open LCg (NsObj lst)
set_option maxHeartbeats 1000000
section
variable {w : World} {s : Shared} {E : Value → Shared → Prop} {hb h : Heap} {tk : Nat} {L : Addr} {oL : Obj}
/-- the body of the law -/
theorem law_body {Q : Flow → Shared → Prop} (X : (hd.heap_39 w.params).In hb) (hLb : hb.objs.size ≤ L) {sc : Addr} {p : List (Int × Tok)} (hsc : hb.IsList sc (p.map fun q => Value.int q.1 q.2).toArray) (hp : p.length ≤ 63)
    (N : Now hb [] h (lawObs L oL (some (.ref sc)) none none none none none none none none)) (nL : NsObj oL (fun _ => none))
    (hq : ∀ h' tk' obs ps ps', Now hb [141, 179] h' obs → h'.get? 141 = some (tableObj ps) → h'.get? 179 = some (tabObj ps') → Q (.ret (.bool true)) (St s h' tk')) :
    wpAny (MM w) (callerA.deeper (eW w L)) (execs bLaw (eW w L)) Q E (St s h tk) := by
  have XK := kk_of X
  have hh : (callerA.deeper (eW w L)).handled = none := rfl
  have hr : (callerA.deeper (eW w L)).depth + 4 < recursionLimit := of_decide_eq_true (by kernel_rfl)
  have hu : (callerA.deeper (eW w L)).units + 10 < cLine := of_decide_eq_true (by kernel_rfl)
  with_reducible refine law1 (s := s) (w := w) (L := L) XK hh hsc hp N nL fun h₁ tk₁ o₁ T tT c tn tp ca na pa N₁ n₁ => ?_
  with_reducible refine law2 (s := s) (w := w) (L := L) (c := fun k => (c k).1) (tc := fun k => (c k).2) XK hh (by lia) N₁ n₁ fun h₂ tk₂ o₂ ods odp ts tq tw tt ds dp wa N₂ n₂ ids idp hds hdp => ?_
  have m2 : up (up (up (fun _ => none) (S "total") (.int T tT)) (S "prices") (.ref dp)) (S "text") (.str (textOf fun k => (c k).1) tt) (S "text") = some (.str (textOf fun k => (c k).1) tt) := up_self _ _ _
  have m3 : up (up (up (fun _ => none) (S "total") (.int T tT)) (S "prices") (.ref dp)) (S "text") (.str (textOf fun k => (c k).1) tt) (S "prices") = some (.ref dp) := by walk_at "lk"
  have m4 : up (up (up (fun _ => none) (S "total") (.int T tT)) (S "prices") (.ref dp)) (S "text") (.str (textOf fun k => (c k).1) tt) (S "total") = some (.int T tT) := by walk_at "lk"
  generalize up (up (up (fun _ => none) (S "total") (.int T tT)) (S "prices") (.ref dp)) (S "text") (.str (textOf fun k => (c k).1) tt) = mx at n₂ m2 m3 m4
  with_reducible refine law3 (s := s) (w := w) (L := L) (c := fun k => (c k).1) X N₂ n₂ m2 fun h₃ tk₃ l od opl oq ml t0 ps N₃ k htx io lm hol hoq => ?_
  subst hoq
  have e2 : tab2 w = tabObj #[] := by kernel_rfl
  rw [e2] at N₃
  with_reducible refine law4 (s := s) (w := w) (L := L) (c := fun k => (c k).1) XK hh hr (by lia) N₃ n₂ m2 k htx io lm hol fun h₄ tk₄ od₄ opl₄ N₄ lex => ?_
  with_reducible refine law5 (s := s) (w := w) (L := L) (c := fun k => (c k).1) (T := T) XK N₄ n₂ m4 fun h₅ tk₅ o₅ m₅ tv lo li N₅ n₅ q1 q2 => ?_
  with_reducible refine law6 (s := s) (w := w) (L := L) (c := fun k => (c k).1) (T := T) XK hLb N₅ n₅ fun h₆ tk₆ o₆ m₆ D cc tr tb N₆ n₆ q3 q4 htb => ?_
  obtain ⟨ps', rfl⟩ := htb
  with_reducible refine law7 (s := s) (w := w) (L := L) (c := fun k => (c k).1) (T := T) XK hh N₆ n₆ q3 fun h₇ tk₇ o₇ m₇ oo oi su N₇ n₇ q5 q6 q7 => ?_
  have r2 : m₇ (S "total") = some (.int T tT) := (q7 _ (sne (by kernel_rfl)) (sne (by kernel_rfl))).trans ((q4 _ (sne (by kernel_rfl))).trans ((q2 _ (sne (by kernel_rfl)) (sne (by kernel_rfl))).trans m4))
  have r3 : m₇ (S "lines") = some (.ref li) := (q7 _ (sne (by kernel_rfl)) (sne (by kernel_rfl))).trans ((q4 _ (sne (by kernel_rfl))).trans q1)
  have r6 : m₇ (S "prices") = some (.ref dp) := (q7 _ (sne (by kernel_rfl)) (sne (by kernel_rfl))).trans ((q4 _ (sne (by kernel_rfl))).trans ((q2 _ (sne (by kernel_rfl)) (sne (by kernel_rfl))).trans m3))
  with_reducible refine law8 (s := s) (w := w) (L := L) (c := fun k => (c k).1) (T := T) XK hh hr hu N₇ n₇ r2 r3 q5 q6 r6 k lex ids idp hds hdp fun h₈ tk₈ o₈ m₈ v6 od₈ opl₈ nq ns tu N₈ n₈ q8 => ?_
  with_reducible refine law9 (s := s) (w := w) (L := L) (c := fun k => (c k).1) (T := T) XK hh N₈ n₈ q8 fun h₉ tk₉ obs N₉ g1 g2 => ?_
  exact hq h₉ tk₉ obs ps ps' N₉ g1 g2
/-- the law, called -/
theorem law_call {Q : Value → Shared → Prop} (X : (hd.heap_39 w.params).In s.heap) {sc : Addr} {p : List (Int × Tok)} (hsc : s.heap.IsList sc (p.map fun q => Value.int q.1 q.2).toArray) (hp : p.length ≤ 63)
    (hq : ∀ h' tk' obs ps ps', Now s.heap [141, 179] h' obs → h'.get? 141 = some (tableObj ps) → h'.get? 179 = some (tabObj ps') → Q (.bool true) (St s h' tk')) :
    wpAny (MM w) callerA (call (.ref 182) [.ref sc]) Q E s := by
  have XK := kk_of X
  refine wpAny_call ?_
  refine enterC (s := s) (fd := fnAt (KK w.params) 182) (o := obAt (KK w.params) 182) (body := bLaw) (binds := [(S "script", .ref sc)]) XK (of_decide_eq_true (by kernel_rfl)) (XK _ _ (by kernel_rfl)) (by kernel_rfl) (codeRec_of XK (by kernel_rfl)) (by kernel_rfl) (by kernel_rfl) (by kernel_rfl) (by kernel_rfl) (by kernel_rfl) ?_
  rintro _ h₁ oL E' E'' rfl N nL
  show wpAny _ _ _ _ _ (St s h₁ s.toks)
  have hLb : s.heap.objs.size ≤ s.heap.objs.size := Nat.le_refl _
  generalize hL : s.heap.objs.size = L at N hLb ⊢
  have eC : cellObs (L + 1) (fnAt (KK w.params) 182).scope.names = [(L + 1, cellO none), (L + 1 + 1, cellO none), (L + 1 + 1 + 1, cellO none), (L + 1 + 1 + 1 + 1, cellO none), (L + 1 + 1 + 1 + 1 + 1, cellO none), (L + 1 + 1 + 1 + 1 + 1 + 1, cellO none), (L + 1 + 1 + 1 + 1 + 1 + 1 + 1, cellO none), (L + 1 + 1 + 1 + 1 + 1 + 1 + 1 + 1, cellO none), (L + 1 + 1 + 1 + 1 + 1 + 1 + 1 + 1 + 1, cellO none)] := by kernel_rfl
  rw [eC] at N
  replace N : Now s.heap [] h₁ (lawObs L oL none none none none none none none none none) := N
  refine binds_cons ?_
  refine r_storeC (env := eW w L) (s := s) (c := L + 1) N 1 rfl (by kernel_rfl) (by kernel_rfl) (by kernel_rfl) fun h₂ N₂ => ?_
  replace N₂ : Now s.heap [] h₂ (lawObs L oL (some (.ref sc)) none none none none none none none none) := N₂
  refine binds_nil ⟨kk_keep XK N₂ (by simp), ?_⟩
  refine law_body (s := s) X (by rw [hL]; exact hLb) hsc hp N₂ nL fun h' tk' obs ps ps' N' g1 g2 => ?_
  exact hq h' tk' obs ps ps' N' g1 g2
end
end
section
open PySem PySem.W PySem.W.X PyProof.Rows
set_option maxHeartbeats 8000000
theorem oldK_of {w : World} {hb h : Heap} {obs : List (Addr × Obj)} {ps ps' : Array Value} (X : (hd.heap_39 w.params).In hb) (N : Now hb [141, 179] h obs) (g1 : h.get? 141 = some (tableObj ps)) (g2 : h.get? 179 = some (tabObj ps')) : OldK hb h := by
  have X1 : hb.get? 141 = some (tableObj #[]) := X _ _ (by kernel_rfl)
  have X2 : hb.get? 179 = some (tableObj #[]) := X _ _ (by kernel_rfl)
  have t1 : isCodeTable hb 141 := by
    obtain ⟨o, vs, _, _, _, _, _, _, _, e1, e2, e3, e4, _⟩ := codeHd_of_K (c := 145) (P := 141) X (by kernel_rfl)
    exact ⟨145, o, vs, e1, e2, e3, e4⟩
  have t2 : isCodeTable hb 179 := by
    obtain ⟨o, vs, _, _, _, _, _, _, _, e1, e2, e3, e4, _⟩ := codeHd_of_K (c := 181) (P := 179) X (by kernel_rfl)
    exact ⟨181, o, vs, e1, e2, e3, e4⟩
  refine ⟨fun b o e => ?_, fun b o e => ?_⟩
  · by_cases h1 : b = 141
    · subst h1
      rw [X1] at e; cases e
      exact .inr (.inl ⟨t1, rfl, #[], ps, rfl, by rw [g1, Array.empty_append]; rfl⟩)
    · by_cases h2 : b = 179
      · subst h2
        rw [X2] at e; cases e
        exact .inr (.inl ⟨t2, rfl, #[], ps', rfl, by rw [g2, Array.empty_append]; rfl⟩)
      · exact .inl (N.keep b o e (by simp [h1, h2]))
  · by_cases hm : b ∈ [141, 179]
    · exact N.live b hm
    · exact ⟨o, N.keep b o e hm⟩
theorem law_holds : PySem.Challenge.rw_re0030_01.Holds := hd (by
  k_fill
  intro w s₀ s₁ mg mb G Y fa o pm cd doc dV kV ho hd hcd hD hmg hg args vals as hpre hlay hrd hwl hlo
  have KX := kIn_of Y
  have X := (Ground.X G).1
  have V := (Ground.X G).2
  refine Ground.open G ?_
  intro T B D TE TW
  wrow_args hpre hlay hrd hwl hlo
  all_goals (
    x_fa T KX hmg
    (try all_lens))
  clear hd hcd ho hD
  obtain ⟨p, rfl, hpl⟩ := ints_fun (by assumption)
  refine law_call (s := s₁) (p := p) KX (by assumption) (by omega) fun h' tk' obs ps ps' N' g1 g2 => ?_
  exact ⟨.inl ⟨_, _, [], rfl, fun _ => rfl, ReadsW.bool true, by first | rfl | kernel_rfl | wrow_post, fun _ => ⟨List.nodup_nil, fun _ hm => (nomatch hm)⟩⟩, oldK_of KX N' g1 g2, rfl, .of_eq hg⟩)
end
end Mine
open PySem PySem.W PyProof.Rows
set_option maxHeartbeats 8000000 in
theorem PySem.Challenge.cw_re0030_01_holds : PySem.Challenge.rw_re0030_01.Holds :=
  Mine.law_holds
