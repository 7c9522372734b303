import PyProof.Rows.All
import Wide.All
import OpenK.AllK
import Wide.FinOn
import PySem.Challenge.RW_pk0110_01
open PySem PySem.W PyProof.Rows PySem.Calls
set_option Elab.async false
set_option maxRecDepth 100000
set_option maxHeartbeats 16000000
namespace Mine
open_top hd for PySem.Challenge.rw_pk0110_01
end Mine
section
open PySem PySem.W PyProof.Rows PySem.Calls
namespace Mine

abbrev Bd := List (Str × Value)
abbrev Lg := List (Addr × Obj)

/-- what is known of the locals -/
def Has (b : Bd) (m : Str → Option Value) : Prop := ∀ p ∈ b, m p.1 = some p.2

def dist : List Str → Bool
  | [] => true
  | x :: r => !r.contains x && dist r
theorem dist_nodup : ∀ {l : List Str}, dist l = true → l.Nodup
  | [], _ => .nil
  | x :: r, h => by
    simp only [dist, Bool.and_eq_true, Bool.not_eq_true', List.contains_eq_mem, decide_eq_false_iff_not] at h
    exact List.nodup_cons.mpr ⟨h.1, dist_nodup h.2⟩

structure Sta (g : Heap) (L : Addr) (h : Heap) (b : Bd) (N : Lg) : Prop where
  fr : ∃ m, Fr g L h m ∧ Has b m
  news : News g L h N
  nd : (N.map (·.1)).Nodup
  bn : (b.map (·.1)).Nodup

def Post (g : Heap) (L : Addr) (s : Shared) {α : Type} (K : α → Bd → Lg → Prop) (v : α) (s' : Shared) : Prop :=
  ∃ h' tk b' N', s' = { s with heap := h', toks := tk } ∧ Sta g L h' b' N' ∧ K v b' N'

structure Stp (g : Heap) (L : Addr) (s : Shared) (b : Bd) (N : Lg) : Prop where
  st : Sta g L s.heap b N
  pos : 0 < s.toks

/-- a token that a value made in the run bears -/
abbrev PT := { u : Tok // 0 < u }

structure Run (prog : Program) (w : World) (A : Around) (g : Heap) (L : Addr) {α : Type} (t : Sem α) (K : α → Bd → Lg → Prop) (b : Bd) (N : Lg) : Prop where
  out : ∀ s : Shared, Stp g L s b N → wpAny (model prog w) A t (Post g L s K) (fun _ _ => False) s

section
variable {prog : Program} {w : World} {A : Around} {g : Heap} {L : Addr} {b : Bd} {N : Lg} {α β : Type} {s : Shared}

theorem Run.use {t : Sem α} {K : α → Bd → Lg → Prop} {Q : α → Shared → Prop} {E : Value → Shared → Prop} (r : Run prog w A g L t K b N) (St : Stp g L s b N)
    (k : ∀ v h' tk b' N', Stp g L { s with heap := h', toks := tk } b' N' → K v b' N' → Q v { s with heap := h', toks := tk }) : wpAny (model prog w) A t Q E s :=
  wpAny_mono (wpAny_toks_of (n := 1) St.pos (r.out s St)) (fun v s' ⟨hp, h', tk, b', N', e, S', kk⟩ => by subst e; exact k v h' tk b' N' ⟨S', hp⟩ kk) (fun _ _ x => x.2.elim)

theorem Run.mono {t : Sem α} {K K' : α → Bd → Lg → Prop} (r : Run prog w A g L t K b N) (k : ∀ v b' N', K v b' N' → K' v b' N') : Run prog w A g L t K' b N :=
  .mk fun _ St => r.use St fun v h' tk b' N' S' kk => ⟨h', tk, b', N', rfl, S'.st, k v b' N' kk⟩

theorem Run.pure {a : α} {K : α → Bd → Lg → Prop} (k : K a b N) : Run prog w A g L (pure a) K b N :=
  .mk fun s St => wpAny_pure ⟨s.heap, s.toks, b, N, rfl, St.st, k⟩

theorem Run.bind {t : Sem α} {f : α → Sem β} {K : β → Bd → Lg → Prop} (r : Run prog w A g L t (fun v => Run prog w A g L (f v) K) b N) : Run prog w A g L (t >>= f) K b N :=
  .mk fun _ St => wpAny_bind (r.use St fun _ _ _ _ _ S1 r1 => r1.use S1 fun _ h' tk b' N' S' k => ⟨h', tk, b', N', rfl, S'.st, k⟩)

theorem Run.holding {vs : List Value} {t : Sem α} {K : α → Bd → Lg → Prop} (r : Run prog w A g L t K b N) : Run prog w A g L (holding vs t) K b N :=
  .mk fun s St => wpAny_holding (r.out s St)

/-- a step that leaves the state as it is but for the tokens -/
theorem Run.still {t : Sem α} (f : Tok → α) {K : α → Bd → Lg → Prop} (k : ∀ u, K (f u) b N)
    (h : ∀ (s : Shared) (Q : α → Shared → Prop), Stp g L s b N → (∀ u tk, Q (f u) { s with toks := tk }) → wpAny (model prog w) A t Q (fun _ _ => False) s) : Run prog w A g L t K b N :=
  .mk fun s St => h s _ St fun u tk => ⟨s.heap, tk, b, N, rfl, St.st, k u⟩
theorem Run.stillP {t : Sem α} (f : Tok → α) {K : α → Bd → Lg → Prop} (k : ∀ u : PT, K (f u.1) b N)
    (h : ∀ (s : Shared) (Q : α → Shared → Prop), (∀ tk, Q (f s.toks) { s with toks := tk }) → wpAny (model prog w) A t Q (fun _ _ => False) s) : Run prog w A g L t K b N :=
  .mk fun s St => h s _ fun tk => ⟨s.heap, tk, b, N, rfl, St.st, k ⟨s.toks, St.pos⟩⟩

theorem Sta.keep {h : Heap} (St : Sta g L h b N) : ∀ a o, g.get? a = some o → h.get? a = some o := let ⟨_, F, _⟩ := St.fr; F.keep
theorem Sta.get {h : Heap} {a : Addr} {o : Obj} (St : Sta g L h b N) (hm : (a, o) ∈ N) : h.get? a = some o := (St.news _ hm).1

theorem Sta.push {h : Heap} (St : Sta g L h b N) (o : Obj) (ho : o.isFreed = false := by rfl) : Sta g L (h.push o) b ((h.objs.size, o) :: N) := by
  obtain ⟨⟨m, F, hb⟩, n, d, bn⟩ := St
  refine ⟨⟨m, F.push o, hb⟩, n.push F o ho, ?_, bn⟩
  simp only [List.map_cons, List.nodup_cons]
  refine ⟨fun hm => ?_, d⟩
  obtain ⟨p, hp, e⟩ := List.mem_map.mp hm
  have := Heap.lt_size (n p hp).1
  rw [e] at this; exact absurd this (Nat.lt_irrefl _)

theorem Sta.drop {h : Heap} {N' : Lg} (St : Sta g L h b N) (hs : List.Sublist N' N) : Sta g L h b N' :=
  ⟨St.fr, fun p hp => St.news p (hs.mem hp), St.nd.sublist (hs.map _), St.bn⟩

/-- each of these bindings is known there -/
inductive SubB (b : Bd) : Bd → Prop where
  | nil : SubB b []
  | cons {p : Str × Value} {r : Bd} : p ∈ b → SubB b r → SubB b (p :: r)
theorem SubB.look {b r : Bd} (h : SubB b r) : ∀ p ∈ r, p ∈ b := by
  induction h with
  | nil => intro _ h; cases h
  | cons e _ ih =>
    intro p hp
    rcases List.mem_cons.mp hp with rfl | hp
    · exact e
    · exact ih p hp
theorem Sta.bd {h : Heap} {b' : Bd} (St : Sta g L h b N) (hs : SubB b b') (hn : (b'.map (·.1)).Nodup) : Sta g L h b' N :=
  ⟨let ⟨m, F, hb⟩ := St.fr; ⟨m, F, fun p hp => hb p (hs.look p hp)⟩, St.news, St.nd, hn⟩

theorem Stp.keep (St : Stp g L s b N) : ∀ a o, g.get? a = some o → s.heap.get? a = some o := St.st.keep
theorem Stp.get {a : Addr} {o : Obj} (St : Stp g L s b N) (hm : (a, o) ∈ N) : s.heap.get? a = some o := St.st.get hm
theorem Stp.less {b' : Bd} {N' : Lg} (St : Stp g L s b N) (hb : SubB b b') (hn : dist (b'.map (·.1)) = true) (hs : List.Sublist N' N) : Stp g L s b' N' := ⟨(St.st.drop hs).bd hb (dist_nodup hn), St.pos⟩

/-- forget: fewer bindings, fewer objects -/
theorem Run.forget {t : Sem α} {K : α → Bd → Lg → Prop} {b' : Bd} {N' : Lg} (r : Run prog w A g L t K b' N') (hb : SubB b b') (hn : dist (b'.map (·.1)) = true) (hs : List.Sublist N' N) : Run prog w A g L t K b N :=
  .mk fun s St => r.out s ⟨(St.st.drop hs).bd hb (dist_nodup hn), St.pos⟩

/-- what is of no use any more is left -/
theorem Run.drop {t : Sem α} {K : α → Bd → Lg → Prop} (r : Run prog w A g L t (fun v b' N' => ∃ N0, K v b' N0 ∧ List.Sublist N0 N') b N) : Run prog w A g L t K b N :=
  .mk fun _ St => r.use St fun _ h' tk b' _ S' ⟨N0, k, hs⟩ => ⟨h', tk, b', N0, rfl, S'.st.drop hs, k⟩

/-- one entry of the ledger changed -/
inductive Up (a : Addr) (o o' : Obj) : Lg → Lg → Prop where
  | head {r : Lg} : Up a o o' ((a, o) :: r) ((a, o') :: r)
  | tail {p : Addr × Obj} {r r' : Lg} : Up a o o' r r' → Up a o o' (p :: r) (p :: r')
theorem Up.mem {a : Addr} {o o' : Obj} {N N' : Lg} (u : Up a o o' N N') : (a, o) ∈ N := by
  induction u with
  | head => exact .head _
  | tail _ ih => exact .tail _ ih
theorem Up.adr {a : Addr} {o o' : Obj} {N N' : Lg} (u : Up a o o' N N') : N'.map (·.1) = N.map (·.1) := by
  induction u with
  | head => rfl
  | tail _ ih => simp only [List.map_cons, ih]
theorem Up.in' {a : Addr} {o o' : Obj} {N N' : Lg} (u : Up a o o' N N') (d : (N.map (·.1)).Nodup) : ∀ p ∈ N', (p = (a, o')) ∨ (p ∈ N ∧ p.1 ≠ a) := by
  induction u with
  | head =>
    rename_i r
    intro p hp
    rcases List.mem_cons.mp hp with rfl | hp
    · exact .inl rfl
    · refine .inr ⟨.tail _ hp, fun e => ?_⟩
      simp only [List.map_cons, List.nodup_cons] at d
      exact d.1 (e ▸ List.mem_map_of_mem hp)
  | tail u ih =>
    rename_i q r r'
    intro p hp
    simp only [List.map_cons, List.nodup_cons] at d
    rcases List.mem_cons.mp hp with rfl | hp
    · refine .inr ⟨.head _, fun e => ?_⟩
      have h1 : (a, o).1 ∈ r.map (·.1) := List.mem_map_of_mem u.mem
      exact d.1 (e ▸ h1)
    · rcases ih d.2 p hp with h1 | h1
      · exact .inl h1
      · exact .inr ⟨.tail _ h1.1, h1.2⟩

theorem Sta.update {h : Heap} {a : Addr} {o o' : Obj} {N' : Lg} {f : Obj → Obj} (St : Sta g L h b N) (u : Up a o o' N N') (e : f o = o') (ho : o'.isFreed = false) : Sta g L (h.update a f) b N' := by
  obtain ⟨⟨m, F, hb⟩, n, d, bn⟩ := St
  have D := n _ u.mem
  obtain ⟨oL, es, ep, hL, r⟩ := F.ns
  refine ⟨⟨m, ⟨⟨oL, es, ep, ?_, r⟩, fun c x q => ?_, F.above⟩, hb⟩, fun p hp => ?_, by rw [u.adr]; exact d, bn⟩
  · rw [Heap.get?_update_other _ _ D.2.1]; exact hL
  · have hne : a ≠ c := fun z => by have := D.2.2; simp only [z] at this; rw [q] at this; cases this
    rw [Heap.get?_update_other _ _ hne]; exact F.keep c x q
  · rcases u.in' d p hp with rfl | ⟨h1, h2⟩
    · exact ⟨by rw [Heap.get?_update_self f D.1 (e ▸ ho), e], D.2.1, D.2.2⟩
    · have P := n p h1
      exact ⟨by rw [Heap.get?_update_other _ _ (Ne.symm h2)]; exact P.1, P.2⟩

/-- one binding changed -/
inductive UpB (x : Str) (v : Value) : Bd → Bd → Prop where
  | head {u : Value} {r : Bd} : UpB x v ((x, u) :: r) ((x, v) :: r)
  | tail {p : Str × Value} {r r' : Bd} : UpB x v r r' → UpB x v (p :: r) (p :: r')
theorem UpB.adr {x : Str} {v : Value} {b b' : Bd} (u : UpB x v b b') : b'.map (·.1) = b.map (·.1) := by
  induction u with
  | head => rfl
  | tail _ ih => simp only [List.map_cons, ih]
theorem UpB.mem {x : Str} {v : Value} {b b' : Bd} (u : UpB x v b b') : x ∈ b.map (·.1) := by
  induction u with
  | head => exact .head _
  | tail _ ih => exact .tail _ ih
theorem UpB.in' {x : Str} {v : Value} {b b' : Bd} (u : UpB x v b b') (d : (b.map (·.1)).Nodup) : ∀ p ∈ b', p = (x, v) ∨ (p ∈ b ∧ p.1 ≠ x) := by
  induction u with
  | head =>
    rename_i r
    intro p hp
    simp only [List.map_cons, List.nodup_cons] at d
    rcases List.mem_cons.mp hp with rfl | hp
    · exact .inl rfl
    · exact .inr ⟨.tail _ hp, fun e => d.1 (e ▸ List.mem_map_of_mem hp)⟩
  | tail u ih =>
    intro p hp
    simp only [List.map_cons, List.nodup_cons] at d
    rcases List.mem_cons.mp hp with rfl | hp
    · exact .inr ⟨.head _, fun e => d.1 (e ▸ u.mem)⟩
    · rcases ih d.2 p hp with h1 | h1
      · exact .inl h1
      · exact .inr ⟨.tail _ h1.1, h1.2⟩
theorem Sta.storeN {h h' : Heap} {x : Str} {v : Value} {m : Str → Option Value} (St : Sta g L h b N) (F : Fr g L h m) (hb : Has b m) (hx : x ∉ b.map (·.1)) (hn : h'.Ns L (fun y => if y = x then some v else m y)) (hs : Heap.SameBut L h h') : Sta g L h' ((x, v) :: b) N := by
  refine ⟨⟨_, F.set hn hs, fun p hp => ?_⟩, St.news.set hs, St.nd, ?_⟩
  · rcases List.mem_cons.mp hp with rfl | hp
    · simp
    · have : p.1 ≠ x := fun e => hx (e ▸ List.mem_map_of_mem hp)
      simp only [if_neg this]; exact hb p hp
  · simp only [List.map_cons, List.nodup_cons]; exact ⟨hx, St.bn⟩
theorem Sta.storeO {h h' : Heap} {x : Str} {v : Value} {m : Str → Option Value} {b' : Bd} (St : Sta g L h b N) (F : Fr g L h m) (hb : Has b m) (u : UpB x v b b') (hn : h'.Ns L (fun y => if y = x then some v else m y)) (hs : Heap.SameBut L h h') : Sta g L h' b' N := by
  refine ⟨⟨_, F.set hn hs, fun p hp => ?_⟩, St.news.set hs, St.nd, by rw [u.adr]; exact St.bn⟩
  rcases u.in' St.bn p hp with rfl | ⟨h1, h2⟩
  · simp
  · simp only [if_neg h2]; exact hb p h1
end
end Mine

end
section
open PySem PySem.W PyProof.Rows PySem.Calls
namespace Mine
section
variable {prog : Program} {w : World} {A : Around} {g : Heap} {L : Addr} {b : Bd} {N : Lg} {env : Env}

theorem done' {α : Type} {s : Shared} {K : α → Bd → Lg → Prop} (v : α) (h' : Heap) (tk : Nat) (b' : Bd) (N' : Lg) (S' : Stp g L { s with heap := h', toks := tk } b' N') (k : K v b' N') : Post g L s K v { s with heap := h', toks := tk } := ⟨h', tk, b', N', rfl, S'.st, k⟩
theorem doneH {α : Type} {s : Shared} {K : α → Bd → Lg → Prop} (v : α) (h' : Heap) (tk : Nat) (b' : Bd) (N' : Lg) (S' : Sta g L h' b' N') (k : K v b' N') : Post g L s K v { s with heap := h', toks := tk } := ⟨h', tk, b', N', rfl, S', k⟩

theorem r_nil {K : Flow → Bd → Lg → Prop} (k : K .next b N) : Run prog w A g L (execs [] env) K b N := .mk fun s St => wpAny_execs_nil ⟨s.heap, s.toks, b, N, rfl, St.st, k⟩
theorem r_cons {st : Stmt} {rest : List Stmt} {K : Flow → Bd → Lg → Prop}
    (r : Run prog w A g L (exec st env) (fun f b' N' => match f with | .next => Run prog w A g L (execs rest env) K b' N' | f => K f b' N') b N) : Run prog w A g L (execs (st :: rest) env) K b N :=
  .mk fun _ St => wpAny_execs_cons (r.use St fun f h1 t1 b1 N1 S1 r1 => by
    cases f with
    | next => exact r1.use S1 fun v h' tk b' N' S' k => done' v h' tk b' N' S' k
    | _ => exact done' _ h1 t1 b1 N1 S1 r1)

theorem r_cint {i : Int} {k : Nat} {pos : Pos} {K : Value → Bd → Lg → Prop} (r : ∀ u, K (.int i u) b N) : Run prog w A g L (eval (.Constant (.int i) k pos) env) K b N :=
  .still (fun u => .int i u) r fun s _ _ h => wpAny_Constant_int (h s.toks _)
theorem r_cstr {x : Str} {k : Nat} {pos : Pos} {K : Value → Bd → Lg → Prop} (r : ∀ u, K (.str x u) b N) : Run prog w A g L (eval (.Constant (.str x) k pos) env) K b N :=
  .still (fun u => .str x u) r fun s _ _ h => Calls.Constant_str (h s.toks _)
theorem r_cflt {x : UInt64} {k : Nat} {pos : Pos} {K : Value → Bd → Lg → Prop} (r : ∀ u : PT, K (.float x u.1) b N) : Run prog w A g L (eval (.Constant (.float x) k pos) env) K b N :=
  .stillP (fun u => .float x u) r fun s _ h => wpAny_Constant_float (h _)
theorem r_cbool {x : Bool} {k : Nat} {pos : Pos} {K : Value → Bd → Lg → Prop} (r : K (.bool x) b N) : Run prog w A g L (eval (.Constant (.bool x) k pos) env) K b N :=
  .still (fun _ => .bool x) (fun _ => r) fun s _ _ h => Constant_bool (h s.toks s.toks)
theorem r_cnone {k : Nat} {pos : Pos} {K : Value → Bd → Lg → Prop} (r : K .none b N) : Run prog w A g L (eval (.Constant .none k pos) env) K b N :=
  .still (fun _ => .none) (fun _ => r) fun s _ _ h => Constant_none (h s.toks s.toks)

theorem r_local {x : Str} {pos : Pos} {v : Value} {K : Value → Bd → Lg → Prop} (hL : env.locals = L) (hk : env.scope.kind = .function) (hl : env.kindOf x = some .local) (hd : (x == ("__debug__" : Str)) = false)
    (hv : (x, v) ∈ b) (k : K v b N) : Run prog w A g L (eval (.Name x pos) env) K b N :=
  .still (fun _ => v) (fun _ => k) fun s _ St h => by
    obtain ⟨m, F, hb⟩ := St.st.fr
    subst hL
    exact wpAny_Name (wpAny_loadName_local hk hl F.ns (hb (x, v) hv) (h s.toks s.toks)) hd
theorem r_cell {x : Str} {pos : Pos} {v : Value} {c : Addr} {o : Obj} {K : Value → Bd → Lg → Prop} (hk : env.scope.kind = .function) (hl : env.kindOf x = some .cell) (hd : (x == ("__debug__" : Str)) = false)
    (hc : env.cells.lookup x = some c) (hm : (c, o) ∈ N) (ho : o.data = .cell (some v)) (k : K v b N) : Run prog w A g L (eval (.Name x pos) env) K b N :=
  .still (fun _ => v) (fun _ => k) fun s _ St h => wpAny_Name (wpAny_loadName_cell hk hl hc ⟨o, St.get hm, ho⟩ (h s.toks s.toks)) hd

theorem r_storeN {x : Str} {v : Value} {K : Unit → Bd → Lg → Prop} (hL : env.locals = L) (hk : env.scope.kind = .function) (hl : env.kindOf x = some .local) (hx : (b.map (·.1)).contains x = false)
    (k : K () ((x, v) :: b) N) : Run prog w A g L (storeName env x v) K b N := .mk fun s St => by
  obtain ⟨m, F, hb⟩ := id St.st.fr
  subst hL
  exact wpAny_storeName_local hl F.ns (fun h' hn hs => ⟨h', _, _, N, rfl, St.st.storeN F hb (by simpa [List.contains_iff_mem] using hx) hn hs, k⟩) (by rw [hk]; rfl)
theorem r_storeO {x : Str} {v : Value} {b' : Bd} {K : Unit → Bd → Lg → Prop} (hL : env.locals = L) (hk : env.scope.kind = .function) (hl : env.kindOf x = some .local) (u : UpB x v b b')
    (k : K () b' N) : Run prog w A g L (storeName env x v) K b N := .mk fun s St => by
  obtain ⟨m, F, hb⟩ := id St.st.fr
  subst hL
  exact wpAny_storeName_local hl F.ns (fun h' hn hs => ⟨h', _, _, N, rfl, St.st.storeO F hb u hn hs, k⟩) (by rw [hk]; rfl)

def cellObj (o : Obj) (v : Value) : Obj := { o with data := .cell (some v) }

theorem r_bin {l r : Expr} {op : Operator} {pos : Pos} {K : Value → Bd → Lg → Prop}
    (h : Run prog w A g L (eval l env) (fun a => Run prog w A g L (eval r env) (fun c => Run prog w A g L (binaryOp op a c) K)) b N) : Run prog w A g L (eval (.BinOp l op r pos) env) K b N :=
  .mk fun _ St => wpAny_BinOp (h.use St fun _ _ _ _ _ S1 r1 => r1.use S1 fun _ _ _ _ _ S2 r2 => r2.use S2 fun v h' tk b' N' S' k => done' v h' tk b' N' S' k)
theorem r_cmp {l r : Expr} {op : CmpOp} {pos : Pos} {K : Value → Bd → Lg → Prop} (hm : behindInMarks op r = false)
    (h : Run prog w A g L (eval l env) (fun a => Run prog w A g L (eval r env) (fun c => Run prog w A g L (compareOp op a c) K)) b N) : Run prog w A g L (eval (.Compare l [op] [r] pos) env) K b N :=
  .mk fun _ St => wpAny_Compare1 (h.use St fun _ _ _ _ _ S1 r1 => r1.use S1 fun _ _ _ _ _ S2 r2 => r2.use S2 fun v h' tk b' N' S' k => done' v h' tk b' N' S' k) hm
theorem r_tcmp {l r : Expr} {op : CmpOp} {pos : Pos} {whole : Sem Value} {K : Bool → Bd → Lg → Prop} (hm : behindInMarks op r = false)
    (h : Run prog w A g L (eval l env) (fun a => Run prog w A g L (eval r env) (fun c => Run prog w A g L (compareOp op a c) (fun v => Run prog w A g L (truthy v) K))) b N) : Run prog w A g L (isTrue (.Compare l [op] [r] pos) env whole) K b N :=
  .mk fun _ St => wpAny_isTrue_Compare1 (h.use St fun _ _ _ _ _ S1 r1 => r1.use S1 fun _ _ _ _ _ S2 r2 => r2.use S2 fun _ _ _ _ _ S3 r3 => r3.use S3 fun v h' tk b' N' S' k => done' v h' tk b' N' S' k) hm
theorem r_tplain {e : Expr} {whole : Sem Value} {K : Bool → Bd → Lg → Prop} (he : isTrue e env whole = (do let v ← whole; standAt e.pos; holding [v] (truthy v)))
    (h : Run prog w A g L whole (fun v => Run prog w A g L (truthy v) K) b N) : Run prog w A g L (isTrue e env whole) K b N :=
  .mk fun _ St => isTrue_plain (h.use St fun _ _ _ _ _ S1 r1 => r1.use S1 fun v h' tk b' N' S' k => done' v h' tk b' N' S' k) he
theorem r_tbool {c : Bool} {K : Bool → Bd → Lg → Prop} (k : K c b N) : Run prog w A g L (truthy (.bool c)) K b N :=
  .still (fun _ => c) (fun _ => k) fun s _ _ h => wpAny_truthy_bool (h s.toks s.toks)
theorem r_ifexp {t x y : Expr} {pos : Pos} {K : Value → Bd → Lg → Prop}
    (h : Run prog w A g L (isTrue t env (eval t env)) (fun c => if c then Run prog w A g L (eval x env) K else Run prog w A g L (eval y env) K) b N) : Run prog w A g L (eval (.IfExp t x y pos) env) K b N :=
  .mk fun _ St => wpAny_IfExp (h.use St fun c _ _ _ _ S1 r1 => by
    cases c with
    | true => exact Run.use (by simpa using r1) S1 fun v h' tk b' N' S' k => done' v h' tk b' N' S' k
    | false => exact Run.use (by simpa using r1) S1 fun v h' tk b' N' S' k => done' v h' tk b' N' S' k)

theorem r_assign {x : Str} {p pos : Pos} {value : Expr} {K : Flow → Bd → Lg → Prop} (hs : swapsWith value (some (.Name x p)) pos.line env = pure false)
    (h : Run prog w A g L (eval value env) (fun v => Run prog w A g L (storeName env x v) (fun _ => K .next)) b N) : Run prog w A g L (exec (.Assign [.Name x p] value pos) env) K b N :=
  .mk fun _ St => wpAny_Assign_Name (h.use St fun _ _ _ _ _ S1 r1 => r1.use S1 fun _ h' tk b' N' S' k => done' _ h' tk b' N' S' k) hs
theorem r_assignT {elts : List Expr} {k : Nat} {tpos pos : Pos} {value : Expr} {K : Flow → Bd → Lg → Prop} (hs : swapsWithSole [.Tuple elts k tpos] value pos.line env = pure false) (hw : swappedStores [.Tuple elts k tpos] value env = pure none)
    (h : Run prog w A g L (eval value env) (fun v => Run prog w A g L (assign (.Tuple elts k tpos) env v) (fun _ => K .next)) b N) : Run prog w A g L (exec (.Assign [.Tuple elts k tpos] value pos) env) K b N :=
  .mk fun _ St => Assign_Tuple (h.use St fun _ _ _ _ _ S1 r1 => r1.use S1 fun _ h' tk b' N' S' k => done' _ h' tk b' N' S' k) hs hw
theorem r_assignS {o i value : Expr} {p pos : Pos} {K : Flow → Bd → Lg → Prop} (hs : swapsWith value (some (.Subscript o i p)) pos.line env = pure false)
    (h : Run prog w A g L (eval value env) (fun v => Run prog w A g L (eval o env) (fun ov => Run prog w A g L (eval i env) (fun iv => Run prog w A g L (setItem ov iv v) (fun _ => K .next)))) b N) : Run prog w A g L (exec (.Assign [.Subscript o i p] value pos) env) K b N :=
  .mk fun _ St => wpAny_Assign_Subscript (h.use St fun _ _ _ _ _ S1 r1 => r1.use S1 fun _ _ _ _ _ S2 r2 => r2.use S2 fun _ _ _ _ _ S3 r3 => r3.use S3 fun _ h' tk b' N' S' k => done' _ h' tk b' N' S' k) hs
theorem r_if {t : Expr} {x y : List Stmt} {pos : Pos} {K : Flow → Bd → Lg → Prop}
    (h : Run prog w A g L (isTrue t env (eval t env)) (fun c => if c then Run prog w A g L (execs x env) K else Run prog w A g L (execs y env) K) b N) : Run prog w A g L (exec (.If t x y pos) env) K b N :=
  .mk fun _ St => wpAny_If (h.use St fun c _ _ _ _ S1 r1 => by
    cases c with
    | true => exact Run.use (by simpa using r1) S1 fun v h' tk b' N' S' k => done' v h' tk b' N' S' k
    | false => exact Run.use (by simpa using r1) S1 fun v h' tk b' N' S' k => done' v h' tk b' N' S' k)
theorem r_ret {e : Expr} {pos : Pos} {K : Flow → Bd → Lg → Prop} (h : Run prog w A g L (eval e env) (fun v => K (.ret v)) b N) : Run prog w A g L (exec (.Return (some e) pos) env) K b N :=
  .mk fun _ St => wpAny_Return_some (h.use St fun _ h' tk b' N' S' k => done' _ h' tk b' N' S' k)
theorem r_expr {e : Expr} {pos : Pos} {K : Flow → Bd → Lg → Prop} (hi : interactive env = false) (hs : swapsWith e none pos.line env = pure false)
    (h : Run prog w A g L (eval e env) (fun v b' N' => (match v with | .ref _ => False | _ => True) ∧ K .next b' N') b N) : Run prog w A g L (exec (.Expr e pos) env) K b N :=
  .mk fun _ St => wpAny_Expr (h.use St fun v h' tk b' N' S' k => by
    cases v with
    | ref _ => exact k.1
    | _ => exact done' _ h' tk b' N' S' k.2) hi hs
theorem r_sub {value slice : Expr} {pos : Pos} {K : Value → Bd → Lg → Prop}
    (h : Run prog w A g L (eval value env) (fun o => Run prog w A g L (eval slice env) (fun i => Run prog w A g L (subscriptTail value slice o i) K)) b N) : Run prog w A g L (eval (.Subscript value slice pos) env) K b N :=
  .mk fun _ St => Subscript_ (h.use St fun _ _ _ _ _ S1 r1 => r1.use S1 fun _ _ _ _ _ S2 r2 => r2.use S2 fun v h' tk b' N' S' k => done' v h' tk b' N' S' k)
theorem r_tuple {elts : List Expr} {n : Nat} {pos : Pos} {K : Value → Bd → Lg → Prop}
    (h : Run prog w A g L (spliced (backTo pos (starEach elts env))) (fun vs => Run prog w A g L (newTuple vs) K) b N) : Run prog w A g L (eval (.Tuple elts n pos) env) K b N :=
  .mk fun _ St => Tuple_ (h.use St fun _ _ _ _ _ S1 r1 => r1.use S1 fun v h' tk b' N' S' k => done' v h' tk b' N' S' k)
theorem r_list {elts : List Expr} {pos : Pos} {K : Value → Bd → Lg → Prop}
    (h : Run prog w A g L (spliced (backTo pos (starEach elts env))) (fun vs => Run prog w A g L (newList vs) K) b N) : Run prog w A g L (eval (.List elts pos) env) K b N :=
  .mk fun _ St => List_ (h.use St fun _ _ _ _ _ S1 r1 => r1.use S1 fun v h' tk b' N' S' k => done' v h' tk b' N' S' k)
theorem r_snil {pos : Pos} {K : List Value → Bd → Lg → Prop} (k : K [] b N) : Run prog w A g L (spliced (backTo pos (starEach [] env))) K b N :=
  .still (fun _ => []) (fun _ => k) fun s _ _ h => spliced_none (h s.toks s.toks)
theorem r_scons {e : Expr} {rest : List Expr} {pos : Pos} {K : List Value → Bd → Lg → Prop} (he : starEach (e :: rest) env = (false, eval e env) :: starEach rest env)
    (h : Run prog w A g L (eval e env) (fun v => Run prog w A g L (spliced (backTo pos (starEach rest env))) (fun vs => K (v :: vs))) b N) : Run prog w A g L (spliced (backTo pos (starEach (e :: rest) env))) K b N :=
  .mk fun _ St => spliced_more (h.use St fun _ _ _ _ _ S1 r1 => r1.use S1 fun _ h' tk b' N' S' k => done' _ h' tk b' N' S' k) he
theorem r_ntup {vs : List Value} {K : Value → Bd → Lg → Prop} (hsz : vs.length ≤ sizeLine) (k : ∀ a, K (.ref a) b ((a, { cls := .type "tuple", data := .seq vs.toArray }) :: N)) : Run prog w A g L (newTuple vs) K b N :=
  .mk fun s St => wpAny_newObj_type (doneH (s := s) _ _ s.toks _ _ (St.st.push _) (k s.heap.objs.size)) (by show vs.toArray.size ≤ sizeLine; rw [List.size_toArray]; exact hsz)
theorem r_nlist {vs : List Value} {K : Value → Bd → Lg → Prop} (hsz : vs.length ≤ sizeLine) (k : ∀ a, K (.ref a) b ((a, { cls := .type "list", data := .seq vs.toArray }) :: N)) : Run prog w A g L (newList vs) K b N :=
  .mk fun s St => wpAny_newObj_type (doneH (s := s) _ _ s.toks _ _ (St.st.push _) (k s.heap.objs.size)) (by show vs.toArray.size ≤ sizeLine; rw [List.size_toArray]; exact hsz)

/-- the next turn's state: what the word says, out of what is known -/
def Next (J : Bd → Lg → Prop) (b : Bd) (N : Lg) : Prop := ∃ b' N', J b' N' ∧ SubB b b' ∧ dist (b'.map (·.1)) = true ∧ List.Sublist N' N

def Turn (J : Nat → Bd → Lg → Prop) (n : Nat) (K : Flow → Bd → Lg → Prop) (f : Flow) : Bd → Lg → Prop :=
  match f with
  | .next | .cont => Next fun b N => ∃ m, m < n ∧ J m b N
  | .brk => K .next
  | .ret v => K (.ret v)

theorem r_while {t : Expr} {body : List Stmt} {pos : Pos} {K : Flow → Bd → Lg → Prop} (J : Nat → Bd → Lg → Prop) (n : Nat) (h0 : Next (J n) b N)
    (turn : ∀ n b N, J n b N → Run prog w A g L (isTrue t env (eval t env)) (fun c => if c then Run prog w A g L (execs body env) (Turn J n K) else K .next) b N) : Run prog w A g L (exec (.While t body [] pos) env) K b N := .mk fun s St => by
  obtain ⟨b0, N0, j0, hb, hn, hN⟩ := h0
  refine wpAny_While (codeAny_whileLoop (fun n s' => ∃ h tk b N, s' = { s with heap := h, toks := tk } ∧ Stp g L { s with heap := h, toks := tk } b N ∧ J n b N) ?_ n ⟨s.heap, s.toks, b0, N0, rfl, St.less hb hn hN, j0⟩)
  rintro n s' ⟨h, tk, b1, N1, rfl, S1, j1⟩
  refine (turn n b1 N1 j1).use S1 fun c h2 t2 b2 N2 S2 r2 => ?_
  cases c with
  | false =>
    simp only [Bool.false_eq_true, if_false] at r2 ⊢
    exact wpAny_execs_nil (done' _ h2 t2 b2 N2 S2 r2)
  | true =>
    simp only [if_true] at r2 ⊢
    refine r2.use S2 fun f h3 t3 b3 N3 S3 r3 => ?_
    cases f with
    | next => obtain ⟨b4, N4, ⟨m, hm, j⟩, q1, q3, q2⟩ := r3; exact ⟨m, hm, h3, t3, b4, N4, rfl, S3.less q1 q3 q2, j⟩
    | cont => obtain ⟨b4, N4, ⟨m, hm, j⟩, q1, q3, q2⟩ := r3; exact ⟨m, hm, h3, t3, b4, N4, rfl, S3.less q1 q3 q2, j⟩
    | brk => exact done' _ h3 t3 b3 N3 S3 r3
    | ret v => exact done' _ h3 t3 b3 N3 S3 r3

theorem r_for {target iter : Expr} {body : List Stmt} {pos : Pos} {K : Flow → Bd → Lg → Prop} (hf : ∀ x, foldedSetIterable iter env x = pure x)
    (h : Run prog w A g L (eval iter env) (fun x => Run prog w A g L (pyIter x) (fun it b2 N2 => ∃ (J : Nat → Bd → Lg → Prop) (n : Nat), Next (J n) b2 N2 ∧
      ∀ n b N, J n b N → Run prog w A g L (pyNext it) (fun o => match o with | none => K .next | some v => Run prog w A g L (letOwnedTupleGo target it v) (fun _ => Run prog w A g L (assign target env v) (fun _ => Run prog w A g L (execs body env) (Turn J n K)))) b N)) b N) :
    Run prog w A g L (exec (.For target iter body [] pos) env) K b N := .mk fun s St => by
  refine wpAny_For (h.use St fun x _ _ _ _ S1 r1 => r1.use S1 fun it h2 t2 b2 N2 S2 r2 => ?_) hf
  obtain ⟨J, n, ⟨b0, N0, j0, hb, hn, hN⟩, turn⟩ := r2
  refine codeAny_forLoop_any (fun n s' => ∃ h tk b N, s' = { s with heap := h, toks := tk } ∧ Stp g L { s with heap := h, toks := tk } b N ∧ J n b N) ?_ n ⟨h2, t2, b0, N0, rfl, S2.less hb hn hN, j0⟩
  rintro n s' ⟨h, tk, b1, N1, rfl, S1, j1⟩
  refine (turn n b1 N1 j1).use S1 fun c h2 t2 b2 N2 S2 r2 => ?_
  cases c with
  | none => exact wpAny_execs_nil (done' _ h2 t2 b2 N2 S2 r2)
  | some v =>
    refine r2.use S2 fun _ _ _ _ _ S3 r3 => r3.use S3 fun _ _ _ _ _ S3 r3 => r3.use S3 fun f h3 t3 b3 N3 S3 r3 => ?_
    cases f with
    | next => obtain ⟨b4, N4, ⟨m, hm, j⟩, q1, q3, q2⟩ := r3; exact ⟨m, hm, h3, t3, b4, N4, rfl, S3.less q1 q3 q2, j⟩
    | cont => obtain ⟨b4, N4, ⟨m, hm, j⟩, q1, q3, q2⟩ := r3; exact ⟨m, hm, h3, t3, b4, N4, rfl, S3.less q1 q3 q2, j⟩
    | brk => exact done' _ h3 t3 b3 N3 S3 r3
    | ret v => exact done' _ h3 t3 b3 N3 S3 r3
theorem r_goName {x : Str} {pos : Pos} {it v : Value} {K : Unit → Bd → Lg → Prop} (k : K () b N) : Run prog w A g L (letOwnedTupleGo (.Name x pos) it v) K b N := Run.pure k
theorem r_asName {x : Str} {pos : Pos} {v : Value} {K : Unit → Bd → Lg → Prop} (h : Run prog w A g L (storeName env x v) K b N) : Run prog w A g L (assign (.Name x pos) env v) K b N :=
  .mk fun s St => wpAny_bind (wpAny_standAt (wpAny_bindName (h.out s St)))
end
end Mine

end
section
open PySem PySem.W PyProof.Rows PySem.Calls
namespace Mine

structure Okay (K : Frag) (n : Nat) (A : Around) (env : Env) (g : Heap) (L : Addr) : Prop where
  X : K.In g
  T : ∃ p loose mean mg mb, Top p loose mean mg mb g
  B : ∃ A₀ base outer, Below A₀ base outer g ∧ A.frames = some (env :: outer)
  hf : env.frame = some L
  hl : env.locals = L
  hk : env.scope.kind = .function
  hg : env.globals = mainGlobals
  hb : env.builtins = builtinsNs
  hh : A.handled = none
  hd : A.depth + n < recursionLimit
  hu : A.units + 8 * n < cLine

theorem has_binds {binds : Bd} (hn : (binds.map (·.1)).Nodup) : Has binds fun x => binds.reverse.lookup x := by
  induction binds with
  | nil => intro p hp; cases hp
  | cons q r ih =>
    intro p hp
    simp only [List.map_cons, List.nodup_cons] at hn
    show (q :: r).reverse.lookup p.1 = some p.2
    rw [List.reverse_cons, List.lookup_append]
    rcases List.mem_cons.mp hp with rfl | hp
    · have : r.reverse.lookup p.1 = none := by
        rw [List.lookup_eq_none_iff]
        intro q hq
        have : p.1 ≠ q.1 := fun e => hn.1 (e ▸ List.mem_map_of_mem (List.mem_reverse.mp hq))
        simpa using this
      rw [this]; obtain ⟨x, v⟩ := p; simp [List.lookup]
    · have e : r.reverse.lookup p.1 = some p.2 := ih hn.2 p hp
      rw [e]; rfl

def retOf (f : Flow) : Value := match f with | .ret v => v | _ => .none

section
variable {prog : Program} {w : World} {F : Frag} {n : Nat} {A : Around} {g : Heap} {L : Addr} {b : Bd} {N : Lg} {env : Env}

theorem Okay.less (O : Okay F (n + 1) A env g L) : Okay F n A env g L :=
  ⟨O.X, O.T, O.B, O.hf, O.hl, O.hk, O.hg, O.hb, O.hh, by have := O.hd; omega, by have := O.hu; omega⟩

theorem r_glob {x : Str} {pos : Pos} {v : Value} {K : Value → Bd → Lg → Prop} (O : Okay F n A env g L) (hx : env.kindOf x = some .globalImplicit) (hd : (x == ("__debug__" : Str)) = false)
    (e : nsIn F mainGlobals x = some (some v)) (k : K v b N) : Run prog w A g L (eval (.Name x pos) env) K b N :=
  .still (fun _ => v) (fun _ => k) fun s _ St h => by
    obtain ⟨p, loose, mean, mg, mb, T⟩ := O.T
    refine Name_function_global O.hk hx (loadGlobal_global (mg := mg) ?_ (mg_of O.X T.g e) (h s.toks s.toks)) hd
    rw [O.hg]; exact T.g.keeps St.keep
theorem r_blt {x : Str} {pos : Pos} {v : Value} {K : Value → Bd → Lg → Prop} (O : Okay F n A env g L) (hx : env.kindOf x = some .globalImplicit) (hd : (x == ("__debug__" : Str)) = false)
    (e : nsIn F mainGlobals x = some none) (hv : bootBuiltins x = some v) (hn : x ≠ "__name__") (k : K v b N) : Run prog w A g L (eval (.Name x pos) env) K b N :=
  .still (fun _ => v) (fun _ => k) fun s _ St h => by
    obtain ⟨p, loose, mean, mg, mb, T⟩ := O.T
    refine Name_function_global O.hk hx (loadGlobal_builtin (mg := mg) (mb := mb) ?_ (mg_none_of O.X T.g e) ?_ ((T.builtins x hn).trans hv) (h s.toks s.toks)) hd
    · rw [O.hg]; exact T.g.keeps St.keep
    · rw [O.hb]; exact T.b.keeps St.keep

/-- a def without cells is entered -/
theorem r_enter {name qual : Str} {params : Arguments} {body : List Stmt} {scope : Scope} {dV kV doc pm cdv ct oc : Value} {an od : Option Addr} {osl : Array (Option Value)} {f : Addr} {pos : List Value} {kw : List (Str × Value)} (binds : List (Str × Value))
    {K : Value → Bd → Lg → Prop} (O : Okay F (n + 1) A env g L)
    (ho : F.lookup f = some ⟨oc, od, .func (fnOf name qual params body scope dV kV doc pm an cdv ct), osl⟩) (hcd : codeIn F cdv qual = true)
    (hbind : ∀ s : Shared, F.In s.heap → BindsTo s (fnOf name qual params body scope dV kV doc pm an cdv ct) ⟨pos, kw⟩ binds) (hloc : ∀ y ∈ binds, scope.names.lookup y.1 = some .local)
    (hco : scope.isCoroutine = false) (hgen : scope.isGenerator = false) (hk : scope.kind = .function) (hcell : ∀ x ∈ scope.names, x.2 ≠ .cell) (hn : dist (binds.map (·.1)) = true)
    (h : ∀ g' L' A' env', env' = envOf qual scope L' f cdv → Okay F n A' env' g' L' → Run prog w A' g' L' (execs body env') (fun fl _ N' => K (retOf fl) b N') binds N) :
    Run prog w A g L (call (.ref f) pos kw) K b N := .mk fun s St => by
  obtain ⟨p, loose, mean, mg, mb, T⟩ := O.T
  obtain ⟨A₀, base, outer, B, hA⟩ := O.B
  obtain ⟨m, Fm, hb⟩ := id St.st.fr
  refine wpAny_call (code_def B Fm O.X St.st.news T hA O.hf O.hk ho hcd (by have := O.hd; omega) (hbind s (O.X.keeps Fm.keep)) hloc ?_ hco hgen hk hcell)
  intro g' L' h₁ FG F' N' B' X' T'
  have O' : Okay F n (A.deeper (envOf qual scope L' f cdv)) (envOf qual scope L' f cdv) g' L' :=
    ⟨X', ⟨p, loose, mean, mg, mb, T'⟩, ⟨A, base, env :: outer, B', by show A.frames.map _ = _; rw [hA]; rfl⟩, rfl, rfl, hk, rfl, rfl, O.hh, by show A.depth + 1 + n < recursionLimit; have := O.hd; omega, by show A.units + 3 + 8 * n < cLine; have := O.hu; omega⟩
  refine Run.use (h g' L' _ _ rfl O') (s := { s with heap := h₁, toks := s.toks + binds.length }) ⟨⟨⟨_, F', has_binds (dist_nodup hn)⟩, N', St.st.nd, dist_nodup hn⟩, Nat.lt_of_lt_of_le St.pos (Nat.le_add_right _ _)⟩ fun fl h' tk b' N'' S' k => ?_
  obtain ⟨m', F'', _⟩ := S'.st.fr
  refine leaveK_ (s' := { s with heap := h', toks := tk }) F'' S'.st.news fun F3 N3 => ?_
  exact ⟨h', tk, b, N'', rfl, ⟨⟨m, F3, hb⟩, N3, S'.st.nd, St.st.bn⟩, by cases fl <;> exact k⟩
end
end Mine

end
section
open PySem PySem.W PyProof.Rows PySem.Calls
namespace Mine
section
variable {prog : Program} {w : World} {A : Around} {g : Heap} {L : Addr} {b : Bd} {N : Lg} {x y : Int} {t u : Tok} {K : Value → Bd → Lg → Prop} {p q : UInt64}

theorem i_add (k : ∀ v, K (.int (x + y) v) b N) : Run prog w A g L (binaryOp .Add (.int x t) (.int y u)) K b N := .still (fun v => .int (x + y) v) k fun _ _ _ h => PyProof.Rows.add_int (h _ _)
theorem i_sub (k : ∀ v, K (.int (x - y) v) b N) : Run prog w A g L (binaryOp .Sub (.int x t) (.int y u)) K b N := .still (fun v => .int (x - y) v) k fun _ _ _ h => PyProof.Rows.sub_int (h _ _)
theorem i_mul (hm : IntMulOk x y) (k : ∀ v, K (.int (x * y) v) b N) : Run prog w A g L (binaryOp .Mult (.int x t) (.int y u)) K b N := .still (fun v => .int (x * y) v) k fun _ _ _ h => PyProof.Rows.mul_int (h _ _) hm
theorem i_mod (hy : y ≠ 0) (k : ∀ v, K (.int (x.fmod y) v) b N) : Run prog w A g L (binaryOp .Mod (.int x t) (.int y u)) K b N := .still (fun v => .int (x.fmod y) v) k fun _ _ _ h => PyProof.Rows.mod_int' hy (h _ _)
theorem i_div (hy : y ≠ 0) (hp : Builtin.divisionGoesByPylong x y = false) (k : ∀ v, K (.int (x.fdiv y) v) b N) : Run prog w A g L (binaryOp .FloorDiv (.int x t) (.int y u)) K b N := .still (fun v => .int (x.fdiv y) v) k fun _ _ _ h => PyProof.Rows.floordiv_int hy (h _ _) (Or.inl hp)
theorem i_pow (hn : 0 ≤ y) (hn2 : y ≤ 1000000) (ha : x.natAbs < 2 ^ 64) (k : ∀ v, K (.int (x ^ y.toNat) v) b N) : Run prog w A g L (binaryOp .Pow (.int x t) (.int y u)) K b N := .still (fun v => .int (x ^ y.toNat) v) k fun _ _ _ h => PyProof.Rows.pow_int_small hn hn2 ha (h _ _)
theorem i_tdiv (h0 : (y == 0) = false) (h1 : Float64.isInf (Float64.ofFrac (decide (x < 0) != decide (y < 0)) x.natAbs y.natAbs) = false) (k : ∀ v : PT, K (.float (Float64.ofFrac (decide (x < 0) != decide (y < 0)) x.natAbs y.natAbs) v.1) b N) : Run prog w A g L (binaryOp .Div (.int x t) (.int y u)) K b N :=
  .stillP (fun v => .float (Float64.ofFrac (decide (x < 0) != decide (y < 0)) x.natAbs y.natAbs) v) k fun s _ h => AutoIntOps.truediv_2 (by simp [h0]) (by simp [h1]) (by dsimp only [Made.post]; exact h _)
theorem i_eq (k : K (.bool (x == y)) b N) : Run prog w A g L (compareOp .Eq (.int x t) (.int y u)) K b N := .still (fun _ => .bool (x == y)) (fun _ => k) fun s _ _ h => PyProof.Rows.eq_int (h s.toks s.toks)
theorem i_ne (k : K (.bool (x != y)) b N) : Run prog w A g L (compareOp .NotEq (.int x t) (.int y u)) K b N := .still (fun _ => .bool (x != y)) (fun _ => k) fun s _ _ h => PyProof.Rows.ne_int (h s.toks s.toks)
theorem i_gt (k : K (.bool (decide (y < x))) b N) : Run prog w A g L (compareOp .Gt (.int x t) (.int y u)) K b N := .still (fun _ => .bool (decide (y < x))) (fun _ => k) fun s _ _ h => PyProof.Rows.gt_int (h s.toks s.toks)
theorem i_ge (k : K (.bool (decide (y ≤ x))) b N) : Run prog w A g L (compareOp .GtE (.int x t) (.int y u)) K b N := .still (fun _ => .bool (decide (y ≤ x))) (fun _ => k) fun s _ _ h => PyProof.Rows.ge_int (h s.toks s.toks)

theorem f_add (k : ∀ v : PT, K (.float (Float64.add p q) v.1) b N) : Run prog w A g L (binaryOp .Add (.float p t) (.float q u)) K b N := .stillP (fun v => .float (Float64.add p q) v) k fun _ _ h => add_float (h _)
theorem f_sub (k : ∀ v : PT, K (.float (Float64.sub p q) v.1) b N) : Run prog w A g L (binaryOp .Sub (.float p t) (.float q u)) K b N := .stillP (fun v => .float (Float64.sub p q) v) k fun _ _ h => sub_float (h _)
theorem f_mul (k : ∀ v : PT, K (.float (Float64.mul p q) v.1) b N) : Run prog w A g L (binaryOp .Mult (.float p t) (.float q u)) K b N := .stillP (fun v => .float (Float64.mul p q) v) k fun _ _ h => mul_float (h _)
theorem f_div (hz : Float64.isZero q = false) (k : ∀ v : PT, K (.float (Float64.div p q) v.1) b N) : Run prog w A g L (binaryOp .Div (.float p t) (.float q u)) K b N := .stillP (fun v => .float (Float64.div p q) v) k fun s _ h => AutoFloatOpsIf.truediv (by rw [if_neg (by simp [hz])]; dsimp only [Made.post]; exact h _)
theorem f_mod (hz : Float64.isZero q = false) (k : ∀ v : PT, K (.float (Float64.divmod p q).snd v.1) b N) : Run prog w A g L (binaryOp .Mod (.float p t) (.float q u)) K b N := .stillP (fun v => .float ((Float64.divmod p q).snd) v) k fun s _ h => AutoFloatOpsIf.mod (by rw [if_neg (by simp [hz])]; dsimp only [Made.post]; exact h _)
theorem f_subi (hf : y.natAbs < 2 ^ 1023) (k : ∀ v : PT, K (.float (Float64.sub p (Float64.ofInt y)) v.1) b N) : Run prog w A g L (binaryOp .Sub (.float p t) (.int y u)) K b N := .stillP (fun v => .float (Float64.sub p (Float64.ofInt y)) v) k fun _ _ h => sub_fi_fits hf (h _)
theorem f_muli (hf : y.natAbs < 2 ^ 1023) (k : ∀ v : PT, K (.float (Float64.mul p (Float64.ofInt y)) v.1) b N) : Run prog w A g L (binaryOp .Mult (.float p t) (.int y u)) K b N := .stillP (fun v => .float (Float64.mul p (Float64.ofInt y)) v) k fun _ _ h => mul_fi_fits hf (h _)
theorem f_eq (k : K (.bool (Float64.cmp p q == some Ordering.eq)) b N) : Run prog w A g L (compareOp .Eq (.float p t) (.float q u)) K b N := .still (fun _ => .bool (Float64.cmp p q == some Ordering.eq)) (fun _ => k) fun s _ _ h => AutoFloatOps.eq_0 (h s.toks s.toks)
theorem f_int {sg : Bool} {m : Nat} {e : Int} (hd : Float64.decode p = .fin sg m e) (k : ∀ v, K (.int (Float64.truncOf sg m e) v) b N) : Run prog w A g L (call (.type "int") [.float p t]) K b N := .still (fun v => .int (Float64.truncOf sg m e) v) k fun _ _ _ h => call_int_float hd (h _ _)
theorem s_add {x y : Str} (hsz : x.length + y.length ≤ sizeLine) (k : ∀ v, K (.str (x ++ y) v) b N) : Run prog w A g L (binaryOp .Add (.str x t) (.str y u)) K b N := .still (fun v => .str (x ++ y) v) k fun _ _ _ h => PyProof.Rows.add_str h hsz
end
end Mine

end
section
namespace Mine
open PySem
namespace Fl
abbrev F := UInt64
def six : F := 4618441417868443648
def one : F := 4607182418800017408
def two : F := 4611686018427387904
def four : F := 4616189618054758400
def zer : F := 0
/-- hue by six: its whole part and its rest -/
def part (h : F) : Int × F :=
  let x := Float64.mul h six
  match Float64.decode x with
  | .fin sg m e => let i := Float64.truncOf sg m e; (i, Float64.sub x (Float64.ofInt i))
  | _ => (0, 0)
/-- the colour -/
def rgb (i : Int) (f s v : F) : F × F × F :=
  let p := Float64.mul v (Float64.sub one s)
  let q := Float64.mul v (Float64.sub one (Float64.mul s f))
  let t := Float64.mul v (Float64.sub one (Float64.mul s (Float64.sub one f)))
  if i == 0 then (v, t, p) else if i == 1 then (q, v, p) else if i == 2 then (p, v, t) else if i == 3 then (p, q, v) else if i == 4 then (t, p, v) else (v, p, q)
def max3 (a b c : F) : F := let m := if Float64.gt b a then b else a; if Float64.gt c m then c else m
def min3 (a b c : F) : F := let m := if Float64.lt b a then b else a; if Float64.lt c m then c else m
def eqF (a b : F) : Bool := Float64.cmp a b == some .eq
/-- what rgb_to_hsv tells -/
def hsv (r g b : F) : F × F × F :=
  let maxc := max3 r g b
  let minc := min3 r g b
  let rangec := Float64.sub maxc minc
  let s := Float64.div rangec maxc
  let rc := Float64.div (Float64.sub maxc r) rangec
  let gc := Float64.div (Float64.sub maxc g) rangec
  let bc := Float64.div (Float64.sub maxc b) rangec
  let h := if eqF r maxc then Float64.sub bc gc else if eqF g maxc then Float64.sub (Float64.add two rc) bc else Float64.sub (Float64.add four gc) rc
  ((Float64.divmod (Float64.div h six) one).2, s, maxc)
def q4 (a : Nat) : F := Float64.ofFrac false a 4
def at32 (q : Nat) : F := Float64.ofFrac false q 32
def okQ (q : Nat) : Bool := (part (at32 q)).1.fmod 6 == ((part (at32 (q % 32))).1) && (part (at32 q)).2 == (part (at32 (q % 32))).2
def okC (q a b : Nat) : Bool :=
  let (i, f) := part (at32 q)
  let (r, g, bl) := rgb i f (q4 a) (q4 b)
  let maxc := max3 r g bl
  let minc := min3 r g bl
  !(eqF (q4 a) zer) && !(eqF minc maxc) && !(Float64.isZero (Float64.sub maxc minc)) && !(Float64.isZero maxc) && hsv r g bl == (at32 q, q4 a, q4 b)
end Fl
end Mine

end
section
open PySem PySem.W PyProof.Rows PySem.Calls
namespace Mine
theorem sz {n : Nat} (h : n ≤ 16777216) : n ≤ sizeLine := h
def tupO (vs : List Value) : Obj := { cls := .type "tuple", data := .seq vs.toArray }
def lstO (vs : List Value) (n : Nat) : Obj := { cls := .type "list", data := .seq vs.toArray n }
section
variable {prog : Program} {w : World} {F : Frag} {n : Nat} {A : Around} {g : Heap} {L : Addr} {b : Bd} {N : Lg} {env : Env} {K : Value → Bd → Lg → Prop}

theorem Sta.grow {h h' : Heap} (St : Sta g L h b N) (hk : ∀ c o, h.get? c = some o → h'.get? c = some o) : Sta g L h' b N :=
  ⟨let ⟨m, F, hb⟩ := St.fr; ⟨m, F.grownK hk, hb⟩, St.news.grown hk, St.nd, St.bn⟩

/-- a step that may leave things of no use behind -/
theorem Run.grows {α ι : Type} {t : Sem α} (f : ι → α) {K : α → Bd → Lg → Prop} (k : ∀ u, K (f u) b N)
    (h : ∀ (s : Shared) (Q : α → Shared → Prop), Stp g L s b N → (∀ u h' tk, (∀ c o, s.heap.get? c = some o → h'.get? c = some o) → Q (f u) { s with heap := h', toks := tk }) → wpAny (model prog w) A t Q (fun _ _ => False) s) : Run prog w A g L t K b N :=
  .mk fun s St => h s _ St fun u h' tk hk => ⟨h', tk, b, N, rfl, St.st.grow hk, k u⟩

theorem r_call {func : Expr} {args : List Expr} {pos : Pos}
    (he : eval (.Call func args [] pos) env = (do callWith pos (← eval func env) [] (backTo pos (starEach args env)) (backToKw pos (keywordEach [] env))))
    (h : Run prog w A g L (eval func env) (fun f => Run prog w A g L (callWith pos f [] (backTo pos (starEach args env)) []) K) b N) : Run prog w A g L (eval (.Call func args [] pos) env) K b N :=
  .mk fun _ St => Call_ (h.use St fun _ _ _ _ _ S1 r1 => r1.use S1 fun v h' tk b' N' S' k => done' v h' tk b' N' S' k) he
theorem r_cwT {pos : Pos} {T : String} {e : Expr} {rest : List Expr} (he : starEach (e :: rest) env = (false, eval e env) :: starEach rest env) (hp : (backTo pos (starEach rest env)).any (·.1) = false)
    (h : Run prog w A g L (spliced (backTo pos (starEach (e :: rest) env))) (fun vs => Run prog w A g L (call (.type T) vs) K) b N) : Run prog w A g L (callWith pos (.type T) [] (backTo pos (starEach (e :: rest) env)) []) K b N :=
  .mk fun _ St => PyProof.Rows.callWith_type1 (h.use St fun _ _ _ _ _ S1 r1 => r1.use S1 fun v h' tk b' N' S' k => done' v h' tk b' N' S' k) he hp
theorem r_cwB {pos : Pos} {id : String} {first : List Value} {e : Expr} {rest : List Expr} (he : starEach (e :: rest) env = (false, eval e env) :: starEach rest env) (hp : (backTo pos (starEach rest env)).any (·.1) = false)
    (h : Run prog w A g L (spliced (backTo pos (starEach (e :: rest) env))) (fun vs => Run prog w A g L (call (.builtin id) (first ++ vs)) K) b N) : Run prog w A g L (callWith pos (.builtin id) first (backTo pos (starEach (e :: rest) env)) []) K b N :=
  .mk fun _ St => callWith_method1 (h.use St fun _ _ _ _ _ S1 r1 => r1.use S1 fun v h' tk b' N' S' k => done' v h' tk b' N' S' k) he hp
theorem r_cwB0 {pos : Pos} {id : String} {first : List Value} (h : Run prog w A g L (call (.builtin id) first) K b N) : Run prog w A g L (callWith pos (.builtin id) first (backTo pos (starEach [] env)) []) K b N :=
  .mk fun s St => callWith_method0 (h.out s St)
theorem r_cwK {pos : Pos} {f : Value} {first : List Value} {e : Expr} {rest : List Expr} (O : Okay F n A env g L) (hk : keepIn F f = true) (he : starEach (e :: rest) env = (false, eval e env) :: starEach rest env) (hp : (backTo pos (starEach rest env)).any (·.1) = false)
    (h : Run prog w A g L (spliced (backTo pos (starEach (e :: rest) env))) (fun vs => Run prog w A g L (call f (first ++ vs)) K) b N) : Run prog w A g L (callWith pos f first (backTo pos (starEach (e :: rest) env)) []) K b N :=
  .mk fun _ St => callWith_K O.X hk (h.use St fun _ _ _ _ _ S1 r1 => ⟨O.X.keeps S1.keep, r1.use S1 fun v h' tk b' N' S' k => done' v h' tk b' N' S' k⟩) he hp
theorem r_mcall {o : Expr} {name : Str} {apos pos : Pos} {args : List Expr} {pl : Sem Bool}
    (he : eval (.Call (.Attribute o name apos) args [] pos) env = (do
      let ov ← eval o env
      standAt apos.atName
      let (f, first) ← holding [ov] (getMethod ov name pl)
      callWith pos f first (backTo pos (starEach args env)) []))
    (h : Run prog w A g L (eval o env) (fun ov => Run prog w A g L (getMethod ov name pl) (fun fx => Run prog w A g L (callWith pos fx.1 fx.2 (backTo pos (starEach args env)) []) K)) b N) :
    Run prog w A g L (eval (.Call (.Attribute o name apos) args [] pos) env) K b N :=
  .mk fun _ St => MethodCall_ (h.use St fun _ _ _ _ _ S1 r1 => r1.use S1 fun _ _ _ _ _ S2 r2 => r2.use S2 fun v h' tk b' N' S' k => done' v h' tk b' N' S' k) he

theorem max_best (p q r : UInt64) (t u v : PT) : ∃ x : PT, (#[Value.float p t.1, .float q u.1, .float r v.1] : Array Value)[argBest (fun i j => Float64.gt ([p, q, r].getD i 0) ([p, q, r].getD j 0)) 2]? = some (.float (Fl.max3 p q r) x.1) := by
  simp only [argBest, Fl.max3, List.getD_cons_zero, List.getD_cons_succ]
  cases h1 : Float64.gt q p <;> simp only [Bool.false_eq_true, if_false, if_true, List.getD_cons_zero, List.getD_cons_succ]
  · cases h2 : Float64.gt r p
    · exact ⟨t, by simp⟩
    · exact ⟨v, by simp⟩
  · cases h2 : Float64.gt r q
    · exact ⟨u, by simp⟩
    · exact ⟨v, by simp⟩
theorem min_best (p q r : UInt64) (t u v : PT) : ∃ x : PT, (#[Value.float p t.1, .float q u.1, .float r v.1] : Array Value)[argBest (fun i j => Float64.lt ([p, q, r].getD i 0) ([p, q, r].getD j 0)) 2]? = some (.float (Fl.min3 p q r) x.1) := by
  simp only [argBest, Fl.min3, List.getD_cons_zero, List.getD_cons_succ]
  cases h1 : Float64.lt q p <;> simp only [Bool.false_eq_true, if_false, if_true, List.getD_cons_zero, List.getD_cons_succ]
  · cases h2 : Float64.lt r p
    · exact ⟨t, by simp⟩
    · exact ⟨v, by simp⟩
  · cases h2 : Float64.lt r q
    · exact ⟨u, by simp⟩
    · exact ⟨v, by simp⟩
theorem flt_at {p q r : UInt64} {t u v : Tok} {i : Nat} {x : Value} (h : (#[Value.float p t, .float q u, .float r v] : Array Value)[i]? = some x) : ∃ y, x = .float ([p, q, r].getD i 0) y := by
  match i with
  | 0 => simp at h; exact ⟨_, h.symm⟩
  | 1 => simp at h; exact ⟨_, h.symm⟩
  | 2 => simp at h; exact ⟨_, h.symm⟩
  | i + 3 => simp at h

theorem r_max3 {p q r : UInt64} {t u v : PT} (hh : A.handled = none) (k : ∀ x : PT, K (.float (Fl.max3 p q r) x.1) b N) : Run prog w A g L (call (.builtin "max") [.float p t.1, .float q u.1, .float r v.1]) K b N :=
  .grows (fun x : PT => .float (Fl.max3 p q r) x.1) k fun s Q St h => by
    have hT : (s.heap.push { cls := .type "tuple", data := .seq #[.float p t.1, .float q u.1, .float r v.1] }).IsTuple s.heap.objs.size #[.float p t.1, .float q u.1, .float r v.1] := ⟨_, Heap.get?_push_size _ rfl, rfl, 0, rfl⟩
    refine call_max_three (wpAny_pyIter_tuple hT ?_)
    have hsz : (s.heap.push { cls := .type "tuple", data := .seq #[.float p t.1, .float q u.1, .float r v.1] }).objs.size = s.heap.objs.size + 1 := Heap.size_push ..
    refine ⟨_, [_, s.heap.objs.size], [_], _, _, _, fun i j => Float64.gt ([p, q, r].getD i 0) ([p, q, r].getD j 0), rfl, Walks.tuple (A := A.in1) hh _ s.heap.objs.size (by rw [hsz]; exact Nat.ne_of_lt (Nat.lt_succ_self _)) #[.float p t.1, .float q u.1, .float r v.1],
      ⟨⟨_, Heap.get?_push_size _ rfl, rfl, rfl⟩, hT.push _⟩, fun d hd => ?_, by simp, fun i j vi vj s' Q' E' hi hj h' => ?_, fun x h' tk hP hk => ?_⟩
    · simp only [Heap.size_push, List.mem_cons, List.not_mem_nil, or_false] at hd ⊢
      rcases hd with rfl | rfl <;> first | exact Nat.lt_succ_self _ | exact Nat.lt_add_of_pos_right (k := 2) (by decide)
    · obtain ⟨_, rfl⟩ := flt_at hi
      obtain ⟨_, rfl⟩ := flt_at hj
      exact AutoFloatOps.gt_0 h'
    · obtain ⟨y, e⟩ := max_best p q r t u v
      have hx : x = .float (Fl.max3 p q r) y.1 := by
        have hP' : (#[Value.float p t.1, .float q u.1, .float r v.1] : Array Value)[argBest (fun i j => Float64.gt ([p, q, r].getD i 0) ([p, q, r].getD j 0)) 2]? = some x := hP
        rw [e] at hP'; exact (Option.some.inj hP').symm
      subst hx
      refine h y h' tk fun d o e => hk d o (fun hm => ?_) (Heap.get?_push_of_some _ (Heap.get?_push_of_some _ e))
      have lt := Heap.lt_size e
      simp only [hsz, List.mem_cons, List.not_mem_nil, or_false] at hm
      subst hm
      exact Nat.not_succ_lt_self lt
theorem r_min3 {p q r : UInt64} {t u v : PT} (hh : A.handled = none) (k : ∀ x : PT, K (.float (Fl.min3 p q r) x.1) b N) : Run prog w A g L (call (.builtin "min") [.float p t.1, .float q u.1, .float r v.1]) K b N :=
  .grows (fun x : PT => .float (Fl.min3 p q r) x.1) k fun s Q St h => by
    have hT : (s.heap.push { cls := .type "tuple", data := .seq #[.float p t.1, .float q u.1, .float r v.1] }).IsTuple s.heap.objs.size #[.float p t.1, .float q u.1, .float r v.1] := ⟨_, Heap.get?_push_size _ rfl, rfl, 0, rfl⟩
    refine call_min_three (wpAny_pyIter_tuple hT ?_)
    have hsz : (s.heap.push { cls := .type "tuple", data := .seq #[.float p t.1, .float q u.1, .float r v.1] }).objs.size = s.heap.objs.size + 1 := Heap.size_push ..
    refine ⟨_, [_, s.heap.objs.size], [_], _, _, _, fun i j => Float64.lt ([p, q, r].getD i 0) ([p, q, r].getD j 0), rfl, Walks.tuple (A := A.in1) hh _ s.heap.objs.size (by rw [hsz]; exact Nat.ne_of_lt (Nat.lt_succ_self _)) #[.float p t.1, .float q u.1, .float r v.1],
      ⟨⟨_, Heap.get?_push_size _ rfl, rfl, rfl⟩, hT.push _⟩, fun d hd => ?_, by simp, fun i j vi vj s' Q' E' hi hj h' => ?_, fun x h' tk hP hk => ?_⟩
    · simp only [Heap.size_push, List.mem_cons, List.not_mem_nil, or_false] at hd ⊢
      rcases hd with rfl | rfl <;> first | exact Nat.lt_succ_self _ | exact Nat.lt_add_of_pos_right (k := 2) (by decide)
    · obtain ⟨_, rfl⟩ := flt_at hi
      obtain ⟨_, rfl⟩ := flt_at hj
      exact AutoFloatOps.lt_0 h'
    · obtain ⟨y, e⟩ := min_best p q r t u v
      have hx : x = .float (Fl.min3 p q r) y.1 := by
        have hP' : (#[Value.float p t.1, .float q u.1, .float r v.1] : Array Value)[argBest (fun i j => Float64.lt ([p, q, r].getD i 0) ([p, q, r].getD j 0)) 2]? = some x := hP
        rw [e] at hP'; exact (Option.some.inj hP').symm
      subst hx
      refine h y h' tk fun d o e => hk d o (fun hm => ?_) (Heap.get?_push_of_some _ (Heap.get?_push_of_some _ e))
      have lt := Heap.lt_size e
      simp only [hsz, List.mem_cons, List.not_mem_nil, or_false] at hm
      subst hm
      exact Nat.not_succ_lt_self lt
end
end Mine

end
section
open PySem PySem.W PyProof.Rows PySem.Calls
set_option maxHeartbeats 8000000
namespace Mine
/-- a text of a's and b's: false is a, true is b -/
def ab (l : List Bool) : Str := ⟨(l.map fun c => if c then 98 else 97).toArray⟩
theorem ab_app (l r : List Bool) : ab l ++ ab r = ab (l ++ r) := by
  show (⟨_ ++ _⟩ : Str) = _
  simp [ab]
theorem ab_len (l : List Bool) : (ab l).length = l.length := by show (List.toArray _).size = _; simp
def eu : Nat → Int → Int → List Bool
  | 0, _, _ => []
  | n+1, x, y => if x = y then [] else if y < x then true :: eu n (x - y) y else false :: eu n x (y - x)
theorem eu_len : ∀ n x y, (eu n x y).length ≤ n
  | 0, _, _ => by simp [eu]
  | n+1, x, y => by
    unfold eu; split
    · simp
    · split <;> (simp only [List.length_cons]; have := eu_len n; rename_i h1 h2; exact Nat.succ_le_succ (this _ _))

theorem ab_a1 : Str.ofString "a" = ab [false] := by decide
theorem ab_b1 : Str.ofString "b" = ab [true] := by decide
theorem ab_nil : Str.ofString "" = ab [] := by decide
theorem sizeLine_eq' : sizeLine = 16777216 := by decide

local macro_rules | `(tactic| walk_at "in") => `(tactic| with_reducible repeat' (first | exact List.mem_cons_self | refine List.mem_cons_of_mem _ ?_))
local macro_rules | `(tactic| walk_at "up") => `(tactic| with_reducible repeat' (first | exact UpB.head | apply UpB.tail))
local macro_rules | `(tactic| walk_at "upo") => `(tactic| with_reducible repeat' (first | exact Up.head | apply Up.tail))
local macro_rules | `(tactic| walk_at "nm") => `(tactic| refine r_local rfl rfl (by kernel_rfl!) (by kernel_rfl!) (by walk_at "in") ?_)
local macro_rules | `(tactic| walk_at "st") => `(tactic| refine r_storeN rfl rfl (by kernel_rfl!) (by kernel_rfl!) ?_)
local macro_rules | `(tactic| walk_at "re") => `(tactic| refine r_storeO rfl rfl (by kernel_rfl!) (by walk_at "up") ?_)
local macro_rules | `(tactic| walk_at "as") => `(tactic| refine r_cons (r_assign (by kernel_rfl!) ?_))
local macro_rules | `(tactic| walk_at "sub") => `(tactic| repeat' (first | exact SubB.nil | refine SubB.cons (by walk_at "in") ?_))
local macro_rules | `(tactic| walk_at "sl") => `(tactic| repeat' (first | exact List.Sublist.refl _ | exact List.nil_sublist _ | refine List.Sublist.cons_cons _ ?_ | refine List.Sublist.cons _ ?_))

variable {w : World} {A : Around} {env : Env} {g : Heap} {L : Addr} {b : Bd} {N : Lg} {n : Nat}
theorem steps_run {x y : Int} {t1 t2 : Tok} {K : Value → Bd → Lg → Prop} (O : Okay (Mine.hd.heap_39 w.params) (n+1) A env g L) (hx : 0 < x) (hy : 0 < y) (hxy : x + y ≤ 64)
    (k : ∀ u, K (.str (ab (eu 64 x y)) u) b N) : Run PySem.Challenge.rw_pk0110_01.row.prog w A g L (call (.ref 210) [.int x t1, .int y t2]) K b N := by
  refine r_enter [(Str.ofString "more", .int x t1), (Str.ofString "less", .int y t2)] O (by rfl) (by rfl) (fun s _ => BindsTo.of_eq (by rfl)) (locs (by rfl)) (by rfl) (by rfl) (by rfl) (by decide) (by kernel_rfl!) ?_
  rintro g' L' A' env' rfl O'
  refine r_cons (r_assign (by kernel_rfl!) (r_cstr fun u => r_storeN rfl rfl (by kernel_rfl!) (by kernel_rfl!) ?_))
  dsimp only
  rw [ab_nil]
  refine r_cons (r_while (fun m b' N' => ∃ x' y' acc u1 u2 u3, b' = [(Str.ofString "more", .int x' u1), (Str.ofString "less", .int y' u2), (Str.ofString "steps", .str (ab acc) u3)] ∧ N' = N ∧ 0 < x' ∧ 0 < y' ∧ x' + y' ≤ m ∧ m ≤ 64 ∧ acc.length + m ≤ 64 ∧ acc ++ eu m x' y' = eu 64 x y) 64
    ⟨_, _, ⟨x, y, [], t1, t2, u, rfl, rfl, hx, hy, hxy, by omega, by simp, rfl⟩, by walk_at "sub", by kernel_rfl!, List.Sublist.refl _⟩ ?_)
  rintro m b' N' ⟨x', y', acc, u1, u2, u3, rfl, rfl, hx', hy', hm, hm2, hal, hacc⟩
  refine r_tcmp (by kernel_rfl!) ?_
  walk_at "nm"
  walk_at "nm"
  refine i_ne (r_tbool ?_)
  obtain ⟨m', rfl⟩ : ∃ m', m = m' + 1 := ⟨m - 1, by omega⟩
  by_cases hxy' : x' = y'
  · rw [if_neg (by simpa using hxy')]
    rw [eu, if_pos hxy', List.append_nil] at hacc
    dsimp only
    refine r_cons (r_ret ?_)
    walk_at "nm"
    rw [hacc]
    exact k u3
  · rw [if_pos (by simpa using hxy')]
    refine r_cons (r_if (r_tcmp (by kernel_rfl!) ?_))
    walk_at "nm"
    walk_at "nm"
    refine i_gt (r_tbool ?_)
    rw [eu, if_neg hxy'] at hacc
    by_cases hlt : y' < x'
    · rw [if_pos (by simpa using hlt)]
      rw [if_pos hlt] at hacc
      refine r_cons (r_assign (by kernel_rfl!) (r_bin ?_))
      walk_at "nm"
      refine r_cstr fun u4 => s_add ?_ fun u5 => ?_
      · rw [ab_b1, ab_len, ab_len, sizeLine_eq']; simp only [List.length_cons, List.length_nil]; omega
      walk_at "re"
      refine r_cons (r_assign (by kernel_rfl!) (r_bin ?_))
      walk_at "nm"
      walk_at "nm"
      refine i_sub fun u6 => ?_
      walk_at "re"
      refine r_nil (r_nil ?_)
      rw [ab_b1, ab_app]
      exact ⟨_, _, ⟨m', by omega, x' - y', y', acc ++ [true], u6, u2, u5, rfl, rfl, by omega, by omega, by omega, by omega, by simp; omega, by simpa using hacc⟩, by walk_at "sub", by kernel_rfl!, List.Sublist.refl _⟩
    · rw [if_neg (by simpa using hlt)]
      rw [if_neg hlt] at hacc
      refine r_cons (r_assign (by kernel_rfl!) (r_bin ?_))
      walk_at "nm"
      refine r_cstr fun u4 => s_add ?_ fun u5 => ?_
      · rw [ab_a1, ab_len, ab_len, sizeLine_eq']; simp only [List.length_cons, List.length_nil]; omega
      walk_at "re"
      refine r_cons (r_assign (by kernel_rfl!) (r_bin ?_))
      walk_at "nm"
      walk_at "nm"
      refine i_sub fun u6 => ?_
      walk_at "re"
      refine r_nil (r_nil ?_)
      rw [ab_a1, ab_app]
      exact ⟨_, _, ⟨m', by omega, x', y' - x', acc ++ [false], u1, u6, u5, rfl, rfl, by omega, by omega, by omega, by omega, by simp; omega, by simpa using hacc⟩, by walk_at "sub", by kernel_rfl!, List.Sublist.refl _⟩
end Mine

end
section
namespace Mine
open PySem
namespace Fl
def at16 (x : Nat) : F := Float64.ofFrac false x 16
def X (x s v : Nat) : F := Float64.ofFrac false (v * (64 - s * x)) 256
def Y (x s v : Nat) : F := Float64.ofFrac false (v * s * x) 256

def all17 (p : Nat → Nat → Nat → Bool) : Bool := (List.range 17).all fun x => (List.range 4).all fun s => (List.range 4).all fun v => p x (s + 1) (v + 1)
theorem all17_at {p : Nat → Nat → Nat → Bool} (h : all17 p = true) {x s v : Nat} (hx : x ≤ 16) (hs : 1 ≤ s ∧ s ≤ 4) (hv : 1 ≤ v ∧ v ≤ 4) : p x s v = true := by
  have h1 := List.all_eq_true.mp h x (List.mem_range.mpr (by omega))
  have h2 := List.all_eq_true.mp h1 (s - 1) (List.mem_range.mpr (by omega))
  have h3 := List.all_eq_true.mp h2 (v - 1) (List.mem_range.mpr (by omega))
  rwa [Nat.sub_add_cancel hs.1, Nat.sub_add_cancel hv.1] at h3
theorem k1 : all17 (fun x s v => Float64.mul (q4 v) (Float64.sub one (Float64.mul (q4 s) (at16 x))) == X x s v) = true := by decide +kernel
theorem k2 : (List.range 17).all (fun x => Float64.sub one (at16 x) == at16 (16 - x)) = true := by decide +kernel
theorem k3 : (List.range 4).all (fun s => (List.range 4).all fun v => Float64.mul (q4 (v + 1)) (Float64.sub one (q4 (s + 1))) == X 16 (s + 1) (v + 1) && q4 (v + 1) == X 0 (s + 1) (v + 1) && Float64.div (Y 16 (s + 1) (v + 1)) (X 0 (s + 1) (v + 1)) == q4 (s + 1) && !(Float64.isZero (X 0 (s + 1) (v + 1))) && !(Float64.isZero (Y 16 (s + 1) (v + 1))) && !(eqF (q4 (s + 1)) 0)) = true := by decide +kernel
theorem k4 : all17 (fun x s v => (Float64.gt (X 0 s v) (X x s v) == decide (0 < x)) && (Float64.gt (X x s v) (X 0 s v) == false) && (Float64.gt (X x s v) (X 16 s v) == decide (x < 16)) && (Float64.gt (X 16 s v) (X x s v) == false)) = true := by decide +kernel
theorem k4' : all17 (fun x s v => (Float64.lt (X 0 s v) (X x s v) == false) && (Float64.lt (X x s v) (X 0 s v) == decide (0 < x)) && (Float64.lt (X x s v) (X 16 s v) == false) && (Float64.lt (X 16 s v) (X x s v) == decide (x < 16))) = true := by decide +kernel
theorem k5 : all17 (fun x s v => Float64.sub (X 0 s v) (X x s v) == Y x s v && eqF (X x s v) (X 0 s v) == decide (x = 0)) = true := by decide +kernel
theorem k6 : all17 (fun x s v => Float64.div (Y x s v) (Y 16 s v) == at16 x) = true := by decide +kernel
/-- the six wedges: the places of red, green and blue between the top (0) and the foot (16) -/
def idx (c j : Nat) : Nat × Nat × Nat :=
  if c = 0 then (0, 16 - j, 16) else if c = 1 then (j, 0, 16) else if c = 2 then (16, 0, 16 - j) else if c = 3 then (16, j, 0) else if c = 4 then (16 - j, 16, 0) else (0, 16, j)
def hue (xr xg xb : Nat) : F :=
  (Float64.divmod (Float64.div (if xr = 0 then Float64.sub (at16 xb) (at16 xg) else if xg = 0 then Float64.sub (Float64.add two (at16 xr)) (at16 xb) else Float64.sub (Float64.add four (at16 xg)) (at16 xr)) six) one).2
theorem k7 : (List.range 32).all (fun r => hue (idx (3 * r / 16) (3 * r % 16)).1 (idx (3 * r / 16) (3 * r % 16)).2.1 (idx (3 * r / 16) (3 * r % 16)).2.2 == at32 r) = true := by decide +kernel
def okP (q : Nat) : Bool := match Float64.decode (Float64.mul (at32 q) six) with
  | .fin sg m e => Float64.truncOf sg m e == ((3 * q / 16 : Nat) : Int) && Float64.sub (Float64.mul (at32 q) six) (Float64.ofInt ((3 * q / 16 : Nat) : Int)) == at16 (3 * q % 16)
  | _ => false
theorem k8a : (List.range 250).all okP = true := by decide +kernel
theorem k8b : (List.range 250).all (fun q => okP (q + 250)) = true := by decide +kernel
theorem k8c : (List.range 250).all (fun q => okP (q + 500)) = true := by decide +kernel
theorem k8d : (List.range 250).all (fun q => okP (q + 750)) = true := by decide +kernel
theorem k9a : (List.range 13).all (fun p => Float64.ofFrac false p 4 == at32 (p * 8)) = true := by decide +kernel
theorem k9b : (List.range 57).all (fun p => Float64.ofFrac false p 8 == at32 (p * 4)) = true := by decide +kernel
theorem k9c : (List.range 241).all (fun p => Float64.ofFrac false p 16 == at32 (p * 2)) = true := by decide +kernel
def okT (m P : Nat) : Bool := match Float64.decode (Float64.mul (at32 (m * (32 / P))) (Float64.ofInt (P : Int))) with
  | .fin sg n e => Float64.truncOf sg n e == (m : Int)
  | _ => false
theorem k10 : ((List.range 4).all (fun m => okT m 4) && (List.range 8).all (fun m => okT m 8) && (List.range 16).all (fun m => okT m 16) && (List.range 32).all (fun m => okT m 32)) = true := by decide +kernel
theorem k11 : ((List.range 32).all (fun r => eqF (at32 r) (at32 r)) && (List.range 4).all (fun s => eqF (q4 (s + 1)) (q4 (s + 1)))) = true := by decide +kernel

section
variable {x s v : Nat}
theorem e1 (hx : x ≤ 16) (hs : 1 ≤ s ∧ s ≤ 4) (hv : 1 ≤ v ∧ v ≤ 4) : Float64.mul (q4 v) (Float64.sub one (Float64.mul (q4 s) (at16 x))) = X x s v := by simpa using all17_at k1 hx hs hv
theorem e2 (hx : x ≤ 16) : Float64.sub one (at16 x) = at16 (16 - x) := by simpa using List.all_eq_true.mp k2 x (List.mem_range.mpr (by omega))
theorem e3 (hs : 1 ≤ s ∧ s ≤ 4) (hv : 1 ≤ v ∧ v ≤ 4) : Float64.mul (q4 v) (Float64.sub one (q4 s)) = X 16 s v ∧ q4 v = X 0 s v ∧ Float64.div (Y 16 s v) (X 0 s v) = q4 s ∧ Float64.isZero (X 0 s v) = false ∧ Float64.isZero (Y 16 s v) = false ∧ eqF (q4 s) 0 = false := by
  have h1 := List.all_eq_true.mp k3 (s - 1) (List.mem_range.mpr (by omega))
  have h2 := List.all_eq_true.mp h1 (v - 1) (List.mem_range.mpr (by omega))
  rw [Nat.sub_add_cancel hs.1, Nat.sub_add_cancel hv.1] at h2
  simp only [Bool.and_eq_true, beq_iff_eq, Bool.not_eq_true'] at h2
  obtain ⟨⟨⟨⟨⟨a, b⟩, c⟩, d⟩, e⟩, f⟩ := h2
  exact ⟨a, b, c, d, e, f⟩
theorem e4 (hx : x ≤ 16) (hs : 1 ≤ s ∧ s ≤ 4) (hv : 1 ≤ v ∧ v ≤ 4) : Float64.gt (X 0 s v) (X x s v) = decide (0 < x) ∧ Float64.gt (X x s v) (X 0 s v) = false ∧ Float64.gt (X x s v) (X 16 s v) = decide (x < 16) ∧ Float64.gt (X 16 s v) (X x s v) = false := by
  have h := all17_at k4 hx hs hv
  simp only [Bool.and_eq_true, beq_iff_eq] at h
  exact ⟨h.1.1.1, h.1.1.2, h.1.2, h.2⟩
theorem e4' (hx : x ≤ 16) (hs : 1 ≤ s ∧ s ≤ 4) (hv : 1 ≤ v ∧ v ≤ 4) : Float64.lt (X 0 s v) (X x s v) = false ∧ Float64.lt (X x s v) (X 0 s v) = decide (0 < x) ∧ Float64.lt (X x s v) (X 16 s v) = false ∧ Float64.lt (X 16 s v) (X x s v) = decide (x < 16) := by
  have h := all17_at k4' hx hs hv
  simp only [Bool.and_eq_true, beq_iff_eq] at h
  exact ⟨h.1.1.1, h.1.1.2, h.1.2, h.2⟩
theorem e5 (hx : x ≤ 16) (hs : 1 ≤ s ∧ s ≤ 4) (hv : 1 ≤ v ∧ v ≤ 4) : Float64.sub (X 0 s v) (X x s v) = Y x s v ∧ eqF (X x s v) (X 0 s v) = decide (x = 0) := by
  have h := all17_at k5 hx hs hv
  simp only [Bool.and_eq_true, beq_iff_eq] at h
  exact h
theorem e6 (hx : x ≤ 16) (hs : 1 ≤ s ∧ s ≤ 4) (hv : 1 ≤ v ∧ v ≤ 4) : Float64.div (Y x s v) (Y 16 s v) = at16 x := by simpa using all17_at k6 hx hs hv

/-- the two ends stand among the three -/
def Ends (a b c : Nat) : Prop := a ≤ 16 ∧ b ≤ 16 ∧ c ≤ 16 ∧ (a = 0 ∨ b = 0 ∨ c = 0) ∧ (a = 16 ∨ b = 16 ∨ c = 16)
theorem idx_ends {c j : Nat} (hj : j ≤ 16) : Ends (idx c j).1 (idx c j).2.1 (idx c j).2.2 := by
  unfold idx Ends
  repeat' split
  all_goals (refine ⟨?_, ?_, ?_, ?_, ?_⟩ <;> simp <;> omega)

theorem max_X {a b c : Nat} (h : Ends a b c) (hs : 1 ≤ s ∧ s ≤ 4) (hv : 1 ≤ v ∧ v ≤ 4) : max3 (X a s v) (X b s v) (X c s v) = X 0 s v := by
  obtain ⟨ha, hb, hc, h0, h16⟩ := h
  obtain ⟨A1, A2, A3, A4⟩ := e4 ha hs hv
  obtain ⟨B1, B2, B3, B4⟩ := e4 hb hs hv
  obtain ⟨C1, C2, C3, C4⟩ := e4 hc hs hv
  have z : ∀ y, ¬ 0 < y → y = 0 := fun y h => by omega
  unfold max3
  rcases h0 with rfl | rfl | rfl
  · simp [B2, C2]
  · by_cases h : 0 < a
    · simp [A1, h, C2]
    · cases z a h; simp [A1, C2]
  · rcases h16 with rfl | rfl | h16
    · by_cases h : b < 16
      · by_cases h' : 0 < b
        · simp [B3, h, B1, h']
        · cases z b h'; simp [B3, B1]
      · have e : b = 16 := by omega
        subst e
        simp [B3, B1]
    · by_cases h' : 0 < a
      · simp [A4, A1, h']
      · cases z a h'; simp [A4, A1]
    · omega
theorem min_X {a b c : Nat} (h : Ends a b c) (hs : 1 ≤ s ∧ s ≤ 4) (hv : 1 ≤ v ∧ v ≤ 4) : min3 (X a s v) (X b s v) (X c s v) = X 16 s v := by
  obtain ⟨ha, hb, hc, h0, h16⟩ := h
  obtain ⟨A1, A2, A3, A4⟩ := e4' ha hs hv
  obtain ⟨B1, B2, B3, B4⟩ := e4' hb hs hv
  obtain ⟨C1, C2, C3, C4⟩ := e4' hc hs hv
  have z : ∀ y, y ≤ 16 → ¬ y < 16 → y = 16 := fun y h h' => by omega
  unfold min3
  rcases h16 with rfl | rfl | rfl
  · simp [B3, C3]
  · by_cases h : a < 16
    · simp [A4, h, C3]
    · cases z a ha h; simp [A4, C3]
  · rcases h0 with rfl | rfl | h0
    · by_cases h : 0 < b
      · by_cases h' : b < 16
        · simp [B2, h, B4, h']
        · cases z b hb h'; simp [B2, B4]
      · have e : b = 0 := by omega
        subst e
        simp [B2, B4]
    · by_cases h' : a < 16
      · simp [A1, A4, h']
      · cases z a ha h'; simp [A1, A4]
    · omega
theorem hsv_X {a b c : Nat} (h : Ends a b c) (hs : 1 ≤ s ∧ s ≤ 4) (hv : 1 ≤ v ∧ v ≤ 4) : hsv (X a s v) (X b s v) (X c s v) = (hue a b c, q4 s, q4 v) := by
  have E3 := e3 hs hv
  have hY : Float64.sub (X 0 s v) (X 16 s v) = Y 16 s v := (e5 (by omega) hs hv).1
  obtain ⟨ha, hb, hc, _, _⟩ := id h
  rw [show q4 v = X 0 s v from E3.2.1]
  unfold hsv hue
  simp only [max_X h hs hv, min_X h hs hv, hY, (e5 ha hs hv).1, (e5 hb hs hv).1, (e5 hc hs hv).1, e6 ha hs hv, e6 hb hs hv, e6 hc hs hv, (e5 ha hs hv).2, (e5 hb hs hv).2, E3.2.2.1, decide_eq_true_eq]
theorem rgb_X {c j : Nat} (hj : j ≤ 16) (hs : 1 ≤ s ∧ s ≤ 4) (hv : 1 ≤ v ∧ v ≤ 4) : rgb (c : Int) (at16 j) (q4 s) (q4 v) = (X (idx c j).1 s v, X (idx c j).2.1 s v, X (idx c j).2.2 s v) := by
  have E3 := e3 hs hv
  have T : Float64.mul (q4 v) (Float64.sub one (Float64.mul (q4 s) (Float64.sub one (at16 j)))) = X (16 - j) s v := by rw [e2 hj, e1 (by omega) hs hv]
  unfold rgb idx
  simp only [E3.1, e1 hj hs hv, T]
  rw [show q4 v = X 0 s v from E3.2.1]
  by_cases c0 : c = 0
  · subst c0; rfl
  by_cases c1 : c = 1
  · subst c1; rfl
  by_cases c2 : c = 2
  · subst c2; rfl
  by_cases c3 : c = 3
  · subst c3; rfl
  by_cases c4 : c = 4
  · subst c4; rfl
  · have n0 : ((c : Int) == 0) = false := by simp; omega
    have n1 : ((c : Int) == 1) = false := by simp; omega
    have n2 : ((c : Int) == 2) = false := by simp; omega
    have n3 : ((c : Int) == 3) = false := by simp; omega
    have n4 : ((c : Int) == 4) = false := by simp; omega
    simp only [n0, n1, n2, n3, n4, c0, c1, c2, c3, c4, if_false, Bool.false_eq_true]
theorem okP_at {q : Nat} (h : q < 1000) : okP q = true := by
  by_cases h1 : q < 250
  · exact List.all_eq_true.mp k8a q (List.mem_range.mpr h1)
  by_cases h2 : q < 500
  · have := List.all_eq_true.mp k8b (q - 250) (List.mem_range.mpr (by omega)); rwa [show q - 250 + 250 = q by omega] at this
  by_cases h3 : q < 750
  · have := List.all_eq_true.mp k8c (q - 500) (List.mem_range.mpr (by omega)); rwa [show q - 500 + 500 = q by omega] at this
  · have := List.all_eq_true.mp k8d (q - 750) (List.mem_range.mpr (by omega)); rwa [show q - 750 + 750 = q by omega] at this
theorem part_at {q : Nat} (h : q < 1000) : ∃ sg m e, Float64.decode (Float64.mul (at32 q) six) = .fin sg m e ∧ Float64.truncOf sg m e = ((3 * q / 16 : Nat) : Int) ∧ Float64.sub (Float64.mul (at32 q) six) (Float64.ofInt ((3 * q / 16 : Nat) : Int)) = at16 (3 * q % 16) := by
  have h1 := okP_at h
  unfold okP at h1
  split at h1
  · rename_i sg m e hd
    simp only [Bool.and_eq_true, beq_iff_eq] at h1
    exact ⟨sg, m, e, hd, h1.1, h1.2⟩
  · cases h1
theorem hue_at {q : Nat} : hue (idx (3 * (q % 32) / 16) (3 * (q % 32) % 16)).1 (idx (3 * (q % 32) / 16) (3 * (q % 32) % 16)).2.1 (idx (3 * (q % 32) / 16) (3 * (q % 32) % 16)).2.2 = at32 (q % 32) := by
  simpa using List.all_eq_true.mp k7 (q % 32) (List.mem_range.mpr (Nat.mod_lt _ (by omega)))
end
theorem eq_at {q : Nat} : eqF (at32 (q % 32)) (at32 (q % 32)) = true := by
  have := k11
  simp only [Bool.and_eq_true] at this
  exact List.all_eq_true.mp this.1 (q % 32) (List.mem_range.mpr (Nat.mod_lt _ (by omega)))
theorem eq_q4 {s : Nat} (hs : 1 ≤ s ∧ s ≤ 4) : eqF (q4 s) (q4 s) = true := by
  have := k11
  simp only [Bool.and_eq_true] at this
  have h := List.all_eq_true.mp this.2 (s - 1) (List.mem_range.mpr (by omega))
  rwa [Nat.sub_add_cancel hs.1] at h
def Parts (P : Nat) : Prop := P = 4 ∨ P = 8 ∨ P = 16 ∨ P = 32
theorem frac_at {p P : Nat} (hP : Parts P) (hp : p ≤ (P - 1) * P) : Float64.ofFrac false p P = at32 (p * (32 / P)) := by
  rcases hP with rfl | rfl | rfl | rfl
  · simpa using List.all_eq_true.mp k9a p (List.mem_range.mpr (by omega))
  · simpa using List.all_eq_true.mp k9b p (List.mem_range.mpr (by omega))
  · simpa using List.all_eq_true.mp k9c p (List.mem_range.mpr (by omega))
  · simp [at32]
theorem tell_at {m P : Nat} (hP : Parts P) (hm : m < P) : ∃ sg n e, Float64.decode (Float64.mul (at32 (m * (32 / P))) (Float64.ofInt (P : Int))) = .fin sg n e ∧ Float64.truncOf sg n e = (m : Int) := by
  have h : okT m P = true := by
    have := k10
    simp only [Bool.and_eq_true] at this
    obtain ⟨⟨⟨a, b⟩, c⟩, d⟩ := this
    rcases hP with rfl | rfl | rfl | rfl
    · exact List.all_eq_true.mp a m (List.mem_range.mpr hm)
    · exact List.all_eq_true.mp b m (List.mem_range.mpr hm)
    · exact List.all_eq_true.mp c m (List.mem_range.mpr hm)
    · exact List.all_eq_true.mp d m (List.mem_range.mpr hm)
  unfold okT at h
  split at h
  · rename_i sg n e hd
    exact ⟨sg, n, e, hd, by simpa using h⟩
  · cases h
end Fl
end Mine

end
section
open PySem PySem.W PyProof.Rows PySem.Calls
set_option maxHeartbeats 8000000
namespace Mine

local macro_rules | `(tactic| walk_at "in") => `(tactic| with_reducible repeat' (first | exact List.mem_cons_self | refine List.mem_cons_of_mem _ ?_))
local macro_rules | `(tactic| walk_at "up") => `(tactic| with_reducible repeat' (first | exact UpB.head | apply UpB.tail))
local macro_rules | `(tactic| walk_at "upo") => `(tactic| with_reducible repeat' (first | exact Up.head | apply Up.tail))
local macro_rules | `(tactic| walk_at "nm") => `(tactic| refine r_local rfl rfl (by kernel_rfl!) (by kernel_rfl!) (by walk_at "in") ?_)
local macro_rules | `(tactic| walk_at "st") => `(tactic| refine r_storeN rfl rfl (by kernel_rfl!) (by kernel_rfl!) ?_)
local macro_rules | `(tactic| walk_at "re") => `(tactic| refine r_storeO rfl rfl (by kernel_rfl!) (by walk_at "up") ?_)
local macro_rules | `(tactic| walk_at "as") => `(tactic| refine r_cons (r_assign (by kernel_rfl!) ?_))
local macro_rules | `(tactic| walk_at "sub") => `(tactic| repeat' (first | exact SubB.nil | refine SubB.cons (by walk_at "in") ?_))
local macro_rules | `(tactic| walk_at "sl") => `(tactic| repeat' (first | exact List.Sublist.refl _ | exact List.nil_sublist _ | refine List.Sublist.cons_cons _ ?_ | refine List.Sublist.cons _ ?_))
local macro_rules | `(tactic| walk_at "tup3") => `(tactic| (refine r_cons (r_ret (r_tuple (r_scons (by kernel_rfl!) ?_))); walk_at "nm"; refine r_scons (by kernel_rfl!) ?_; walk_at "nm"; refine r_scons (by kernel_rfl!) ?_; walk_at "nm"; refine r_snil (r_ntup (sz (by simp only [List.length_cons, List.length_nil]; omega)) fun _ => ?_)))
-- a test i == c that the number decides
local macro_rules | `(tactic| walk_at "no") => `(tactic| (refine r_cons (r_if (r_tcmp (by kernel_rfl!) ?_)); walk_at "nm"; refine r_cint fun _ => i_eq (r_tbool ?_); rw [if_neg (by decide)]; refine r_nil ?_))
local macro_rules | `(tactic| walk_at "yes") => `(tactic| (refine r_cons (r_if (r_tcmp (by kernel_rfl!) ?_)); walk_at "nm"; refine r_cint fun _ => i_eq (r_tbool ?_); rw [if_pos (by decide)]))

variable {w : World} {A : Around} {env : Env} {g : Heap} {L : Addr} {b : Bd} {N : Lg} {n : Nat}
theorem hsv_run {H S V : UInt64} {t1 t2 t3 : PT} {K : Value → Bd → Lg → Prop} {sg : Bool} {m : Nat} {e : Int} {c : Nat} (O : Okay (Mine.hd.heap_39 w.params) (n+1) A env g L)
    (h0 : Fl.eqF S 0 = false) (hd : Float64.decode (Float64.mul H Fl.six) = .fin sg m e) (hb : (Float64.truncOf sg m e).natAbs < 2 ^ 1023) (hc : (Float64.truncOf sg m e).fmod 6 = (c : Int)) (hc6 : c < 6)
    (k : ∀ a (u1 u2 u3 : PT), K (.ref a) b ((a, tupO [.float (Fl.rgb c (Float64.sub (Float64.mul H Fl.six) (Float64.ofInt (Float64.truncOf sg m e))) S V).1 u1.1, .float (Fl.rgb c (Float64.sub (Float64.mul H Fl.six) (Float64.ofInt (Float64.truncOf sg m e))) S V).2.1 u2.1, .float (Fl.rgb c (Float64.sub (Float64.mul H Fl.six) (Float64.ofInt (Float64.truncOf sg m e))) S V).2.2 u3.1]) :: N)) :
    Run PySem.Challenge.rw_pk0110_01.row.prog w A g L (call (.ref 59) [.float H t1.1, .float S t2.1, .float V t3.1]) K b N := by
  refine r_enter [(Str.ofString "h", .float H t1.1), (Str.ofString "s", .float S t2.1), (Str.ofString "v", .float V t3.1)] O (by rfl) (by rfl) (fun s _ => BindsTo.of_eq (by rfl)) (locs (by rfl)) (by rfl) (by rfl) (by rfl) (by decide) (by kernel_rfl!) ?_
  rintro g' L' A' env' rfl O'
  refine r_cons (r_if (r_tcmp (by kernel_rfl!) ?_))
  walk_at "nm"
  refine r_cflt fun u => f_eq (r_tbool ?_)
  rw [if_neg (by show ¬ (Fl.eqF S 0 = true); rw [h0]; simp)]
  refine r_nil ?_
  dsimp only
  -- i = int(h * 6.0)
  walk_at "as"
  refine r_call (by kernel_rfl!) (r_blt O' (by kernel_rfl!) (by kernel_rfl!) (by kernel_rfl!) rfl (by decide) (r_cwT (by kernel_rfl!) (by kernel_rfl!) (r_scons (by kernel_rfl!) (r_bin ?_))))
  walk_at "nm"
  refine r_cflt fun _ => f_mul fun _ => r_snil (f_int hd fun _ => ?_)
  walk_at "st"
  -- f = h * 6.0 - i
  walk_at "as"
  refine r_bin (r_bin ?_)
  walk_at "nm"
  refine r_cflt fun _ => f_mul fun _ => ?_
  walk_at "nm"
  refine f_subi hb fun _ => ?_
  walk_at "st"
  -- p = v * (1.0 - s)
  walk_at "as"
  refine r_bin ?_
  walk_at "nm"
  refine r_bin (r_cflt fun _ => ?_)
  walk_at "nm"
  refine f_sub fun _ => f_mul fun _ => ?_
  walk_at "st"
  -- q
  walk_at "as"
  refine r_bin ?_
  walk_at "nm"
  refine r_bin (r_cflt fun _ => r_bin ?_)
  walk_at "nm"
  walk_at "nm"
  refine f_mul fun _ => f_sub fun _ => f_mul fun _ => ?_
  walk_at "st"
  -- t
  walk_at "as"
  refine r_bin ?_
  walk_at "nm"
  refine r_bin (r_cflt fun _ => r_bin ?_)
  walk_at "nm"
  refine r_bin (r_cflt fun _ => ?_)
  walk_at "nm"
  refine f_sub fun _ => f_mul fun _ => f_sub fun _ => f_mul fun _ => ?_
  walk_at "st"
  -- i = i % 6
  walk_at "as"
  refine r_bin ?_
  walk_at "nm"
  refine r_cint fun _ => i_mod (by decide) fun _ => ?_
  rw [hc]
  walk_at "re"
  clear hc
  rcases (show c = 0 ∨ c = 1 ∨ c = 2 ∨ c = 3 ∨ c = 4 ∨ c = 5 by omega) with rfl | rfl | rfl | rfl | rfl | rfl
  · walk_at "yes"; walk_at "tup3"; exact k _ _ _ _
  · walk_at "no"; walk_at "yes"; walk_at "tup3"; exact k _ _ _ _
  · walk_at "no"; walk_at "no"; walk_at "yes"; walk_at "tup3"; exact k _ _ _ _
  · walk_at "no"; walk_at "no"; walk_at "no"; walk_at "yes"; walk_at "tup3"; exact k _ _ _ _
  · walk_at "no"; walk_at "no"; walk_at "no"; walk_at "no"; walk_at "yes"; walk_at "tup3"; exact k _ _ _ _
  · walk_at "no"; walk_at "no"; walk_at "no"; walk_at "no"; walk_at "no"; walk_at "yes"; walk_at "tup3"; exact k _ _ _ _
end Mine

end
section
open PySem PySem.W PyProof.Rows PySem.Calls
set_option maxHeartbeats 8000000
namespace Mine
local macro_rules | `(tactic| walk_at "in") => `(tactic| with_reducible repeat' (first | exact List.mem_cons_self | refine List.mem_cons_of_mem _ ?_))
local macro_rules | `(tactic| walk_at "up") => `(tactic| with_reducible repeat' (first | exact UpB.head | apply UpB.tail))
local macro_rules | `(tactic| walk_at "upo") => `(tactic| with_reducible repeat' (first | exact Up.head | apply Up.tail))
local macro_rules | `(tactic| walk_at "nm") => `(tactic| refine r_local rfl rfl (by kernel_rfl!) (by kernel_rfl!) (by walk_at "in") ?_)
local macro_rules | `(tactic| walk_at "st") => `(tactic| refine r_storeN rfl rfl (by kernel_rfl!) (by kernel_rfl!) ?_)
local macro_rules | `(tactic| walk_at "re") => `(tactic| refine r_storeO rfl rfl (by kernel_rfl!) (by walk_at "up") ?_)
local macro_rules | `(tactic| walk_at "as") => `(tactic| refine r_cons (r_assign (by kernel_rfl!) ?_))
local macro_rules | `(tactic| walk_at "sub") => `(tactic| repeat' (first | exact SubB.nil | refine SubB.cons (by walk_at "in") ?_))
local macro_rules | `(tactic| walk_at "sl") => `(tactic| repeat' (first | exact List.Sublist.refl _ | exact List.nil_sublist _ | refine List.Sublist.cons_cons _ ?_ | refine List.Sublist.cons _ ?_))

variable {w : World} {A : Around} {env : Env} {g : Heap} {L : Addr} {b : Bd} {N : Lg} {n : Nat}
theorem rgb_run {R G B : UInt64} {t1 t2 t3 : PT} {K : Value → Bd → Lg → Prop} (O : Okay (Mine.hd.heap_39 w.params) (n+1) A env g L)
    (h1 : Fl.eqF (Fl.min3 R G B) (Fl.max3 R G B) = false) (h2 : Float64.isZero (Fl.max3 R G B) = false) (h3 : Float64.isZero (Float64.sub (Fl.max3 R G B) (Fl.min3 R G B)) = false)
    (k : ∀ a (u1 u2 u3 : PT), K (.ref a) b ((a, tupO [.float (Fl.hsv R G B).1 u1.1, .float (Fl.hsv R G B).2.1 u2.1, .float (Fl.hsv R G B).2.2 u3.1]) :: N)) :
    Run PySem.Challenge.rw_pk0110_01.row.prog w A g L (call (.ref 52) [.float R t1.1, .float G t2.1, .float B t3.1]) K b N := by
  refine r_enter [(Str.ofString "r", .float R t1.1), (Str.ofString "g", .float G t2.1), (Str.ofString "b", .float B t3.1)] O (by rfl) (by rfl) (fun s _ => BindsTo.of_eq (by rfl)) (locs (by rfl)) (by rfl) (by rfl) (by rfl) (by decide) (by kernel_rfl!) ?_
  rintro g' L' A' env' rfl O'
  walk_at "as"
  refine r_call (by kernel_rfl!) (r_blt O' (by kernel_rfl!) (by kernel_rfl!) (by kernel_rfl!) rfl (by decide) (r_cwB (by kernel_rfl!) (by kernel_rfl!) (r_scons (by kernel_rfl!) ?_)))
  walk_at "nm"
  refine r_scons (by kernel_rfl!) ?_
  walk_at "nm"
  refine r_scons (by kernel_rfl!) ?_
  walk_at "nm"
  refine r_snil (r_max3 O'.hh fun _ => ?_)
  walk_at "st"
  walk_at "as"
  refine r_call (by kernel_rfl!) (r_blt O' (by kernel_rfl!) (by kernel_rfl!) (by kernel_rfl!) rfl (by decide) (r_cwB (by kernel_rfl!) (by kernel_rfl!) (r_scons (by kernel_rfl!) ?_)))
  walk_at "nm"
  refine r_scons (by kernel_rfl!) ?_
  walk_at "nm"
  refine r_scons (by kernel_rfl!) ?_
  walk_at "nm"
  refine r_snil (r_min3 O'.hh fun _ => ?_)
  walk_at "st"
  walk_at "as"
  refine r_bin ?_
  walk_at "nm"
  walk_at "nm"
  refine f_sub fun _ => ?_
  walk_at "st"
  walk_at "as"
  walk_at "nm"
  walk_at "st"
  refine r_cons (r_if (r_tcmp (by kernel_rfl!) ?_))
  walk_at "nm"
  walk_at "nm"
  refine f_eq (r_tbool ?_)
  rw [if_neg (by show ¬ (Fl.eqF _ _ = true); rw [h1]; simp)]
  refine r_nil ?_
  dsimp only
  walk_at "as"
  refine r_bin ?_
  walk_at "nm"
  walk_at "nm"
  refine f_div h2 fun _ => ?_
  walk_at "st"
  walk_at "as"
  refine r_bin (r_bin ?_)
  walk_at "nm"
  walk_at "nm"
  refine f_sub fun _ => ?_
  walk_at "nm"
  refine f_div h3 fun _ => ?_
  walk_at "st"
  walk_at "as"
  refine r_bin (r_bin ?_)
  walk_at "nm"
  walk_at "nm"
  refine f_sub fun _ => ?_
  walk_at "nm"
  refine f_div h3 fun _ => ?_
  walk_at "st"
  walk_at "as"
  refine r_bin (r_bin ?_)
  walk_at "nm"
  walk_at "nm"
  refine f_sub fun _ => ?_
  walk_at "nm"
  refine f_div h3 fun _ => ?_
  walk_at "st"
  refine r_cons (r_if (r_tcmp (by kernel_rfl!) ?_))
  walk_at "nm"
  walk_at "nm"
  refine f_eq (r_tbool ?_)
  have e6 : Float64.isZero 4618441417868443648 = false := by decide +kernel
  have e1 : Float64.isZero 4607182418800017408 = false := by decide +kernel
  cases c1 : (Float64.cmp R (Fl.max3 R G B) == some Ordering.eq) with
  | true =>
    rw [if_pos rfl]
    walk_at "as"
    refine r_bin ?_
    walk_at "nm"
    walk_at "nm"
    refine f_sub fun _ => ?_
    walk_at "st"
    refine r_nil ?_
    walk_at "as"
    refine r_bin (r_bin ?_)
    walk_at "nm"
    refine r_cflt fun _ => f_div e6 fun _ => r_cflt fun _ => f_mod e1 fun _ => ?_
    walk_at "re"
    refine r_cons (r_ret (r_tuple (r_scons (by kernel_rfl!) ?_)))
    walk_at "nm"
    refine r_scons (by kernel_rfl!) ?_
    walk_at "nm"
    refine r_scons (by kernel_rfl!) ?_
    walk_at "nm"
    refine r_snil (r_ntup (sz (by simp only [List.length_cons, List.length_nil]; omega)) fun _ => ?_)
    have q : (Fl.hsv R G B).1 = (Float64.divmod (Float64.div (Float64.sub (Float64.div (Float64.sub (Fl.max3 R G B) B) (Float64.sub (Fl.max3 R G B) (Fl.min3 R G B))) (Float64.div (Float64.sub (Fl.max3 R G B) G) (Float64.sub (Fl.max3 R G B) (Fl.min3 R G B)))) 4618441417868443648) 4607182418800017408).2 := by
      simp only [Fl.hsv, Fl.eqF, c1, if_true]; rfl
    have k' := fun a (u1 u2 u3 : PT) => k a u1 u2 u3
    rw [q] at k'
    exact k' _ _ _ _
  | false =>
    rw [if_neg Bool.false_ne_true]
    refine r_cons (r_if (r_tcmp (by kernel_rfl!) ?_))
    walk_at "nm"
    walk_at "nm"
    refine f_eq (r_tbool ?_)
    cases c2 : (Float64.cmp G (Fl.max3 R G B) == some Ordering.eq) with
    | true =>
      rw [if_pos rfl]
      walk_at "as"
      refine r_bin (r_bin (r_cflt fun _ => ?_))
      walk_at "nm"
      refine f_add fun _ => ?_
      walk_at "nm"
      refine f_sub fun _ => ?_
      walk_at "st"
      refine r_nil (r_nil ?_)
      walk_at "as"
      refine r_bin (r_bin ?_)
      walk_at "nm"
      refine r_cflt fun _ => f_div e6 fun _ => r_cflt fun _ => f_mod e1 fun _ => ?_
      walk_at "re"
      refine r_cons (r_ret (r_tuple (r_scons (by kernel_rfl!) ?_)))
      walk_at "nm"
      refine r_scons (by kernel_rfl!) ?_
      walk_at "nm"
      refine r_scons (by kernel_rfl!) ?_
      walk_at "nm"
      refine r_snil (r_ntup (sz (by simp only [List.length_cons, List.length_nil]; omega)) fun _ => ?_)
      have q : (Fl.hsv R G B).1 = (Float64.divmod (Float64.div (Float64.sub (Float64.add 4611686018427387904 (Float64.div (Float64.sub (Fl.max3 R G B) R) (Float64.sub (Fl.max3 R G B) (Fl.min3 R G B)))) (Float64.div (Float64.sub (Fl.max3 R G B) B) (Float64.sub (Fl.max3 R G B) (Fl.min3 R G B)))) 4618441417868443648) 4607182418800017408).2 := by
        simp only [Fl.hsv, Fl.eqF, c1, c2, if_true, Bool.false_eq_true, if_false]; rfl
      have k' := fun a (u1 u2 u3 : PT) => k a u1 u2 u3
      rw [q] at k'
      exact k' _ _ _ _
    | false =>
      rw [if_neg Bool.false_ne_true]
      walk_at "as"
      refine r_bin (r_bin (r_cflt fun _ => ?_))
      walk_at "nm"
      refine f_add fun _ => ?_
      walk_at "nm"
      refine f_sub fun _ => ?_
      walk_at "st"
      refine r_nil (r_nil ?_)
      walk_at "as"
      refine r_bin (r_bin ?_)
      walk_at "nm"
      refine r_cflt fun _ => f_div e6 fun _ => r_cflt fun _ => f_mod e1 fun _ => ?_
      walk_at "re"
      refine r_cons (r_ret (r_tuple (r_scons (by kernel_rfl!) ?_)))
      walk_at "nm"
      refine r_scons (by kernel_rfl!) ?_
      walk_at "nm"
      refine r_scons (by kernel_rfl!) ?_
      walk_at "nm"
      refine r_snil (r_ntup (sz (by simp only [List.length_cons, List.length_nil]; omega)) fun _ => ?_)
      have q : (Fl.hsv R G B).1 = (Float64.divmod (Float64.div (Float64.sub (Float64.add 4616189618054758400 (Float64.div (Float64.sub (Fl.max3 R G B) G) (Float64.sub (Fl.max3 R G B) (Fl.min3 R G B)))) (Float64.div (Float64.sub (Fl.max3 R G B) R) (Float64.sub (Fl.max3 R G B) (Fl.min3 R G B)))) 4618441417868443648) 4607182418800017408).2 := by
        simp only [Fl.hsv, Fl.eqF, c1, c2, Bool.false_eq_true, if_false]; rfl
      have k' := fun a (u1 u2 u3 : PT) => k a u1 u2 u3
      rw [q] at k'
      exact k' _ _ _ _
end Mine

end
section
open PySem PySem.W PyProof.Rows PySem.Calls
namespace Mine
def rngI (x left : Int) : Obj := { cls := .type "range_iterator", data := .fields #[rawInt x, rawInt left, rawInt 1] }
section
variable {prog : Program} {w : World} {F : Frag} {n : Nat} {A : Around} {g : Heap} {L : Addr} {b : Bd} {N N' : Lg} {env : Env} {K : Value → Bd → Lg → Prop}

theorem Sta.sameBut {h h' : Heap} {a : Addr} {o o' : Obj} (St : Sta g L h b N) (u : Up a o o' N N') (hs : Heap.SameBut a h h') (ho : h'.get? a = some o') : Sta g L h' b N' := by
  obtain ⟨⟨m, F, hb⟩, n, d, bn⟩ := St
  have D := n _ u.mem
  obtain ⟨oL, es, ep, hL, r⟩ := F.ns
  refine ⟨⟨m, ⟨⟨oL, es, ep, (hs.2 _ (Ne.symm D.2.1)).trans hL, r⟩, fun c x q => ?_, F.above⟩, hb⟩, fun p hp => ?_, by rw [u.adr]; exact d, bn⟩
  · have hne : c ≠ a := fun z => by have := D.2.2; simp only [← z] at this; rw [q] at this; cases this
    exact (hs.2 c hne).trans (F.keep c x q)
  · rcases u.in' d p hp with rfl | ⟨h1, h2⟩
    · exact ⟨ho, D.2.1, D.2.2⟩
    · have P := n p h1
      exact ⟨(hs.2 _ h2).trans P.1, P.2⟩
/-- the head entry is given up -/
theorem Sta.gone {h h' : Heap} {a : Addr} {o : Obj} (St : Sta g L h b ((a, o) :: N)) (hs : Heap.ExtBut a h h') : Sta g L h' b N := by
  obtain ⟨⟨m, F, hb⟩, n, d, bn⟩ := St
  have D := n _ (List.mem_cons_self)
  obtain ⟨oL, es, ep, hL, r⟩ := F.ns
  simp only [List.map_cons, List.nodup_cons] at d
  refine ⟨⟨m, ⟨⟨oL, es, ep, hs _ _ (Ne.symm D.2.1) hL, r⟩, fun c x q => ?_, F.above⟩, hb⟩, fun p hp => ?_, d.2, bn⟩
  · have hne : c ≠ a := fun z => by have := D.2.2; simp only [← z] at this; rw [q] at this; cases this
    exact hs c x hne (F.keep c x q)
  · have P := n p (List.mem_cons_of_mem _ hp)
    refine ⟨hs _ _ (fun e => d.1 (e ▸ List.mem_map_of_mem hp)) P.1, P.2⟩
theorem Sta.ext {h h' : Heap} (St : Sta g L h b N) (hs : Heap.ExtBut h.objs.size h h') : Sta g L h' b N :=
  St.grow fun c o e => hs c o (Nat.ne_of_lt (Heap.lt_size e)) e

theorem r_range {x : Int} {t : Tok} (k : ∀ a t1 t2 t3, K (.ref a) b ((a, { cls := .type "range", data := .fields #[.int 0 t1, .int x t2, .int 1 t3] }) :: N)) : Run prog w A g L (call (.type "range") [.int x t]) K b N :=
  .mk fun s St => call_range_1 ⟨_, _, _, _, rfl, St.st.push _, k _ _ _ _⟩
theorem r_rangeIter {a : Addr} {x : Int} {t1 t2 t3 : Tok} (hx : 0 ≤ x) (hx2 : x < 2 ^ 62) (hm : (a, ({ cls := .type "range", data := .fields #[.int 0 t1, .int x t2, .int 1 t3] } : Obj)) ∈ N)
    (k : ∀ it, K (.ref it) b ((it, rngI 0 x) :: N)) : Run prog w A g L (pyIter (.ref a)) K b N := .mk fun s St => by
  refine wpAny_pyIter_range (St.get hm) (small_one (by omega) (by omega) (by omega) hx2) ?_
  refine ⟨_, s.toks, _, _, rfl, St.st.push _, ?_⟩
  have e : Builtin.Range.rangeSize 0 x 1 = x := by rw [rangeSize_one]; split <;> omega
  rw [e]; exact k _
theorem r_rangeNext {it : Addr} {x left : Int} {K : Option Value → Bd → Lg → Prop} (hl : 0 < left) (k : ∀ u, K (some (.int x u)) b ((it, rngI (x + 1) (left - 1)) :: N)) : Run prog w A g L (pyNext (.ref it)) K b ((it, rngI x left) :: N) := .mk fun s St =>
  wpAny_pyNext_range_item (St.get List.mem_cons_self) hl fun h' hit hs => ⟨h', _, _, _, rfl, St.st.sameBut Up.head hs hit, k _⟩
theorem r_rangeEnd {it : Addr} {x left : Int} {K : Option Value → Bd → Lg → Prop} (hh : A.handled = none) (hl : left ≤ 0) (k : K none b N) : Run prog w A g L (pyNext (.ref it)) K b ((it, rngI x left) :: N) := .mk fun s St =>
  wpAny_pyNext_range_end hh (St.get List.mem_cons_self) hl fun h' hs => ⟨h', s.toks, _, _, rfl, St.st.gone hs, k⟩
theorem r_len {l : Addr} {vs : List Value} {c : Nat} {t : Int} (hm : (l, lstO vs c) ∈ N) (e : (vs.length : Int) = t) (hz : t < 2 ^ 63) (k : ∀ u, K (.int t u) b N) : Run prog w A g L (call (.builtin "len") [.ref l]) K b N :=
  .still (fun u => .int t u) k fun s Q St h => call_len_list ⟨_, St.get hm, rfl, c, rfl⟩ (by rw [List.size_toArray, e]; exact hz) (by rw [List.size_toArray, e]; exact h _ _)
theorem r_item {l : Addr} {vs : List Value} {c : Nat} {i : Int} {t : Tok} {v : Value} {value slice : Expr} (hm : (l, lstO vs c) ∈ N) (h0 : 0 ≤ i) (h1 : i < 2 ^ 63) (hv : vs[i.toNat]? = some v)
    (hs : subscripted slice false (.ref l) (.int i t) = operate [.ref l, .int i t] (getItem (.ref l) (.int i t))) (k : K v b N) : Run prog w A g L (subscriptTail value slice (.ref l) (.int i t)) K b N :=
  .still (fun _ => v) (fun _ => k) fun s Q St h => by
    have hL : s.heap.IsList l vs.toArray := ⟨_, St.get hm, rfl, c, rfl⟩
    exact tail_any hL.typeIs slot_list_getitem.lookup (wpAny_getItem_list hL h0 h1 (by simpa using hv) (h s.toks s.toks)) hs
theorem r_itemT {l : Addr} {vs : List Value} {i : Int} {t : Tok} {v : Value} {value slice : Expr} (hm : (l, tupO vs) ∈ N) (h0 : 0 ≤ i) (h1 : i < 2 ^ 63) (hv : vs[i.toNat]? = some v)
    (hs : subscripted slice false (.ref l) (.int i t) = operate [.ref l, .int i t] (getItem (.ref l) (.int i t))) (k : K v b N) : Run prog w A g L (subscriptTail value slice (.ref l) (.int i t)) K b N :=
  .still (fun _ => v) (fun _ => k) fun s Q St h => by
    have hL : IsTup s.heap l vs.toArray := ⟨_, St.get hm, rfl, 0, rfl⟩
    have hlt : i.toNat < vs.length := (List.getElem?_eq_some_iff.mp hv).1
    refine item_tupleT hL (by omega) h1 (j := i.toNat) ?_ hv (h s.toks s.toks) hs
    unfold seqIndex?
    simp only [show ¬ i < 0 by omega, if_false]
    rw [if_pos (by simp; omega)]
theorem r_append {l : Addr} {vs : List Value} {c : Nat} {v : Value} (u : Up l (lstO vs c) (lstO (vs ++ [v]) (c + 1)) N N') (hz : vs.length ≤ sizeLine) (k : K .none b N') : Run prog w A g L (call (.builtin "list.append") [.ref l, v]) K b N := .mk fun s St =>
  append_at (hsz := by rw [List.size_toArray]; exact hz) (St.get u.mem) fun h' hs ho' => ⟨h', s.toks, _, _, rfl, St.st.sameBut u hs (by rw [ho']; simp [lstO]), k⟩
theorem r_gmAppend {l : Addr} {vs : List Value} {c : Nat} {pl : Sem Bool} {K : Value × List Value → Bd → Lg → Prop} (hm : (l, lstO vs c) ∈ N) (k : K (.builtin "list.append", [.ref l]) b N) : Run prog w A g L (getMethod (.ref l) "append" pl) K b N :=
  .still (fun _ => (.builtin "list.append", [.ref l])) (fun _ => k) fun s Q St h => getMethod_list_append (St.get hm) rfl rfl (h s.toks s.toks)
theorem r_asTuple {elts : List Expr} {x1 : Nat} {pos : Pos} {t : Addr} {vs : List Value} {K : Unit → Bd → Lg → Prop} (hh : A.handled = none) (hm : (t, tupO vs) ∈ N) (hn : (assignEach elts env).length = vs.length) (hst : (assignEach elts env).findIdx? (·.1) = none)
    (h : Run prog w A g L (assignInOrder ((assignEach elts env).map (·.2)) vs) K b N) : Run prog w A g L (assign (.Tuple elts x1 pos) env (.ref t)) K b N := .mk fun s St => by
  refine wpAny_assign_Tuple hh (items := vs.toArray) ⟨_, St.get hm, rfl, 0, rfl⟩ (by rw [List.size_toArray]; exact hn) hst fun h' he => ?_
  exact h.use (s := { s with heap := h' }) ⟨St.st.ext he, St.pos⟩ fun v h2 tk b' N' S' k => ⟨h2, tk, b', N', rfl, S'.st, k⟩
theorem r_aioCons {t : Value → Sem Unit} {ts : List (Value → Sem Unit)} {x : Value} {xs : List Value} {K : Unit → Bd → Lg → Prop} (h : Run prog w A g L (t x) (fun _ => Run prog w A g L (assignInOrder ts xs) K) b N) : Run prog w A g L (assignInOrder (t :: ts) (x :: xs)) K b N :=
  Run.bind (Run.holding h)
theorem r_aioNil {xs : List Value} {K : Unit → Bd → Lg → Prop} (k : K () b N) : Run prog w A g L (assignInOrder [] xs) K b N := Run.pure k
theorem Okay.booked (O : Okay F n A env g L) (e : nsIn F cStatics sharingNotToldKey = some none) : NoneBooked g := by
  obtain ⟨p, loose, mean, mg, mb, T⟩ := O.T
  obtain ⟨mc, ⟨o, es, ep, ho, hd, hk, hf⟩, _⟩ := T.nolimit
  refine ⟨mc, ⟨o, es, ep, ho, hd, hk, hf⟩, ?_⟩
  unfold nsIn at e
  split at e
  · rename_i c d es' n' sl q
    have := O.X _ _ q
    rw [ho] at this
    cases this
    cases hd
    split at e
    · cases e
    · rename_i he
      rw [← hf]
      unfold nsFind findBy
      rw [← Array.find?_toList, he]
      rfl
  · cases e
theorem NoneBooked.keeps {h h' : Heap} (x : NoneBooked h) (hk : ∀ c o, h.get? c = some o → h'.get? c = some o) : NoneBooked h' := let ⟨mc, a, e⟩ := x; ⟨mc, a.keeps hk, e⟩
theorem eqAt_flt {s : Shared} {p q : UInt64} {t u : PT} (hb : NoneBooked s.heap) (h : Fl.eqF p q = true) : SeqAt.EqAt A s (.float p t.1) (.float q u.1) true := fun prog w E Q hq => by
  have ht := t.2
  have hu := u.2
  have h0 : (t.1 == 0 || u.1 == 0) = false := by
    have a : (t.1 == 0) = false := beq_eq_false_iff_ne.mpr (Nat.ne_of_gt ht)
    have b : (u.1 == 0) = false := beq_eq_false_iff_ne.mpr (Nat.ne_of_gt hu)
    rw [a, b]; rfl
  unfold eqBool
  refine wpAny_holding ?_
  refine wpAny_ite_split (fun _ => wpAny_bind (wpAny_rule (wpAny_pure hq))) (fun _ => ?_)
  have e : (Float64.cmp p q == some Ordering.eq) = true := h
  have r : wpAny (model prog w) A (compareOp .Eq (.float p t.1) (.float q u.1)) (fun v s' => wpAny (model prog w) A (truthOfDropped v) Q E s') E s := AutoFloatOps.eq_0 (by rw [e]; exact wpAny_truthy_bool hq)
  have hq' : ∀ c : Bool, wpAny (model prog w) A (if c = true then pure true else (do truthOfDropped (← richCompare .Eq (.float p t.1) (.float q u.1)))) Q E s := fun c => by
    cases c with
    | true => exact wpAny_pure hq
    | false => exact wpAny_bind r
  refine wpAny_bind ?_
  show wpAny _ A (isSame.created (p == q && !Float64.isNaN p) t.1 u.1) _ E s
  cases p == q && !Float64.isNaN p with
  | true => exact wpAny_isSame_str (y := ⟨#[98]⟩) (z := ⟨#[98]⟩) h0 hb hq'
  | false => exact wpAny_isSame_str (y := ⟨#[98]⟩) (z := ⟨#[97]⟩) h0 hb hq'
theorem r_neTup {a c : Addr} {vs ws : List Value} (hu : A.units + 1 < cLine) (ha : (a, tupO vs) ∈ N) (hc : (c, tupO ws) ∈ N) (hl : vs.length = ws.length)
    (he : ∀ (s : Shared), Stp g L s b N → ∀ (j : Nat) (h1 : j < vs.toArray.size) (h2 : j < ws.toArray.size), SeqAt.EqAt A.in1 s vs.toArray[j] ws.toArray[j] true) (k : K (.bool false) b N) : Run prog w A g L (compareOp .NotEq (.ref a) (.ref c)) K b N :=
  .still (fun _ => .bool false) (fun _ => k) fun s Q St h => by
    have r := SeqAt.RcNeAt.tuples (A := A) (s := s) (e := fun _ => true) (items := vs.toArray) (items2 := ws.toArray) ⟨_, St.get ha, rfl, 0, rfl⟩ ⟨_, St.get hc, rfl, 0, rfl⟩ (by omega) (fun j h1 h2 => he s St j h1 h2)
    have e : (!((List.range (min vs.toArray.size ws.toArray.size)).all (fun _ => true) && vs.toArray.size == ws.toArray.size)) = false := by simp [hl]
    rw [e] at r
    exact cmp_ofNotEq (r prog w _ Q (h s.toks s.toks))
end
end Mine

end
section
open PySem PySem.W PyProof.Rows PySem.Calls
set_option maxHeartbeats 8000000
namespace Mine
local macro_rules | `(tactic| walk_at "in") => `(tactic| with_reducible repeat' (first | exact List.mem_cons_self | refine List.mem_cons_of_mem _ ?_))
local macro_rules | `(tactic| walk_at "up") => `(tactic| with_reducible repeat' (first | exact UpB.head | apply UpB.tail))
local macro_rules | `(tactic| walk_at "upo") => `(tactic| with_reducible repeat' (first | exact Up.head | apply Up.tail))
local macro_rules | `(tactic| walk_at "nm") => `(tactic| refine r_local rfl rfl (by kernel_rfl!) (by kernel_rfl!) (by walk_at "in") ?_)
local macro_rules | `(tactic| walk_at "st") => `(tactic| refine r_storeN rfl rfl (by kernel_rfl!) (by kernel_rfl!) ?_)
local macro_rules | `(tactic| walk_at "re") => `(tactic| refine r_storeO rfl rfl (by kernel_rfl!) (by walk_at "up") ?_)
local macro_rules | `(tactic| walk_at "as") => `(tactic| refine r_cons (r_assign (by kernel_rfl!) ?_))
local macro_rules | `(tactic| walk_at "sub") => `(tactic| repeat' (first | exact SubB.nil | refine SubB.cons (by walk_at "in") ?_))
local macro_rules | `(tactic| walk_at "sl") => `(tactic| repeat' (first | exact List.Sublist.refl _ | exact List.nil_sublist _ | refine List.Sublist.cons_cons _ ?_ | refine List.Sublist.cons _ ?_))
theorem notInf_small {n d : Nat} (hd : 0 < d) (hn : n ≤ 1000) : Float64.isInf (Float64.ofFrac false n d) = false := by
  refine PySem.Flt.notInf_ofFrac hd ?_
  have h1 : 2000 * 2 ^ 1074 < (2 ^ 54 - 1) * 2 ^ 2045 := by decide +kernel
  have h2 : 2 * (n * 2 ^ 1074) ≤ 2000 * 2 ^ 1074 := by
    rw [← Nat.mul_assoc]; exact Nat.mul_le_mul_right _ (by omega)
  exact Nat.lt_of_le_of_lt h2 (Nat.lt_of_lt_of_le h1 (Nat.le_mul_of_pos_left _ hd))

section
variable {prog : Program} {w : World} {A : Around} {g : Heap} {L : Addr} {b : Bd} {N : Lg} {K : Value → Bd → Lg → Prop}
theorem i_tdivN {x y : Nat} {z : Int} {t u : Tok} {v : UInt64} (hz : z = (y : Int)) (hy : 0 < y) (hx : x ≤ 1000) (hf : Float64.ofFrac false x y = v) (k : ∀ c : PT, K (.float v c.1) b N) : Run prog w A g L (binaryOp .Div (.int (x : Int) t) (.int z u)) K b N := by
  subst hz
  have e : Float64.ofFrac (decide ((x : Int) < 0) != decide ((y : Int) < 0)) (x : Int).natAbs (y : Int).natAbs = v := by
    rw [show decide ((x : Int) < 0) = false by simp, show decide ((y : Int) < 0) = false by simp]; simpa using hf
  refine i_tdiv (by simp; omega) ?_ fun c => ?_
  · rw [e, ← hf]; exact notInf_small hy hx
  · rw [e]; exact k c
end

def pa (y : Int) : Nat := 1 + (y.fmod 4).toNat
def br (y : Int) : Nat := 1 + ((y.fdiv 4).fmod 4).toNat
theorem pa_eq (y : Int) : 1 + y.fmod 4 = ((pa y : Nat) : Int) := by unfold pa; have := Int.fmod_nonneg_of_pos y (show (0:Int) < 4 by omega); omega
theorem br_eq (y : Int) : 1 + (y.fdiv 4).fmod 4 = ((br y : Nat) : Int) := by unfold br; have := Int.fmod_nonneg_of_pos (y.fdiv 4) (show (0:Int) < 4 by omega); omega
theorem pa_le (y : Int) : 1 ≤ pa y ∧ pa y ≤ 4 := by unfold pa; have := Int.fmod_lt_of_pos y (show (0:Int) < 4 by omega); omega
theorem br_le (y : Int) : 1 ≤ br y ∧ br y ≤ 4 := by unfold br; have := Int.fmod_lt_of_pos (y.fdiv 4) (show (0:Int) < 4 by omega); omega

theorem wedge (q : Nat) : 3 * q / 16 % 6 = 3 * (q % 32) / 16 ∧ 3 * q % 16 = 3 * (q % 32) % 16 := by
  have h : 3 * q = 3 * (q % 32) + 16 * (6 * (q / 32)) := by omega
  have h6 : 3 * (q % 32) / 16 < 6 := by omega
  constructor
  · rw [h, Nat.add_mul_div_left _ _ (by omega), Nat.add_mul_mod_self_left, Nat.mod_eq_of_lt h6]
  · rw [h, Nat.add_mul_mod_self_left]
/-- the hues of the first i spots -/
def hueL (P leap start i : Nat) : List Int := (List.range i).map fun k => (((start + k * leap) % P : Nat) : Int)
theorem hueL_succ (P leap start i : Nat) : hueL P leap start (i + 1) = hueL P leap start i ++ [(((start + i * leap) % P : Nat) : Int)] := by simp [hueL, List.range_succ]
theorem hueL_len (P leap start i : Nat) : (hueL P leap start i).length = i := by simp [hueL]

variable {w : World} {A : Around} {env : Env} {g : Heap} {L : Addr} {b : Bd} {N : Lg} {n : Nat}
theorem hues_run {P leap start : Nat} {t1 t2 t3 : Tok} {l : Addr} {vs : List Value} {ns : List Int} {c : Nat} {K : Value → Bd → Lg → Prop} (O : Okay (Mine.hd.heap_39 w.params) (n+2) A env g L)
    (hP : Fl.Parts P) (hl : leap < P) (hs : start < P) (hm : (l, lstO vs c) ∈ N) (hi : IntsAre vs ns) (hn0 : 0 < ns.length) (hn1 : ns.length ≤ 100)
    (k : ∀ a us c', IntsAre us (hueL P leap start P) → K (.ref a) b ((a, lstO us c') :: N)) :
    Run PySem.Challenge.rw_pk0110_01.row.prog w A g L (call (.ref 203) [.ref l, .int (P : Int) t1, .int (leap : Int) t2, .int (start : Int) t3]) K b N := by
  have hP32 : P ≤ 32 ∧ 4 ≤ P := by rcases hP with rfl | rfl | rfl | rfl <;> omega
  refine r_enter [(Str.ofString "numbers", .ref l), (Str.ofString "parts", .int (P : Int) t1), (Str.ofString "leap", .int (leap : Int) t2), (Str.ofString "start", .int (start : Int) t3)] O (by rfl) (by rfl) (fun s _ => BindsTo.of_eq (by rfl)) (locs (by rfl)) (by rfl) (by rfl) (by rfl) (by decide) (by kernel_rfl!) ?_
  rintro g' L' A' env' rfl O'
  walk_at "as"
  refine r_list (r_snil (r_nlist (sz (by simp)) fun hl' => ?_))
  walk_at "st"
  refine r_cons (r_for (fun _ => by rfl) (r_call (by kernel_rfl!) (r_blt O' (by kernel_rfl!) (by kernel_rfl!) (by kernel_rfl!) rfl (by decide) (r_cwT (by kernel_rfl!) (by kernel_rfl!) (r_scons (by kernel_rfl!) ?_)))))
  walk_at "nm"
  refine r_snil (r_range fun ra _ _ _ => r_rangeIter (by omega) (by omega) List.mem_cons_self fun it => ?_)
  refine ⟨fun m b' N' => ∃ i us c', i ≤ P ∧ m = P - i ∧ IntsAre us (hueL P leap start i) ∧ b' = [(Str.ofString "numbers", .ref l), (Str.ofString "parts", .int (P : Int) t1), (Str.ofString "leap", .int (leap : Int) t2), (Str.ofString "start", .int (start : Int) t3), (Str.ofString "hues", .ref hl')] ∧ N' = (it, rngI (i : Int) ((P : Int) - i)) :: (hl', lstO us c') :: N, P, ⟨_, _, ⟨0, [], 0, by omega, by omega, .nil, rfl, by simp; rfl⟩, by walk_at "sub", by kernel_rfl!, by walk_at "sl"⟩, ?_⟩
  rintro m b' N' ⟨i, us, c', hiP, rfl, hus, rfl, rfl⟩
  by_cases hend : i = P
  · subst hend
    refine r_rangeEnd O'.hh (by omega) ?_
    dsimp only
    refine r_cons (r_ret ?_)
    walk_at "nm"
    exact k _ _ _ hus
  refine r_rangeNext (by omega) fun u => ?_
  dsimp only
  refine r_goName (r_asName ?_)
  walk_at "st"
  have hlen : (vs.length : Int) = (ns.length : Int) := by rw [hi.length]
  have hj : i % ns.length < ns.length := Nat.mod_lt _ hn0
  obtain ⟨ty, hty⟩ := hi.get (i % ns.length) (ns[i % ns.length]) (by simp [hj])
  generalize hy : ns[i % ns.length] = y at hty
  -- y = numbers[k % len(numbers)]
  walk_at "as"
  refine r_sub ?_
  walk_at "nm"
  refine r_bin ?_
  walk_at "nm"
  refine r_call (by kernel_rfl!) (r_blt O' (by kernel_rfl!) (by kernel_rfl!) (by kernel_rfl!) rfl (by decide) (r_cwB (by kernel_rfl!) (by kernel_rfl!) (r_scons (by kernel_rfl!) ?_)))
  walk_at "nm"
  refine r_snil (r_len (List.mem_cons_of_mem _ (List.mem_cons_of_mem _ hm)) hlen (by omega) fun _ => i_mod (by omega) fun _ => ?_)
  have hfm : (i : Int).fmod (ns.length : Int) = ((i % ns.length : Nat) : Int) := by rw [Int.fmod_eq_emod_of_nonneg _ (by omega)]; rfl
  rw [hfm]
  refine r_item (List.mem_cons_of_mem _ (List.mem_cons_of_mem _ hm)) (by omega) (by omega) (by rw [Int.toNat_natCast]; exact hty) (by kernel_rfl!) ?_
  walk_at "st"
  -- place = start + k * leap
  walk_at "as"
  refine r_bin ?_
  walk_at "nm"
  refine r_bin ?_
  walk_at "nm"
  walk_at "nm"
  have hil : i * leap ≤ 31 * 31 := Nat.mul_le_mul (by omega) (by omega)
  refine i_mul (IntMulOk.of_left (intBits_le_64 (by omega) (by omega))) fun _ => i_add fun _ => ?_
  have hpl : (start : Int) + (i : Int) * (leap : Int) = ((start + i * leap : Nat) : Int) := by push_cast; rfl
  rw [hpl]
  have hpb : start + i * leap ≤ (P - 1) * P := by
    have h1 : i * leap ≤ (P - 1) * (P - 1) := Nat.mul_le_mul (by omega) (by omega)
    have h2 : (P - 1) * P = (P - 1) * (P - 1) + (P - 1) := by
      rw [show P = (P - 1) + 1 by omega]; simp [Nat.mul_add]
    omega
  have hpb2 : start + i * leap ≤ 992 := by omega
  generalize hpe : start + i * leap = p at *
  walk_at "st"
  -- pale = (1 + y % 4) / 4
  walk_at "as"
  refine r_bin (r_bin (r_cint fun _ => r_bin ?_))
  walk_at "nm"
  refine r_cint fun _ => i_mod (by decide) fun _ => i_add fun _ => r_cint fun _ => ?_
  rw [pa_eq]
  refine i_tdivN (y := 4) rfl (by omega) (by have := pa_le y; omega) (v := Fl.q4 (pa y)) rfl fun _ => ?_
  walk_at "st"
  -- bright = (1 + y // 4 % 4) / 4
  walk_at "as"
  refine r_bin (r_bin (r_cint fun _ => r_bin (r_bin ?_)))
  walk_at "nm"
  refine r_cint fun _ => i_div (by decide) (PyProof.noPylong_small (by decide)) fun _ => r_cint fun _ => i_mod (by decide) fun _ => i_add fun _ => r_cint fun _ => ?_
  rw [br_eq]
  refine i_tdivN (y := 4) rfl (by omega) (by have := br_le y; omega) (v := Fl.q4 (br y)) rfl fun _ => ?_
  walk_at "st"
  -- red, green, blue = hsv_to_rgb(place / parts, pale, bright)
  have hq : p * (32 / P) < 1000 := by rcases hP with rfl | rfl | rfl | rfl <;> simp <;> omega
  generalize hqe : p * (32 / P) = q at hq
  obtain ⟨sg, mm, e, hd, htr, hsub⟩ := Fl.part_at hq
  have hc6 : 3 * q / 16 % 6 < 6 := Nat.mod_lt _ (by omega)
  have E3 := Fl.e3 (pa_le y) (br_le y)
  have hr1 := (wedge q).1
  have hr2 := (wedge q).2
  have hrgb := Fl.rgb_X (c := 3 * (q % 32) / 16) (j := 3 * (q % 32) % 16) (by omega) (pa_le y) (br_le y)
  have hends := Fl.idx_ends (c := 3 * (q % 32) / 16) (j := 3 * (q % 32) % 16) (by omega)
  have hfr : Float64.ofFrac false p P = Fl.at32 q := by rw [Fl.frac_at hP (by omega), hqe]
  refine r_cons (r_assignT (by kernel_rfl!) (by kernel_rfl!) (r_call (by kernel_rfl!) (r_glob O' (by kernel_rfl!) (by kernel_rfl!) (by rfl) (r_cwK O' (by kernel_rfl!) (by kernel_rfl!) (by kernel_rfl!) (r_scons (by kernel_rfl!) (r_bin ?_))))))
  walk_at "nm"
  walk_at "nm"
  refine i_tdivN (y := P) rfl (by omega) (by omega) (v := Fl.at32 q) hfr fun _ => r_scons (by kernel_rfl!) ?_
  walk_at "nm"
  refine r_scons (by kernel_rfl!) ?_
  walk_at "nm"
  refine r_snil (hsv_run O' E3.2.2.2.2.2 hd (by rw [htr]; omega) (c := 3 * q / 16 % 6) (by rw [htr, Int.fmod_eq_emod_of_nonneg _ (by omega)]; omega) hc6 fun a1 _ _ _ => ?_)
  rw [htr, hsub, hr1, hr2, hrgb]
  refine r_asTuple O'.hh List.mem_cons_self (by rfl) (by rfl) (r_aioCons (r_asName ?_))
  walk_at "st"
  refine r_aioCons (r_asName ?_)
  walk_at "st"
  refine r_aioCons (r_asName ?_)
  walk_at "st"
  refine r_aioNil ?_
  -- told = rgb_to_hsv(red, green, blue)
  have hmx := Fl.max_X hends (pa_le y) (br_le y)
  have hmn := Fl.min_X hends (pa_le y) (br_le y)
  have hhs := Fl.hsv_X hends (pa_le y) (br_le y)
  rw [Fl.hue_at] at hhs
  walk_at "as"
  refine r_call (by kernel_rfl!) (r_glob O' (by kernel_rfl!) (by kernel_rfl!) (by rfl) (r_cwK O' (by kernel_rfl!) (by kernel_rfl!) (by kernel_rfl!) (r_scons (by kernel_rfl!) ?_)))
  walk_at "nm"
  refine r_scons (by kernel_rfl!) ?_
  walk_at "nm"
  refine r_scons (by kernel_rfl!) ?_
  walk_at "nm"
  refine r_snil (rgb_run O' ?_ ?_ ?_ fun a2 _ _ _ => ?_)
  · rw [hmx, hmn]; exact (Fl.e5 (by omega) (pa_le y) (br_le y)).2
  · rw [hmx]; exact E3.2.2.2.1
  · rw [hmx, hmn, (Fl.e5 (by omega) (pa_le y) (br_le y)).1]; exact E3.2.2.2.2.1
  rw [hhs]
  walk_at "st"
  -- if told != (place % parts / parts, pale, bright)
  have hpm : (p : Int).fmod (P : Int) = ((p % P : Nat) : Int) := by rw [Int.fmod_eq_emod_of_nonneg _ (by omega)]; rfl
  have hPd : P * (32 / P) = 32 := by rcases hP with rfl | rfl | rfl | rfl <;> rfl
  have hmq : p % P * (32 / P) = q % 32 := by
    have e := Nat.mul_mod_mul_right (32 / P) p P
    rw [hPd, hqe] at e; exact e.symm
  have hmP : p % P < P := Nat.mod_lt _ (by omega)
  have hfr2 : Float64.ofFrac false (p % P) P = Fl.at32 (q % 32) := by
    rw [Fl.frac_at hP (by have : 1 * P ≤ (P - 1) * P := Nat.mul_le_mul_right _ (by omega); omega), hmq]
  refine r_cons (r_if (r_tcmp (by kernel_rfl!) ?_))
  walk_at "nm"
  refine r_tuple (r_scons (by kernel_rfl!) (r_bin (r_bin ?_)))
  walk_at "nm"
  walk_at "nm"
  refine i_mod (by omega) fun _ => ?_
  rw [hpm]
  walk_at "nm"
  refine i_tdivN (y := P) rfl (by omega) (by omega) (v := Fl.at32 (q % 32)) hfr2 fun _ => r_scons (by kernel_rfl!) ?_
  walk_at "nm"
  refine r_scons (by kernel_rfl!) ?_
  walk_at "nm"
  refine r_snil (r_ntup (sz (by simp only [List.length_cons, List.length_nil]; omega)) fun a3 => ?_)
  have hu : A'.units + 8 * (n + 1) < cLine := O'.hu
  have hbk := O'.booked (by kernel_rfl!)
  refine r_neTup (by omega) (List.mem_cons_of_mem _ List.mem_cons_self) List.mem_cons_self rfl ?_ (r_tbool ?_)
  · intro s St j h1 h2
    have hb' := NoneBooked.keeps hbk St.keep
    have q1 : Fl.eqF (Fl.at32 (q % 32)) (Fl.at32 (q % 32)) = true := Fl.eq_at
    have q2 : Fl.eqF (Fl.q4 (pa y)) (Fl.q4 (pa y)) = true := Fl.eq_q4 (pa_le y)
    have q3 : Fl.eqF (Fl.q4 (br y)) (Fl.q4 (br y)) = true := Fl.eq_q4 (br_le y)
    match j with
    | 0 => exact eqAt_flt hb' q1
    | 1 => exact eqAt_flt hb' q2
    | 2 => exact eqAt_flt hb' q3
    | j + 3 => exact absurd h1 (by simp)
  rw [if_neg Bool.false_ne_true]
  refine r_nil ?_
  dsimp only
  -- hues.append(int(told[0] * parts))
  obtain ⟨sg2, n2, e2, hd2, htr2⟩ := Fl.tell_at hP hmP
  rw [hmq] at hd2
  refine r_cons (r_expr (by kernel_rfl!) (by kernel_rfl!) (r_mcall (by rfl) ?_))
  walk_at "nm"
  refine r_gmAppend (List.mem_cons_of_mem _ (List.mem_cons_of_mem _ (List.mem_cons_of_mem _ (List.mem_cons_of_mem _ List.mem_cons_self)))) (r_cwB (by kernel_rfl!) (by kernel_rfl!) (r_scons (by kernel_rfl!) (r_call (by kernel_rfl!) (r_blt O' (by kernel_rfl!) (by kernel_rfl!) (by kernel_rfl!) rfl (by decide) (r_cwT (by kernel_rfl!) (by kernel_rfl!) (r_scons (by kernel_rfl!) (r_bin (r_sub ?_))))))))
  walk_at "nm"
  refine r_cint fun _ => r_itemT (List.mem_cons_of_mem _ List.mem_cons_self) (by decide) (by decide) (by rfl) (by kernel_rfl!) ?_
  walk_at "nm"
  refine f_muli (by simp; omega) fun _ => r_snil (f_int hd2 fun ut => r_snil ?_)
  rw [htr2]
  refine r_append (.tail (.tail (.tail (.tail .head)))) (sz ?_) ⟨trivial, r_nil ?_⟩
  · rw [hus.length, hueL_len]; omega
  refine ⟨_, _, ⟨P - (i + 1), by omega, i + 1, us ++ [.int ((p % P : Nat) : Int) ut], c' + 1, by omega, rfl, ?_, rfl, rfl⟩, by walk_at "sub", by kernel_rfl!, ?_⟩
  · rw [hueL_succ, hpe]; exact hus.append (.cons _ _ .nil)
  · have e1 : (i : Int) + 1 = ((i + 1 : Nat) : Int) := by push_cast; rfl
    have e2 : (P : Int) - i - 1 = (P : Int) - ((i + 1 : Nat) : Int) := by push_cast; omega
    rw [e1, e2]
    exact .cons _ (.cons _ (.cons _ (.refl _)))
end Mine

end
section
open PySem PySem.W PyProof.Rows PySem.Calls
namespace Mine
def slcO (l u st : Value) : Obj := { cls := .type "slice", data := .fields #[l, u, st] }
/-- values that are these texts -/
inductive TextsAre : List Value → List Str → Prop where
  | nil : TextsAre [] []
  | cons (x : Str) (t : Tok) {vs : List Value} {xs : List Str} : TextsAre vs xs → TextsAre (.str x t :: vs) (x :: xs)
theorem TextsAre.length : ∀ {vs : List Value} {xs : List Str}, TextsAre vs xs → vs.length = xs.length
  | _, _, .nil => rfl
  | _, _, .cons _ _ h => by simp [h.length]
theorem TextsAre.append : ∀ {vs ws : List Value} {xs ys : List Str}, TextsAre vs xs → TextsAre ws ys → TextsAre (vs ++ ws) (xs ++ ys)
  | _, _, _, _, .nil, h => h
  | _, _, _, _, .cons x t h, h' => .cons x t (h.append h')
theorem TextsAre.vals : ∀ {vs : List Value} {xs : List Str}, TextsAre vs xs → ∃ l : List (Str × Tok), vs = strValues l ∧ l.map (·.1) = xs
  | _, _, .nil => ⟨[], rfl, rfl⟩
  | _, _, .cons x t h => let ⟨l, e1, e2⟩ := h.vals; ⟨(x, t) :: l, by rw [e1]; rfl, by simp [e2]⟩
theorem TextsAre.of_vals : ∀ l : List (Str × Tok), TextsAre (strValues l) (l.map (·.1))
  | [] => .nil
  | (x, t) :: r => .cons x t (of_vals r)
theorem TextsAre.get : ∀ {vs : List Value} {xs : List Str}, TextsAre vs xs → ∀ (i : Nat) (x : Str), xs[i]? = some x → ∃ t, vs[i]? = some (.str x t)
  | _, _, .cons y t _, 0, x, e => by simp at e; subst e; exact ⟨t, rfl⟩
  | _, _, .cons _ _ h, i + 1, x, e => by simpa using h.get i x (by simpa using e)

section
variable {prog : Program} {w : World} {F : Frag} {n : Nat} {A : Around} {g : Heap} {L : Addr} {b : Bd} {N N' : Lg} {env : Env} {K : Value → Bd → Lg → Prop} {x y : Str} {t u : Tok}

theorem r_slice {lower upper step : Option Expr} {p : Pos}
    (h : Run prog w A g L (evalPart lower env) (fun l => Run prog w A g L (evalPart upper env) (fun u => Run prog w A g L (evalPart step env) (fun st b' N' => ∀ a, K (.ref a) b' ((a, slcO l u st) :: N')))) b N) :
    Run prog w A g L (eval (.Slice lower upper step p) env) K b N :=
  .mk fun _ St => wpAny_Slice (h.use St fun _ _ _ _ _ S1 r1 => r1.use S1 fun _ _ _ _ _ S2 r2 => r2.use S2 fun _ h3 t3 b3 N3 S3 k => ⟨_, t3, b3, _, rfl, S3.st.push _, k _⟩)
theorem r_pnone (k : K .none b N) : Run prog w A g L (evalPart none env) K b N := Run.pure k
theorem r_psome {e : Expr} (h : Run prog w A g L (eval e env) K b N) : Run prog w A g L (evalPart (some e) env) K b N := h

def slTxt (x : Str) (l u st : Option (Int × Tok)) : Str := if ((st.map (·.1)).getD 1 == 1 && (slicePicked x l u st).length == x.length) = true then x else ⟨((slicePicked x l u st).filterMap (x.cps[·]?)).toArray⟩
theorem r_strSl {value slice : Expr} {a : Addr} {lo hi st : Option (Int × Tok)} {ops : List Value} (hm : (a, slcO (partValue lo) (partValue hi) (partValue st)) ∈ N) (h0 : ((st.map (·.1)).getD 1 == 0) = false) (e : slTxt x lo hi st = y) (hz : y.length ≤ sizeLine)
    (hs : subscripted slice false (.str x t) (.ref a) = operate ops (getItem (.str x t) (.ref a))) (k : ∀ c, K (.str y c) b N) : Run prog w A g L (subscriptTail value slice (.str x t) (.ref a)) K b N :=
  .still (fun c => .str y c) k fun s Q St h => by
    subst e
    refine subscriptTail_ops (typeIs_str s x t) F.slot_str_getitem.lookup (wpAny_getItem_str_slice (l := lo) (u := hi) (st := st) ⟨_, St.get hm, rfl, rfl⟩ h0 (post_val_or_str ⟨hz, fun t' k => h t' k⟩)) hs (fun _ => ?_)
    cases value <;> rfl
theorem r_tupFrom {value slice : Expr} {c a : Addr} {vs : List Value} {i : Nat} {u : Tok} {ops : List Value} (hc : (c, tupO vs) ∈ N) (hm : (a, slcO (.int (i : Int) u) .none .none) ∈ N) (h1 : 1 ≤ i) (hi : i ≤ vs.length) (hz : vs.length ≤ sizeLine)
    (hs : subscripted slice false (.ref c) (.ref a) = operate ops (getItem (.ref c) (.ref a))) (hg : ∀ r, letTemporaryGo value (.ref c) r = pure ()) (k : ∀ d, K (.ref d) b ((d, tupO (vs.drop i)) :: N)) : Run prog w A g L (subscriptTail value slice (.ref c) (.ref a)) K b N :=
  .mk fun s St => by
    have ht : IsTup s.heap c vs.toArray := ⟨_, St.get hc, rfl, 0, rfl⟩
    exact subscriptTail_ops ht.typeIs slot_tuple_getitem.lookup (getItem_tuple_from ht ⟨_, St.get hm, rfl, rfl⟩ h1 (by simpa using hi) ⟨_, s.toks, _, _, rfl, St.st.push _, k _⟩ (by simpa using hz)) hs hg
theorem r_lstSl {value slice : Expr} {c a : Addr} {vs ws : List Value} {vl vu : Value} {lo hi : Option Int} {m : Nat} {ops : List Value} (hc : ∀ s : Shared, Stp g L s b N → s.heap.IsList c vs.toArray) (hm : (a, slcO vl vu .none) ∈ N) (pl : IsPart vl lo) (pu : IsPart vu hi) (e : slicePick vs.toArray lo hi none = ws.toArray) (hz : vs.length ≤ sizeLine)
    (hs : subscripted slice false (.ref c) (.ref a) = operate ops (getItem (.ref c) (.ref a))) (hg : ∀ r, letTemporaryGo value (.ref c) r = pure ()) (k : ∀ d, K (.ref d) b ((d, lstO ws 0) :: N)) : Run prog w A g L (subscriptTail value slice (.ref c) (.ref a)) K b N :=
  .mk fun s St => by
    have hl := hc s St
    exact subscriptTail_ops hl.typeIs slot_list_getitem.lookup (wpAny_getItem_list_slice hl ⟨_, St.get hm, rfl, rfl⟩ pl pu .none (by simp) ⟨_, s.toks, _, _, rfl, St.st.push _, by rw [e]; exact k _⟩ (by simpa using hz)) hs hg
theorem r_strIt {value slice : Expr} {i : Int} {c : Nat} (hi : -(2 ^ 63) ≤ i ∧ i < 2 ^ 63) (hc : (seqIndex? i x.length).bind (x.cps[·]?) = some c)
    (hs : subscripted slice false (.str x t) (.int i u) = operate [.str x t, .int i u] (getItem (.str x t) (.int i u))) (k : ∀ v, K (.str ⟨#[c]⟩ v) b N) : Run prog w A g L (subscriptTail value slice (.str x t) (.int i u)) K b N :=
  .still (fun v => .str ⟨#[c]⟩ v) k fun s Q St h => by
    refine subscriptTail_ops (typeIs_str s x t) F.slot_str_getitem.lookup (P.getItem_str (by simp; omega) hc (h _ _)) hs (fun _ => ?_)
    cases value <;> rfl
theorem r_truthyT {c : Addr} {vs : List Value} {K : Bool → Bd → Lg → Prop} (hc : (c, tupO vs) ∈ N) (hz : (vs.length : Int) < 2 ^ 63) (k : K (!vs.isEmpty) b N) : Run prog w A g L (truthy (.ref c)) K b N :=
  .still (fun _ => !vs.isEmpty) (fun _ => k) fun s Q St h => truthy_tuple ⟨_, St.get hc, rfl, 0, rfl⟩ (by simpa using hz) (by have := h s.toks (s.toks + 1 + 1); simpa using this)

theorem t_gm {name : Str} {id : String} {pl : Sem Bool} {K : Value × List Value → Bd → Lg → Prop} (hg : ∀ (s : Shared) (Q : Value × List Value → Shared → Prop), Q (.builtin id, [.str x t]) s → wpAny (model prog w) A (getMethod (.str x t) name pl) Q (fun _ _ => False) s) (k : K (.builtin id, [.str x t]) b N) : Run prog w A g L (getMethod (.str x t) name pl) K b N :=
  .still (fun _ => (.builtin id, [.str x t])) (fun _ => k) fun s Q St h => hg s Q (h s.toks s.toks)
theorem t_gmJoin {pl : Sem Bool} {K : Value × List Value → Bd → Lg → Prop} (k : K (.builtin "str.join", [.str x t]) b N) : Run prog w A g L (getMethod (.str x t) "join" pl) K b N := t_gm (fun _ _ h => GM.join h) k
theorem t_gmSplit {pl : Sem Bool} {K : Value × List Value → Bd → Lg → Prop} (k : K (.builtin "str.split", [.str x t]) b N) : Run prog w A g L (getMethod (.str x t) "split" pl) K b N := t_gm (fun _ _ h => GM.split h) k
theorem t_gmUpper {pl : Sem Bool} {K : Value × List Value → Bd → Lg → Prop} (k : K (.builtin "str.upper", [.str x t]) b N) : Run prog w A g L (getMethod (.str x t) "upper" pl) K b N := t_gm (fun _ _ h => GM.upper h) k
theorem t_gmLower {pl : Sem Bool} {K : Value × List Value → Bd → Lg → Prop} (k : K (.builtin "str.lower", [.str x t]) b N) : Run prog w A g L (getMethod (.str x t) "lower" pl) K b N := t_gm (fun _ _ h => GM.lower h) k
theorem t_upper (hz : x.length ≤ 1000) (e : Txt.upper x = y) (k : ∀ c, K (.str y c) b N) : Run prog w A g L (call (.builtin "str.upper") [.str x t]) K b N :=
  .still (fun c => .str y c) k fun s Q St h => SCL.upper (by omega) fun _ => by rw [e]; exact h _ _
theorem t_lower (hz : x.length ≤ 1000) (e : Txt.lower x = y) (k : ∀ c, K (.str y c) b N) : Run prog w A g L (call (.builtin "str.lower") [.str x t]) K b N :=
  .still (fun c => .str y c) k fun s Q St h => SCL.lower (by omega) fun _ => by rw [e]; exact h _ _
theorem t_join {D : Addr} {vs : List Value} {xs : List Str} {m : Nat} (hm : (D, lstO vs m) ∈ N) (hx : TextsAre vs xs) (hok : JoinOk x xs = true) (k : ∀ c, K (.str (Str.join x xs) c) b N) : Run prog w A g L (call (.builtin "str.join") [.str x t, .ref D]) K b N :=
  .still (fun c => .str (Str.join x xs) c) k fun s Q St h => by
    obtain ⟨l, e1, e2⟩ := hx.vals
    refine SC.join (l := l) (texts := xs) ⟨_, St.get hm, rfl, m, by rw [e1]; rfl⟩ e2 hok fun t' c => ?_
    have e : Txt.join x xs = Str.join x xs := StrLaws.glued_eq_join x xs
    rw [e]; exact h t' c
theorem Sta.newAt {h h' : Heap} {o : Obj} {m : Str → Option Value} (St : Sta g L h b N) (hb : Has b m) (F' : Fr g L h' m) (N' : News g L h' ((h.objs.size, o) :: N)) : Sta g L h' b ((h.objs.size, o) :: N) := by
  refine ⟨⟨m, F', hb⟩, N', ?_, St.bn⟩
  simp only [List.map_cons, List.nodup_cons]
  refine ⟨fun hm => ?_, St.nd⟩
  obtain ⟨p, hp, e⟩ := List.mem_map.mp hm
  have := Heap.lt_size (St.news p hp).1
  rw [e] at this; exact absurd this (Nat.lt_irrefl _)
theorem t_split (hy : (y.length == 0) = false) (hz : x.length + 2 ≤ sizeLine)
    (k : ∀ a vs, TextsAre vs (Txt.split x y) → K (.ref a) b ((a, lstO vs 0) :: N)) : Run prog w A g L (call (.builtin "str.split") [.str x t, .str y u]) K b N := .mk fun s St => by
  obtain ⟨m, F, hb⟩ := id St.st.fr
  refine splitN1 F St.st.news hy (fun l h' c e F' N' => ⟨h', c, b, _, rfl, St.st.newAt hb F' N', k _ _ ?_⟩) hz
  have := TextsAre.of_vals l
  rw [e] at this; exact this
end
end Mine

end
section
open PySem PySem.W PyProof.Rows PySem.Calls
set_option maxHeartbeats 8000000
namespace Mine
local macro_rules | `(tactic| walk_at "in") => `(tactic| with_reducible repeat' (first | exact List.mem_cons_self | refine List.mem_cons_of_mem _ ?_))
local macro_rules | `(tactic| walk_at "up") => `(tactic| with_reducible repeat' (first | exact UpB.head | apply UpB.tail))
local macro_rules | `(tactic| walk_at "upo") => `(tactic| with_reducible repeat' (first | exact Up.head | apply Up.tail))
local macro_rules | `(tactic| walk_at "nm") => `(tactic| refine r_local rfl rfl (by kernel_rfl!) (by kernel_rfl!) (by walk_at "in") ?_)
local macro_rules | `(tactic| walk_at "st") => `(tactic| refine r_storeN rfl rfl (by kernel_rfl!) (by kernel_rfl!) ?_)
local macro_rules | `(tactic| walk_at "re") => `(tactic| refine r_storeO rfl rfl (by kernel_rfl!) (by walk_at "up") ?_)
local macro_rules | `(tactic| walk_at "as") => `(tactic| refine r_cons (r_assign (by kernel_rfl!) ?_))
local macro_rules | `(tactic| walk_at "sub") => `(tactic| repeat' (first | exact SubB.nil | refine SubB.cons (by walk_at "in") ?_))
local macro_rules | `(tactic| walk_at "sl") => `(tactic| repeat' (first | exact List.Sublist.refl _ | exact List.nil_sublist _ | refine List.Sublist.cons_cons _ ?_ | refine List.Sublist.cons _ ?_))
def code (c : Bool) : Nat := if c then 98 else 97
theorem ab_list (l : List Bool) : (ab l).cps.toList = l.map code := by simp [ab, code]
theorem ab_inj {l r : List Bool} (h : ab l = ab r) : l = r := by
  have h1 : (ab l).cps.toList = (ab r).cps.toList := by rw [h]
  rw [ab_list, ab_list] at h1
  have hc : ∀ a b : Bool, code a = code b → a = b := by decide
  exact List.map_inj_right hc |>.mp h1
theorem str_ext {x y : Str} (h : x.cps.toList = y.cps.toList) : x = y := by cases x; cases y; simp only [Str.mk.injEq]; exact Array.toList_inj.mp h
theorem app_list (x y : Str) : (x ++ y).cps.toList = x.cps.toList ++ y.cps.toList := by
  show ((⟨x.cps ++ y.cps⟩ : Str)).cps.toList = _; simp
def subst1 (c : Nat) (z : List Nat) (l : List Nat) : List Nat := l.flatMap fun d => if d = c then z else [d]
theorem subst1_free {c : Nat} {z : List Nat} : ∀ {l : List Nat}, c ∉ l → subst1 c z l = l
  | [], _ => rfl
  | d :: r, h => by
    have h1 : d ≠ c := fun e => h (e ▸ List.mem_cons_self)
    have h2 : c ∉ r := fun m => h (List.mem_cons_of_mem _ m)
    have := subst1_free (z := z) h2
    unfold subst1 at this ⊢
    simp [h1, this]
theorem subst1_app (c : Nat) (z l r : List Nat) : subst1 c z (l ++ r) = subst1 c z l ++ subst1 c z r := by simp [subst1]
theorem join_subst (c : Nat) (z : Str) : ∀ parts : List Str, (∀ p ∈ parts, c ∉ p.cps.toList) → (Str.join z parts).cps.toList = subst1 c z.cps.toList (Str.join ⟨#[c]⟩ parts).cps.toList
  | [], _ => rfl
  | [p], h => by
    show p.cps.toList = subst1 c z.cps.toList p.cps.toList
    rw [subst1_free (h p List.mem_cons_self)]
  | p :: q :: r, h => by
    show (p ++ z ++ Str.join z (q :: r)).cps.toList = subst1 c z.cps.toList (p ++ ⟨#[c]⟩ ++ Str.join ⟨#[c]⟩ (q :: r)).cps.toList
    rw [app_list, app_list, app_list, app_list, subst1_app, subst1_app, subst1_free (h p List.mem_cons_self), join_subst c z (q :: r) (fun p hp => h p (List.mem_cons_of_mem _ hp))]
    congr 1
    simp [subst1]
def rep (c : Bool) (l : List Bool) : List Bool := l.flatMap fun d => if d = c then [false, true] else [d]
theorem ab_one (c : Bool) : ab [c] = ⟨#[code c]⟩ := by cases c <;> rfl
theorem ab_ab : Str.ofString "ab" = ab [false, true] := by decide
theorem split_rep (c : Bool) (l : List Bool) : Str.join (Str.ofString "ab") (Txt.split (ab l) (ab [c])) = ab (rep c l) := by
  refine str_ext ?_
  rw [ab_one, join_subst (code c) _ _ (StrLaws.split_free (ab l) (code c)), StrLaws.join_split, ab_list, ab_list, ab_ab, ab_list]
  unfold subst1 rep
  rw [List.flatMap_map, List.map_flatMap]
  congr 1
  funext d
  cases c <;> cases d <;> rfl
theorem split_ok {c : Bool} {l : List Bool} (h : l.length ≤ 1000) : JoinOk (Str.ofString "ab") (Txt.split (ab l) (ab [c])) = true := by
  refine joinOk_of ?_
  have h1 := size_glued (ab [c]) (Txt.split (ab l) (ab [c]))
  have e : Txt.join (ab [c]) (Txt.split (ab l) (ab [c])) = Str.join (ab [c]) (Txt.split (ab l) (ab [c])) := StrLaws.glued_eq_join _ _
  have e2 : Builtin.Str.glued (ab [c]) (Txt.split (ab l) (ab [c])) = ab l := by
    have := StrLaws.join_split (ab l) (ab [c])
    rw [← e] at this; exact this
  rw [e2, ab_len, ab_len] at h1
  have e3 : (Str.ofString "ab").length = 2 := by decide
  rw [e3]
  simp only [List.length_cons, List.length_nil] at h1
  omega
theorem rep_len (c : Bool) : ∀ l : List Bool, l.length ≤ (rep c l).length ∧ (rep c l).length ≤ 2 * l.length
  | [] => by simp [rep]
  | d :: r => by
    have h := rep_len c r
    have e : rep c (d :: r) = (if d = c then [false, true] else [d]) ++ rep c r := rfl
    rw [e, List.length_append]
    have : (if d = c then [false, true] else [d]).length = 1 ∨ (if d = c then [false, true] else [d]).length = 2 := by split <;> simp
    simp only [List.length_cons]
    omega
def repAll : List Bool → List Bool → List Bool
  | [], l => l
  | c :: cs, l => repAll cs (rep c l)
theorem repAll_len : ∀ (cs l : List Bool), l.length ≤ (repAll cs l).length
  | [], _ => Nat.le_refl _
  | c :: cs, l => Nat.le_trans (rep_len c l).1 (repAll_len cs (rep c l))
def pairsS (cs : List Bool) : List Str := cs.flatMap fun c => [ab [c], Str.ofString "ab"]

theorem pairsS_len : ∀ cs : List Bool, (pairsS cs).length = 2 * cs.length
  | [] => rfl
  | c :: r => by
    have e : pairsS (c :: r) = ab [c] :: Str.ofString "ab" :: pairsS r := rfl
    rw [e]; simp only [List.length_cons, pairsS_len r]; omega
theorem bind_rest {fd : FuncData} {a r : Arg} {v : Value} {items : List Value} (hp : fd.params = { posonlyargs := [], args := [a], vararg := some r, kwonlyargs := [], kw_defaults := [], kwarg := none, defaults := [] }) (hd : fd.defaults = .none) :
    bindArgs fd ⟨v :: items, []⟩ = (do let t ← newTuple items; pure [(a.arg, v), (r.arg, t)]) := by
  unfold bindArgs
  simp only [hp, hd]
  simp [seqItems?, List.lookup]
  rfl
section
variable {prog : Program} {w : World} {F : Frag} {n : Nat} {A : Around} {g : Heap} {L : Addr} {b : Bd} {N : Lg} {env : Env}
/-- a def with one name and a rest is entered -/
theorem r_enterV {name qual : Str} {params : Arguments} {body : List Stmt} {scope : Scope} {dV kV doc pm cdv ct oc : Value} {an od : Option Addr} {osl : Array (Option Value)} {f : Addr} {v : Value} {items : List Value} {pa pr : Arg}
    {K : Value → Bd → Lg → Prop} (O : Okay F (n + 1) A env g L)
    (ho : F.lookup f = some ⟨oc, od, .func (fnOf name qual params body scope dV kV doc pm an cdv ct), osl⟩) (hcd : codeIn F cdv qual = true)
    (hp : params = { posonlyargs := [], args := [pa], vararg := some pr, kwonlyargs := [], kw_defaults := [], kwarg := none, defaults := [] }) (hdv : dV = .none) (hz : items.length ≤ sizeLine)
    (hloc : scope.names.lookup pa.arg = some .local ∧ scope.names.lookup pr.arg = some .local) (hdis : dist [pa.arg, pr.arg] = true)
    (hco : scope.isCoroutine = false) (hgen : scope.isGenerator = false) (hk : scope.kind = .function) (hcell : ∀ x ∈ scope.names, x.2 ≠ .cell)
    (h : ∀ D g' L' A' env', env' = envOf qual scope L' f cdv → Okay F n A' env' g' L' → Run prog w A' g' L' (execs body env') (fun fl _ N' => K (retOf fl) b N') [(pa.arg, v), (pr.arg, .ref D)] ((D, tupO items) :: N)) :
    Run prog w A g L (call (.ref f) (v :: items) []) K b N := .mk fun s St => by
  obtain ⟨p, loose, mean, mg, mb, T⟩ := O.T
  obtain ⟨A₀, base, outer, B, hA⟩ := O.B
  obtain ⟨m, Fm, hb⟩ := id St.st.fr
  refine wpAny_call (codeAny_call_function (fd := fnOf name qual params body scope dV kV doc pm an cdv ct) (body := body) (by have := O.hd; omega) ((O.X.keeps Fm.keep) _ _ ho) rfl hco hgen rfl (codeRec_of (O.X.keeps Fm.keep) hcd) ?_)
  rw [bind_rest (fd := fnOf name qual params body scope dV kV doc pm an cdv ct) hp hdv]
  refine wpAny_bind (wpAny_newObj_type (wpAny_pure ?_) (by show items.toArray.size ≤ sizeLine; rw [List.size_toArray]; exact hz))
  have S1 := St.st.push (tupO items)
  obtain ⟨m1, F1, hb1⟩ := id S1.fr
  refine kp_frame (cl := []) (s := { s with heap := s.heap.push (tupO items) }) B F1 S1.news T.nolimit hA O.hf O.hk (binds := [(pa.arg, v), (pr.arg, .ref s.heap.objs.size)]) ?_ ?_ hcell hk
  · intro y hy
    rcases List.mem_cons.mp hy with rfl | hy
    · exact hloc.1
    · rcases List.mem_cons.mp hy with rfl | hy
      · exact hloc.2
      · cases hy
  intro g' L' h₁ FG F' N' B' st
  have O' : Okay F n (A.deeper (envOf qual scope L' f cdv)) (envOf qual scope L' f cdv) g' L' :=
    ⟨O.X.keeps st, ⟨p, loose, mean, mg, mb, T.keeps st⟩, ⟨A, base, env :: outer, B', by show A.frames.map _ = _; rw [hA]; rfl⟩, rfl, rfl, hk, rfl, rfl, O.hh, by show A.depth + 1 + n < recursionLimit; have := O.hd; omega, by show A.units + 3 + 8 * n < cLine; have := O.hu; omega⟩
  refine Run.use (h s.heap.objs.size g' L' _ _ rfl O') (s := { s with heap := h₁, toks := s.toks + 2 }) ⟨⟨⟨_, F', has_binds (dist_nodup hdis)⟩, N', S1.nd, dist_nodup hdis⟩, Nat.lt_of_lt_of_le St.pos (Nat.le_add_right _ _)⟩ fun fl h' tk b' N'' S' k => ?_
  obtain ⟨m', F'', _⟩ := S'.st.fr
  refine leaveK_ (s' := { s with heap := h', toks := tk }) F'' S'.st.news fun F3 N3 => ?_
  exact ⟨h', tk, b, N'', rfl, ⟨⟨m1, F3, hb1⟩, N3, S'.st.nd, St.st.bn⟩, by cases fl <;> exact k⟩
end
variable {w : World} {A : Around} {env : Env} {g : Heap} {L : Addr} {b : Bd} {N : Lg} {n : Nat}
theorem replace_run {l cs : List Bool} {t : Tok} {vs : List Value} {K : Value → Bd → Lg → Prop} (O : Okay (Mine.hd.heap_39 w.params) (n+1) A env g L)
    (hx : TextsAre vs (pairsS cs)) (hl : (repAll cs l).length ≤ 1000) (hc : cs.length ≤ 100) (k : ∀ u, K (.str (ab (repAll cs l)) u) b N) :
    Run PySem.Challenge.rw_pk0110_01.row.prog w A g L (call (.ref 45) (.str (ab l) t :: vs)) K b N := by
  have hvl : vs.length = 2 * cs.length := by rw [hx.length, pairsS_len]
  refine Run.drop (r_enterV O (by rfl) (by rfl) rfl rfl (sz (by omega)) ⟨by rfl, by rfl⟩ (by kernel_rfl!) (by rfl) (by rfl) (by rfl) (by decide) ?_)
  rintro D g' L' A' env' rfl O'
  refine r_cons (r_while (fun m b' N' => ∃ (cs' l' : List Bool) (vs' : List Value) (D' : Addr) (t' : Tok), m = cs'.length ∧ b' = [(Str.ofString "text", .str (ab l') t'), (Str.ofString "pairs", .ref D')] ∧ N' = (D', tupO vs') :: N ∧ TextsAre vs' (pairsS cs') ∧ repAll cs' l' = repAll cs l ∧ m ≤ 100) cs.length ⟨_, _, ⟨cs, l, vs, D, t, rfl, rfl, rfl, hx, rfl, hc⟩, by walk_at "sub", by kernel_rfl!, .refl _⟩ ?_)
  rintro m b' N' ⟨cs', l', vs', D', t', rfl, rfl, rfl, hx', hr, hm⟩
  refine r_tplain (by kernel_rfl!) ?_
  walk_at "nm"
  have hvl' : vs'.length = 2 * cs'.length := by rw [hx'.length, pairsS_len]
  refine r_truthyT List.mem_cons_self (by omega) ?_
  cases cs' with
  | nil =>
    have e : vs' = [] := by simpa using hvl'
    subst e
    rw [if_neg (by simp)]
    dsimp only
    refine r_cons (r_ret ?_)
    walk_at "nm"
    have e2 : repAll [] l' = l' := rfl
    rw [e2] at hr
    rw [hr]
    exact ⟨N, k _, .cons _ (.refl _)⟩
  | cons c r =>
    have hle : (rep c l').length ≤ 1000 := by
      have h1 := repAll_len r (rep c l')
      have e3 : repAll (c :: r) l' = repAll r (rep c l') := rfl
      rw [e3] at hr; rw [hr] at h1; omega
    have hle' : l'.length ≤ 1000 := Nat.le_trans (rep_len c l').1 hle
    have e4 : pairsS (c :: r) = ab [c] :: Str.ofString "ab" :: pairsS r := rfl
    rw [e4] at hx'
    cases hx' with
    | cons _ ta hx1 => cases hx1 with
    | cons _ tb hx2 =>
    rename_i vs2
    rw [if_pos (by simp)]
    walk_at "as"
    refine r_mcall (by rfl) (r_sub ?_)
    walk_at "nm"
    refine r_cint fun _ => r_itemT List.mem_cons_self (by decide) (by decide) (by rfl) (by kernel_rfl!) (t_gmJoin (r_cwB (by kernel_rfl!) (by kernel_rfl!) (r_scons (by kernel_rfl!) (r_mcall (by rfl) ?_))))
    walk_at "nm"
    refine t_gmSplit (r_cwB (by kernel_rfl!) (by kernel_rfl!) (r_scons (by kernel_rfl!) (r_sub ?_)))
    walk_at "nm"
    refine r_cint fun _ => r_itemT List.mem_cons_self (by decide) (by decide) (by rfl) (by kernel_rfl!) (r_snil (t_split (by rw [ab_len]; rfl) (sz (by rw [ab_len]; omega)) fun D2 us hus => r_snil (t_join List.mem_cons_self hus ?_ fun _ => ?_)))
    · exact split_ok hle'
    rw [split_rep]
    walk_at "re"
    walk_at "as"
    refine r_sub ?_
    walk_at "nm"
    refine r_slice (r_psome (r_cint fun _ => r_pnone (r_pnone fun a => ?_)))
    refine r_tupFrom (List.mem_cons_of_mem _ (List.mem_cons_of_mem _ List.mem_cons_self)) (i := 2) List.mem_cons_self (by omega) (by simp) (sz (by omega)) rfl (fun _ => rfl) fun d => ?_
    walk_at "re"
    refine r_nil ?_
    exact ⟨_, _, ⟨r.length, by simp, r, rep c l', vs2, d, _, rfl, rfl, rfl, hx2, hr, by simp at hm; omega⟩, by walk_at "sub", by kernel_rfl!, .cons_cons _ (.cons _ (.cons _ (.cons _ (.refl _))))⟩
end Mine

end
section
open PySem PySem.W PyProof.Rows PySem.Calls
set_option maxHeartbeats 8000000
namespace Mine
local macro_rules | `(tactic| walk_at "in") => `(tactic| with_reducible repeat' (first | exact List.mem_cons_self | refine List.mem_cons_of_mem _ ?_))
local macro_rules | `(tactic| walk_at "up") => `(tactic| with_reducible repeat' (first | exact UpB.head | apply UpB.tail))
local macro_rules | `(tactic| walk_at "upo") => `(tactic| with_reducible repeat' (first | exact Up.head | apply Up.tail))
local macro_rules | `(tactic| walk_at "nm") => `(tactic| refine r_local rfl rfl (by kernel_rfl!) (by kernel_rfl!) (by walk_at "in") ?_)
local macro_rules | `(tactic| walk_at "st") => `(tactic| refine r_storeN rfl rfl (by kernel_rfl!) (by kernel_rfl!) ?_)
local macro_rules | `(tactic| walk_at "re") => `(tactic| refine r_storeO rfl rfl (by kernel_rfl!) (by walk_at "up") ?_)
local macro_rules | `(tactic| walk_at "as") => `(tactic| refine r_cons (r_assign (by kernel_rfl!) ?_))
local macro_rules | `(tactic| walk_at "sub") => `(tactic| repeat' (first | exact SubB.nil | refine SubB.cons (by walk_at "in") ?_))
local macro_rules | `(tactic| walk_at "sl") => `(tactic| repeat' (first | exact List.Sublist.refl _ | exact List.nil_sublist _ | refine List.Sublist.cons_cons _ ?_ | refine List.Sublist.cons _ ?_))
def nm (u c : Bool) : Str := ⟨#[match u, c with | false, false => 97 | false, true => 98 | true, false => 65 | true, true => 66]⟩
def upb (ns : List Int) (k : Nat) : Bool := ((ns.getD (k % ns.length) 0).fdiv 16).fmod 2 == 1
theorem nm_up (c : Bool) : Txt.upper (ab [c]) = nm true c := by cases c <;> decide +kernel
theorem nm_low (u c : Bool) : Txt.lower (nm u c) = ab [c] := by cases u <;> cases c <;> decide +kernel
theorem nm_ab (c : Bool) : nm false c = ab [c] := by cases c <;> rfl
variable {w : World} {A : Around} {env : Env} {g : Heap} {L : Addr} {b : Bd} {N : Lg} {n : Nat}
theorem spelled_run {ns : List Int} {vs : List Value} {l : Addr} {cap : Nat} {k : Nat} {c : Bool} {t1 t2 : Tok} {K : Value → Bd → Lg → Prop} (O : Okay (Mine.hd.heap_39 w.params) (n+1) A env g L)
    (hm : (l, lstO vs cap) ∈ N) (hi : IntsAre vs ns) (hn0 : 0 < ns.length) (hn : ns.length ≤ 100) (hk : k ≤ 1000) (kk : ∀ u, K (.str (nm (upb ns k) c) u) b N) :
    Run PySem.Challenge.rw_pk0110_01.row.prog w A g L (call (.ref 217) [.ref l, .int (k : Int) t1, .str (ab [c]) t2]) K b N := by
  refine r_enter [(Str.ofString "numbers", .ref l), (Str.ofString "k", .int (k : Int) t1), (Str.ofString "letter", .str (ab [c]) t2)] O (by rfl) (by rfl) (fun s _ => BindsTo.of_eq (by rfl)) (locs (by rfl)) (by rfl) (by rfl) (by rfl) (by decide) (by kernel_rfl!) ?_
  rintro g' L' A' env' rfl O'
  have hlen : (vs.length : Int) = (ns.length : Int) := by rw [hi.length]
  have hj : k % ns.length < ns.length := Nat.mod_lt _ hn0
  obtain ⟨ty, hty⟩ := hi.get (k % ns.length) (ns.getD (k % ns.length) 0) (by simp [List.getD_eq_getElem?_getD, List.getElem?_eq_getElem hj])
  refine r_cons (r_if (r_tcmp (by kernel_rfl!) (r_bin (r_bin (r_sub ?_)))))
  walk_at "nm"
  refine r_bin ?_
  walk_at "nm"
  refine r_call (by kernel_rfl!) (r_blt O' (by kernel_rfl!) (by kernel_rfl!) (by kernel_rfl!) rfl (by decide) (r_cwB (by kernel_rfl!) (by kernel_rfl!) (r_scons (by kernel_rfl!) ?_)))
  walk_at "nm"
  refine r_snil (r_len hm hlen (by omega) fun _ => i_mod (by omega) fun _ => ?_)
  have hfm : (k : Int).fmod (ns.length : Int) = ((k % ns.length : Nat) : Int) := by rw [Int.fmod_eq_emod_of_nonneg _ (by omega)]; rfl
  rw [hfm]
  refine r_item hm (by omega) (by omega) (by rw [Int.toNat_natCast]; exact hty) (by kernel_rfl!) ?_
  refine r_cint fun _ => i_div (by decide) (PyProof.noPylong_small (by decide)) fun _ => r_cint fun _ => i_mod (by decide) fun _ => r_cint fun _ => i_eq (r_tbool ?_)
  have kk' : upb ns k = (((ns.getD (k % ns.length) 0).fdiv 16).fmod 2 == 1) := rfl
  rw [← kk']
  cases hu : upb ns k
  · rw [if_neg Bool.false_ne_true]
    refine r_nil ?_
    dsimp only
    refine r_cons (r_ret ?_)
    walk_at "nm"
    have := kk t2
    rw [hu, nm_ab] at this
    exact this
  · rw [if_pos rfl]
    refine r_cons (r_ret (r_mcall (by rfl) ?_))
    walk_at "nm"
    refine t_gmUpper (r_cwB0 (t_upper (by rw [ab_len]; simp) (nm_up c) fun u => ?_))
    have := kk u
    rw [hu] at this
    exact this
end Mine

end
section
open PySem PySem.W PyProof.Rows PySem.Calls
set_option maxHeartbeats 8000000
namespace Mine
theorem slot_search : Slot "re.Pattern" "search" "re.Pattern.search" :=
  .of (owner := "re.Pattern") (n := "search") (by rw [typeLookup_type, builtinLookup_eq_fast]; kernel_rfl) (by decide +kernel) (by decide +kernel) (by decide +kernel)
    (by first | exact .inl (by decide +kernel) | exact .inr (by decide +kernel)) (by rw [isSubtype_type]; kernel_rfl)
theorem type_search : typeOf (.builtin "re.Pattern.search") = pure (.type "method_descriptor") := by show builtinType _ = _; rw [builtinType_eq_fast]; kernel_rfl
theorem entry_search : entryFor table "re.Pattern.search" = some Builtin.«re.Pattern.search» := entryFor_of_tree (by kernel_rfl)
theorem plain_re : PlainAttrs "re.Pattern" := ⟨⟨"object.__getattribute__", by rw [typeLookup_type, builtinLookup_eq_fast]; kernel_rfl, by decide +kernel⟩, by rw [typeLookup_type, builtinLookup_eq_fast]; kernel_rfl⟩
theorem args_search (a b : Value) : argsOk "re.Pattern.search" ⟨[a, b], []⟩ := by
  unfold argsOk
  rw [signature?_of (id := "re.Pattern.search") (n := ['h', 'c', 'r', 'a', 'e', 's']) (o := ['n', 'r', 'e', 't', 't', 'a', 'P', '.', 'e', 'r']) (rows := Manifest.sig_re_Pattern) (by kernel_rfl) (by kernel_rfl)]; kernel_rfl

open Builtin.Re in
theorem drive1 {M : Model} {A : Around} {E : Value → Shared → Prop} {s : Shared} {m : Sre.M} {Q : Option Sre.M → Shared → Prop} (h1 : m.outcome = none) (h2 : m.answer = some false) (h3 : m.frames = []) (hq : Q none s) : wpAny M A (reRunToEnd m) Q E s := by
  have e : (m.runFor reTurnSteps).outcome = some .failed := by
    unfold reTurnSteps
    have s1 : m.step = { m with outcome := some .failed } := by
      unfold Sre.M.step
      rw [h1, h2, h3]; rfl
    unfold Sre.M.runFor
    rw [h1]
    simp only [Option.isSome_none, Bool.false_eq_true, if_false]
    rw [s1]
    rfl
  unfold reRunToEnd
  have e2 : (2 ^ 64 : Nat) = 18446744073709551615 + 1 := by decide
  rw [e2]
  refine wpAny_bind ?_
  show wpAny M A (if (m.runFor reTurnSteps).outcome.isSome then pure (m.runFor reTurnSteps) else _) _ E s
  rw [e]
  refine wpAny_pure ?_
  refine wpAny_bind (wpAny_forIn_list _ (fun _ _ s' => s' = s) _ ?_ ?_ _ _ rfl)
  · rintro x rest b s' rfl
    by_cases hc : ((m.runFor reTurnSteps).seen.has x) = true
    · rw [if_pos hc]
      exact wpAny_bind (wpAny_rule (wpAny_pure rfl))
    · rw [if_neg hc]
      exact wpAny_pure rfl
  · rintro b s' rfl
    rw [e]
    exact wpAny_pure hq

def good (c : Nat) : Prop := c = 97 ∨ c = 98 ∨ c = 65 ∨ c = 66
def outside (code : Array Nat) : Prop := ∀ c, good c → ∀ seen, ∃ seen', Sre.inSet code c code.size 5 true seen = .ok (false, seen')
theorem admitted_none {m : Sre.M} (hc : outside m.code) (ht : ∀ i, i < m.lim → good (m.text.getD i 0)) : ∀ fuel s seen, ∃ seen', Sre.M.admitted m fuel s seen = .ok (none, seen')
  | 0, _, seen => ⟨seen, rfl⟩
  | fuel + 1, s, seen => by
    unfold Sre.M.admitted
    by_cases h : s ≥ m.lim
    · rw [if_pos h]; exact ⟨seen, rfl⟩
    · rw [if_neg h]
      obtain ⟨seen', e⟩ := hc _ (ht s (by omega)) seen
      rw [e]
      exact admitted_none hc ht fuel (s + 1) seen'
theorem attempt_fails {m : Sre.M} {p : Nat} {b : Bool} (hf : m.hasFirstSet = true) (hc : outside m.code) (ht : ∀ i, i < m.lim → good (m.text.getD i 0)) (h1 : m.outcome = none) (h3 : m.frames = []) :
    (m.attemptFrom p b).outcome = none ∧ (m.attemptFrom p b).answer = some false ∧ (m.attemptFrom p b).frames = [] := by
  unfold Sre.M.attemptFrom
  obtain ⟨seen', e⟩ := admitted_none hc ht (m.lim + 1 - p) p m.seen
  rw [hf, e]
  exact ⟨h1, rfl, h3⟩
def Quiet (m : Sre.M) : Prop := m.outcome = none ∧ m.answer = some false ∧ m.frames = []
theorem search_fails {code text : Array Nat} (hc : outside code) (h0 : Sre.ops[code.getD 0 0]? = some .INFO) (h2 : code.getD 2 0 = 4) (ht : ∀ i, i < text.size → good (text.getD i 0)) :
    Quiet (Sre.forSearch code text 0 0 text.size false) := by
  unfold Sre.forSearch
  dsimp only
  split
  · exact ⟨rfl, rfl, rfl⟩
  · refine attempt_fails ?_ ?_ ?_ rfl rfl
    · unfold Sre.M.hasFirstSet
      show ((match Sre.ops[code.getD 0 0]? with | some .INFO => true | _ => false) && code.getD 2 0 == 4) = true
      rw [h0, h2]; rfl
    · exact hc
    · exact ht
def code1 : Array Nat := #[14, 10, 4, 1, 1, 22, 0, 31, 16, 127, 0, 13, 7, 22, 0, 31, 16, 127, 0, 1]
def code2 : Array Nat := #[14, 14, 4, 1, 1, 9, 4294966783, 0, 0, 2147483648, 0, 0, 0, 0, 0, 13, 11, 9, 4294966783, 0, 0, 2147483648, 0, 0, 0, 0, 0, 1]
theorem out1 : outside code1 := by
  intro c hc seen
  rcases hc with rfl | rfl | rfl | rfl <;> exact ⟨_, rfl⟩
theorem out2 : outside code2 := by
  intro c hc seen
  rcases hc with rfl | rfl | rfl | rfl <;> exact ⟨_, rfl⟩
def reO (x : Str) (fl : Int) (t : Tok) (cd : Addr) : Obj := { cls := .type "re.Pattern", data := .fields #[.str x t, .int 32 fl.toNat, .int 0 0, .none, .none, .ref cd, .int 0 0] }
open Builtin Builtin.Re in
theorem call_search {prog : Program} {w : World} {A : Around} {E : Value → Shared → Prop} {s : Shared} {p cd : Addr} {op oc : Obj} {x : Str} {t : Tok} {items : Array Value} {n : Nat} {v0 v1 v3 v4 : Value} {Q : Value → Shared → Prop}
    (hp : s.heap.get? p = some op) (hpc : op.cls = .type "re.Pattern") (hpd : op.data = .fields #[v0, v1, .int 0 0, v3, v4, .ref cd, .int 0 0]) (ho : s.heap.get? cd = some oc) (hod : oc.data = .seq items n)
    (hc : outside (items.map fun v => (reRawOf v).toNat)) (h0 : Sre.ops[(items.map fun v => (reRawOf v).toNat).getD 0 0]? = some .INFO) (h2 : (items.map fun v => (reRawOf v).toNat).getD 2 0 = 4) (hx : x.length < 2 ^ 62)
    (ht : ∀ c ∈ x.cps.toList, good c) (h : Q .none s) : wpAny (model prog w) A (call (.builtin "re.Pattern.search") [.ref p, .str x t]) Q E s := by
  refine wpAny_call_entry slot_search ⟨op, hp, hpc⟩ entry_search ?_ (args_search _ _)
  have hg : ∀ i, i < x.cps.size → good (x.cps.getD i 0) := fun i hi => by
    rw [Array.getD_eq_getD_getElem?, Array.getElem?_eq_getElem hi]
    exact ht _ (by simp)
  obtain ⟨q1, q2, q3⟩ := search_fails hc h0 h2 hg
  unfold «re.Pattern.search» reTarget
  refine wpAny_bind ?_
  dsimp only
  have en : reNamed "re.Pattern.search" "search" ["string", "pos", "endpos"] 1 [Value.str x t] [] = pure [some (.str x t), none, none] := by rfl
  rw [en]
  refine wpAny_bind (wpAny_pure ?_)
  dsimp only
  refine wpAny_bind (wpAny_pure (wpAny_bind (wpAny_pure (wpAny_bind (wpAny_fieldsOf hp hpd ?_)))))
  refine wpAny_bind (wpAny_pure ?_)
  simp only [reRawNat, Array.getD]
  refine wpAny_bind (wpAny_pure ?_)
  refine wpAny_bind (wpAny_bind (wpAny_seqItems ho hod (wpAny_pure (wpAny_pure ?_))))
  have el : (Min.min ((9223372036854775807 : Int).toNat) x.cps.size) = x.cps.size := by
    have : x.length = x.cps.size := rfl
    rw [Nat.min_def]; simp; omega
  have em : Array.map (fun v : Int => v.toNat) (Array.map reRawOf items) = Array.map (fun v => (reRawOf v).toNat) items := by simp [Function.comp_def]
  have ee : Sre.forSearch (Array.map (fun v : Int => v.toNat) (Array.map reRawOf items)) x.cps 0 (Min.min ((0 : Int).toNat) x.cps.size) (Min.min ((2 ^ 63 - 1 : Int).toNat) x.cps.size) false = Sre.forSearch (items.map fun v => (reRawOf v).toNat) x.cps 0 0 x.cps.size false := by
    rw [em]
    congr 1
  unfold reAnswer
  refine wpAny_bind (drive1 ?_ ?_ ?_ (wpAny_pure ⟨.none, rfl, h⟩))
  · exact (congrArg Sre.M.outcome ee).trans q1
  · exact (congrArg Sre.M.answer ee).trans q2
  · exact (congrArg Sre.M.frames ee).trans q3
theorem r_search {prog : Program} {w : World} {F : Frag} {n : Nat} {A : Around} {g : Heap} {L : Addr} {b : Bd} {N : Lg} {env : Env} {K : Value → Bd → Lg → Prop} {x : Str} {t : Tok} (p : Addr) (code : Array Nat) {cd : Addr} {op oc : Obj} {items : Array Value} {m : Nat} {v0 v1 v3 v4 : Value} (O : Okay F n A env g L)
    (hp : F.lookup p = some op) (hpc : op.cls = .type "re.Pattern") (hpd : op.data = .fields #[v0, v1, .int 0 0, v3, v4, .ref cd, .int 0 0]) (ho : F.lookup cd = some oc) (hod : oc.data = .seq items m)
    (he : (items.map fun v => (Builtin.Re.reRawOf v).toNat) = code) (hc : outside code) (h0 : Sre.ops[code.getD 0 0]? = some .INFO) (h2 : code.getD 2 0 = 4) (hx : x.length < 2 ^ 62)
    (ht : ∀ c ∈ x.cps.toList, good c) (k : K .none b N) : Run prog w A g L (call (.builtin "re.Pattern.search") [.ref p, .str x t]) K b N :=
  .still (fun _ => .none) (fun _ => k) fun s Q St h => by
    subst he
    exact call_search (St.keep _ _ (O.X _ _ hp)) hpc hpd (St.keep _ _ (O.X _ _ ho)) hod hc h0 h2 hx ht (h s.toks s.toks)
theorem r_gmSearch {prog : Program} {w : World} {F : Frag} {n : Nat} {A : Around} {g : Heap} {L : Addr} {b : Bd} {N : Lg} {env : Env} {p : Addr} {op : Obj} {pl : Sem Bool} {K : Value × List Value → Bd → Lg → Prop} (O : Okay F n A env g L)
    (hp : F.lookup p = some op) (hpc : op.cls = .type "re.Pattern") (hd : op.dict = none) (k : K (.builtin "re.Pattern.search", [.ref p]) b N) : Run prog w A g L (getMethod (.ref p) "search" pl) K b N :=
  .still (fun _ => (.builtin "re.Pattern.search", [.ref p])) (fun _ => k) fun s Q St h => by
    have hs := St.keep _ _ (O.X _ _ hp)
    exact getMethod_builtin (v := .ref p) ⟨op, hs, hpc⟩ plain_re slot_search type_search (fun a e => by cases e; exact ⟨op, hs, hd⟩) (h s.toks s.toks)
end Mine

end
section
open PySem PySem.W PyProof.Rows PySem.Calls
set_option maxHeartbeats 4000000
namespace Mine
/-- what a frame's names object tells -/
def LocOf (L : Addr) (b : Bd) (o : Obj) : Prop := (∃ m, (∀ h : Heap, h.get? L = some o → h.Ns L m) ∧ Has b m) ∧ (b.map (·.1)).Nodup
section
variable {prog : Program} {w : World} {F : Frag} {n : Nat} {A : Around} {g : Heap} {L C : Addr} {b : Bd} {N N' : Lg} {env : Env} {s : Shared}
theorem Sta.into {h h' : Heap} {m' : Str → Option Value} (St : Sta g L h b N) (hle : h.objs.size ≤ C) (hk : ∀ c o, h.get? c = some o → h'.get? c = some o) (hns : h'.Ns C m') : ∃ oL, LocOf L b oL ∧ g.objs.size ≤ L ∧ Sta g C h' [] ((L, oL) :: N) := by
  obtain ⟨⟨m, F, hb⟩, nw, nd, bn⟩ := St
  obtain ⟨oL, es, ep, hL, r⟩ := id F.ns
  have hLC : L < C := Nat.lt_of_lt_of_le (Heap.lt_size hL) hle
  refine ⟨oL, ⟨⟨m, fun h2 e => ⟨oL, es, ep, e, r⟩, hb⟩, bn⟩, F.above, ⟨⟨m', ⟨hns, fun c o e => hk c o (F.keep c o e), Nat.le_trans F.above (Nat.le_of_lt hLC)⟩, fun p hp => by cases hp⟩, fun p hp => ?_, ?_, .nil⟩⟩
  · rcases List.mem_cons.mp hp with rfl | hp
    · exact ⟨hk _ _ hL, Nat.ne_of_lt hLC, Heap.get?_none_of_le F.above⟩
    · have P := nw p hp
      exact ⟨hk _ _ P.1, Nat.ne_of_lt (Nat.lt_of_lt_of_le (Heap.lt_size P.1) hle), P.2.2⟩
  · simp only [List.map_cons, List.nodup_cons]
    refine ⟨fun hm => ?_, nd⟩
    obtain ⟨p, hp, e⟩ := List.mem_map.mp hm
    exact (nw p hp).2.1 e
theorem Sta.outof {h2 h3 : Heap} {bc : Bd} {oL : Obj} (S : Sta g C h2 bc ((L, oL) :: N)) (lo : LocOf L b oL) (hL : g.objs.size ≤ L) (hs : Heap.SameBut C h2 h3) : Sta g L h3 b N := by
  obtain ⟨⟨m, ns, hb⟩, bn⟩ := lo
  obtain ⟨⟨mc, F, _⟩, nw, nd, _⟩ := S
  have PL := nw _ (List.mem_cons_self)
  simp only [List.map_cons, List.nodup_cons] at nd
  refine ⟨⟨m, ⟨ns h3 ((hs.2 _ PL.2.1).trans PL.1), fun c o e => ?_, hL⟩, hb⟩, fun p hp => ?_, nd.2, bn⟩
  · have hne : c ≠ C := fun z => by
      have h1 := Heap.lt_size e
      have h2 := F.above
      rw [z] at h1; exact absurd h1 (Nat.not_lt.mpr h2)
    exact (hs.2 c hne).trans (F.keep c o e)
  · have P := nw p (List.mem_cons_of_mem _ hp)
    exact ⟨(hs.2 _ P.2.1).trans P.1, fun e => nd.1 (e ▸ List.mem_map_of_mem hp), P.2.2⟩

structure RunC (prog : Program) (w : World) (A : Around) (g : Heap) (L : Addr) (c : Code) (K : Bd → Lg → Prop) (b : Bd) (N : Lg) : Prop where
  out : ∀ s : Shared, Stp g L s b N → codeAny (model prog w) A c (fun r s' => r = .ok .next ∧ ∃ h tk b' N', s' = { s with heap := h, toks := tk } ∧ Stp g L { s with heap := h, toks := tk } b' N' ∧ K b' N') s

def FinOf (c : Code) (J : Nat → Bd → Lg → Prop) (n : Nat) (K : Bd → Lg → Prop) (fin : Fin) (b : Bd) (N : Lg) : Prop :=
  match fin with
  | .done .next => K b N
  | .again c' => c' = c ∧ Next (fun b N => ∃ m, m < n ∧ J m b N) b N
  | _ => False
theorem rc_loop {elt : Expr} {gens : List Comprehension} {scope : Scope} {pos : Pos} {d : Nat} {it acc : Value} {K : Bd → Lg → Prop} (J : Nat → Bd → Lg → Prop) (n : Nat) (h0 : Next (J n) b N)
    (turn : ∀ n b N, J n b N → Run prog w A g L (compTurn (.ListComp elt gens scope pos) d it acc env) (FinOf (.compLoop (.ListComp elt gens scope pos) d it acc env) J n K) b N) : RunC prog w A g L (.compLoop (.ListComp elt gens scope pos) d it acc env) K b N := .mk fun s St => by
  obtain ⟨b0, N0, j0, hb, hn, hN⟩ := h0
  refine codeAny_loop rfl (fun n s' => ∃ h tk b N, s' = { s with heap := h, toks := tk } ∧ Stp g L { s with heap := h, toks := tk } b N ∧ J n b N) (fun n s' hI => ?_) n ⟨s.heap, s.toks, b0, N0, rfl, St.less hb hn hN, j0⟩
  obtain ⟨h, tk, b1, N1, rfl, S1, j1⟩ := hI
  show wpAny _ A ((compTurn (.ListComp elt gens scope pos) d it acc env).onRaise (fun x => do noteFrame x env; theTreesLotGoes x)) _ _ _
  refine wpAny_noted ?_
  refine (turn n b1 N1 j1).use S1 fun fin h2 t2 b2 N2 S2 k => ?_
  cases fin with
  | done f =>
    cases f with
    | next => exact ⟨rfl, h2, t2, b2, N2, rfl, S2, k⟩
    | _ => exact k.elim
  | again c' =>
    obtain ⟨e1, b4, N4, ⟨m, hm, j⟩, q1, q3, q2⟩ := k
    exact ⟨e1, m, hm, h2, t2, b4, N4, rfl, S2.less q1 q3 q2, j⟩
theorem RunC.mono {c : Code} {K K' : Bd → Lg → Prop} (r : RunC prog w A g L c K b N) (k : ∀ b N, K b N → K' b N) : RunC prog w A g L c K' b N := .mk fun s St => codeAny_mono (r.out s St) fun _ _ ⟨e, h, tk, b', N', e2, S', kk⟩ => ⟨e, h, tk, b', N', e2, S', k _ _ kk⟩
theorem rc_start {elt : Expr} {gens : List Comprehension} {scope : Scope} {pos : Pos} {d : Nat} {it acc : Value} {K : Bd → Lg → Prop} {gd : Comprehension} (hg : gens[d]? = some gd) (ha : gd.is_async = 0)
    (h0 : RunC prog w A g L (.compLoop (.ListComp elt gens scope pos) d it acc env) K b N) (h : Run prog w A g L (pyIter it) (fun it' b' N' => it' = it ∧ RunC prog w A g L (.compLoop (.ListComp elt gens scope pos) d it acc env) K b' N') b N) :
    RunC prog w A g L (.compStart (.ListComp elt gens scope pos) d it acc env) K b N := .mk fun s St => by
  refine codeAny_of_tree ?_
  show wpAny _ A ((compStart (.ListComp elt gens scope pos) d it acc env).onRaise (fun x => do noteFrame x env; standAt theWindowsPlace)) _ _ s
  refine wpAny_notedAt ?_
  unfold compStart
  have hg' : (clausesOf (.ListComp elt gens scope pos))[d]? = some gd := hg
  rw [hg']
  simp only [Option.elim, ha]
  show wpAny _ _ (ask >>= _) _ _ s
  refine wpAny_bind (wpAny_askSetting (wpAny_ite ?_))
  split
  · exact wpAny_pure (And.intro rfl (h0.out s St))
  · refine wpAny_bind (wpAny_rule ?_)
    refine wpAny_bind (wpAny_standAt (wpAny_bind (h.use St fun it' h' tk b' N' S' k => ?_)))
    obtain ⟨rfl, k⟩ := k
    exact wpAny_pure (And.intro rfl (codeAny_mono (k.out _ S') fun r s' q => q))
theorem r_stand {pos : Pos} {K : Unit → Bd → Lg → Prop} (k : K () b N) : Run prog w A g L (standAt pos) K b N := .mk fun s St => wpAny_standAt ⟨s.heap, s.toks, b, N, rfl, St.st, k⟩
theorem r_runOwn {c : Code} {K : Flow → Bd → Lg → Prop} (h : RunC prog w A g L c (K .next) b N) : Run prog w A g L (runOwn c env) K b N := .mk fun s St => by
  refine wpAny_runOwn (h := none) (codeAny_mono (h.out s St) fun r s' ⟨e, h', tk, b', N', e2, S', k⟩ => ?_)
  subst e
  subst e2
  exact ⟨h', tk, b', N', rfl, S'.st, k⟩
def tests (ifs : List Expr) (env : Env) : Sem Bool := forIn ifs true fun c r => if r = true then do let ok ← isTrue c env (eval c env); pure (ForInStep.yield ok) else pure (ForInStep.yield r)
theorem r_tests0 {K : Bool → Bd → Lg → Prop} (k : K true b N) : Run prog w A g L (tests [] env) K b N := Run.pure k
theorem r_tests1 {c : Expr} {K : Bool → Bd → Lg → Prop} (h : Run prog w A g L (isTrue c env (eval c env)) K b N) : Run prog w A g L (tests [c] env) K b N := .mk fun s St => wpAny_tests_one (h.out s St)
/-- one turn of a block with one clause -/
theorem r_turn {elt target iter : Expr} {ifs : List Expr} {scope : Scope} {pos : Pos} {it acc : Value} {J : Nat → Bd → Lg → Prop} {m : Nat} {K : Bd → Lg → Prop}
    (h : Run prog w A g L (pyNext it) (fun o => match o with | none => K | some v => Run prog w A g L (letOwnedTupleGo target it v) (fun _ => Run prog w A g L (assign target env v) (fun _ => Run prog w A g L (tests ifs env) (fun ok =>
      if ok then Run prog w A g L (eval elt env) (fun x => Run prog w A g L (call (.builtin "list.append") [acc, x]) (fun _ => Next (fun b N => ∃ k, k < m ∧ J k b N))) else Next (fun b N => ∃ k, k < m ∧ J k b N))))) b N) :
    Run prog w A g L (compTurn (.ListComp elt [⟨target, iter, ifs, 0⟩] scope pos) 0 it acc env) (FinOf (.compLoop (.ListComp elt [⟨target, iter, ifs, 0⟩] scope pos) 0 it acc env) J m K) b N := by
  rw [compTurn_list]
  refine Run.bind (r_stand (Run.bind (h.mono fun o b1 N1 k => ?_)))
  cases o with
  | none => exact Run.pure k
  | some v =>
    refine Run.bind (k.mono fun _ b2 N2 k => Run.bind (k.mono fun _ b3 N3 k => Run.bind (k.mono fun ok b4 N4 k => ?_)))
    cases ok with
    | true =>
      rw [if_pos rfl] at k
      exact Run.bind (Run.bind (k.mono fun x b5 N5 k => Run.bind (k.mono fun _ b6 N6 k => Run.pure (Run.pure ⟨rfl, k⟩))))
    | false =>
      rw [if_neg Bool.false_ne_true] at k
      exact Run.pure ⟨rfl, k⟩
/-- the outer turn of a block with two clauses -/
theorem r_turn2 {elt t1 i1 t2 i2 : Expr} {scope : Scope} {pos : Pos} {it acc : Value} {J : Nat → Bd → Lg → Prop} {m : Nat} {K : Bd → Lg → Prop} (hf : ∀ x, foldedSetIterable i2 env x = pure x)
    (h : Run prog w A g L (pyNext it) (fun o => match o with | none => K | some v => Run prog w A g L (letOwnedTupleGo t1 it v) (fun _ => Run prog w A g L (assign t1 env v) (fun _ => Run prog w A g L (eval i2 env) (fun x => Run prog w A g L (pyIter x) (fun it2 =>
      RunC prog w A g L (.compStart (.ListComp elt [⟨t1, i1, [], 0⟩, ⟨t2, i2, [], 0⟩] scope pos) 1 it2 acc env) (Next (fun b N => ∃ k, k < m ∧ J k b N))))))) b N) :
    Run prog w A g L (compTurn (.ListComp elt [⟨t1, i1, [], 0⟩, ⟨t2, i2, [], 0⟩] scope pos) 0 it acc env) (FinOf (.compLoop (.ListComp elt [⟨t1, i1, [], 0⟩, ⟨t2, i2, [], 0⟩] scope pos) 0 it acc env) J m K) b N := by
  refine Run.bind (r_stand (Run.bind (h.mono fun o b1 N1 k => ?_)))
  cases o with
  | none => exact Run.pure k
  | some v =>
    refine Run.bind (k.mono fun _ b2 N2 k => Run.bind (k.mono fun _ b3 N3 k => ?_))
    refine Run.bind (r_tests0 (env := env) ?_)
    refine Run.bind (k.mono fun x b4 N4 k => Run.bind (r_stand ?_))
    show Run prog w A g L (foldedSetIterable i2 env x >>= _) _ _ _
    rw [hf x]
    refine Run.bind (Run.pure (Run.bind (Run.holding (k.mono fun it2 b5 N5 k => ?_))))
    exact Run.bind (r_runOwn (k.mono fun b6 N6 k => Run.pure ⟨rfl, k⟩))
theorem r_turn2i {elt t1 i1 t2 i2 : Expr} {scope : Scope} {pos : Pos} {it acc : Value} {J : Nat → Bd → Lg → Prop} {m : Nat} {K : Bd → Lg → Prop}
    (h : Run prog w A g L (pyNext it) (fun o => match o with | none => K | some v => Run prog w A g L (letOwnedTupleGo t2 it v) (fun _ => Run prog w A g L (assign t2 env v) (fun _ =>
      Run prog w A g L (eval elt env) (fun x => Run prog w A g L (call (.builtin "list.append") [acc, x]) (fun _ => Next (fun b N => ∃ k, k < m ∧ J k b N)))))) b N) :
    Run prog w A g L (compTurn (.ListComp elt [⟨t1, i1, [], 0⟩, ⟨t2, i2, [], 0⟩] scope pos) 1 it acc env) (FinOf (.compLoop (.ListComp elt [⟨t1, i1, [], 0⟩, ⟨t2, i2, [], 0⟩] scope pos) 1 it acc env) J m K) b N := by
  refine Run.bind (r_stand (Run.bind (h.mono fun o b1 N1 k => ?_)))
  cases o with
  | none => exact Run.pure k
  | some v =>
    refine Run.bind (k.mono fun _ b2 N2 k => Run.bind (k.mono fun _ b3 N3 k => ?_))
    refine Run.bind (r_tests0 (env := env) ?_)
    exact Run.bind (Run.bind (k.mono fun x b5 N5 k => Run.bind (k.mono fun _ b6 N6 k => Run.pure (Run.pure ⟨rfl, k⟩))))

/-- the block's state: its own names at C, the frame's names kept in the ledger -/
theorem comp_enter {e : Expr} {scope : Scope} {pos : Pos} {first : Sem Value} {g1 : Comprehension} {gs : List Comprehension} {cl : List (Str × Addr)} {K : Value → Bd → Lg → Prop}
    (hcl : clausesOf e = g1 :: gs) (hs : ∀ x, foldedSetIterable g1.iter env x = pure x) (hclos : closureFor scope env = pure cl) (hcell : ∀ y ∈ scope.names, y.2 ≠ .cell)
    (hkind : scope.kind = .function) (hnames : ∀ x ∈ scope.names, x.2 = .local → scope.names.lookup x.1 = some .local)
    (h : Run prog w A g L first (fun x => Run prog w A g L (pyIter x) (fun it b2 N2 => ∀ C D oL, RunC prog w A g C (.compStart e 0 it (.ref D) (compEnvC scope cl C env)) (fun _ N3 => ∃ N4, K (.ref D) b2 N4 ∧ List.Sublist ((L, oL) :: N4) N3) [] ((L, oL) :: (D, lstO [] 0) :: N2))) b N) :
    Run prog w A g L (comprehension e scope env pos (newList []) false first) K b N := .mk fun s St => by
  refine wpAny_comprehension_free (use := none) hcl hs hclos hkind hnames (h.use St fun x h1 t1 b1 N1 S1 r1 => r1.use S1 fun it h2 t2 b2 N2 S2 r2 => ?_)
  have S3 := S2.st.push { cls := .type "list", data := .seq ([] : List Value).toArray }
  refine wpAny_newObj_type (wpAny_newFunctionEnv hcell (by intro y hy; simp at hy) (fun h₁ hns₁ hsb₁ => ?_) hkind)
  dsimp only at hns₁ hsb₁ S3 ⊢
  generalize hH : h2.push { cls := .type "list", dict := none, data := .seq ([] : List Value).toArray } = H at hns₁ hsb₁ S3 ⊢
  obtain ⟨oL, lo, hab, S4⟩ := S3.into (C := H.objs.size) (Nat.le_refl _) (fun c o e => hsb₁.extBut c o (Nat.ne_of_lt (Heap.lt_size e)) (Heap.get?_push_of_some _ e)) hns₁
  refine codeAny_mono ((r2 H.objs.size h2.objs.size oL).out _ ⟨S4, Nat.lt_of_lt_of_le S2.pos (Nat.le_add_right _ _)⟩) fun r s' ⟨er, h5, t5, b5, N5, es, S5, N6, k, sl⟩ => ?_
  subst er
  subst es
  have S6 := S5.st.drop sl
  obtain ⟨m5, F5, _⟩ := S5.st.fr
  refine ⟨m5, F5.ns, fun h' hs' => ⟨h', t5, b2, N6, rfl, S6.outof lo hab hs', k⟩⟩
theorem Sta.outofC {h2 : Heap} {bc : Bd} {oL : Obj} (S : Sta g C h2 bc ((L, oL) :: N)) (lo : LocOf L b oL) (hL : g.objs.size ≤ L) : ∃ oC, (∃ m, ∀ h : Heap, h.get? C = some oC → h.Ns C m) ∧ Sta g L h2 b ((C, oC) :: N) := by
  obtain ⟨mc, F, _⟩ := S.fr
  obtain ⟨oC, es, ep, hC, r⟩ := id F.ns
  have PL := S.news _ (List.mem_cons_self)
  have S1 : Sta g L h2 b N := S.outof lo hL (.refl ..)
  refine ⟨oC, ⟨mc, fun h e => ⟨oC, es, ep, e, r⟩⟩, S1.fr, fun p hp => ?_, ?_, S1.bn⟩
  · rcases List.mem_cons.mp hp with rfl | hp
    · exact ⟨hC, fun e => PL.2.1 e.symm, Heap.get?_none_of_le F.above⟩
    · exact S1.news p hp
  · simp only [List.map_cons, List.nodup_cons]
    refine ⟨fun hm => ?_, S1.nd⟩
    obtain ⟨p, hp, e⟩ := List.mem_map.mp hm
    exact (S.news p (List.mem_cons_of_mem _ hp)).2.1 e
theorem comp_used {e : Expr} {scope : Scope} {pos : Pos} {first : Sem Value} {g1 : Comprehension} {gs : List Comprehension} {cl : List (Str × Addr)} {use : Value → Sem Unit} {K : Bd → Lg → Prop}
    (hcl : clausesOf e = g1 :: gs) (hs : ∀ x, foldedSetIterable g1.iter env x = pure x) (hclos : closureFor scope env = pure cl) (hcell : ∀ y ∈ scope.names, y.2 ≠ .cell)
    (hkind : scope.kind = .function) (hnames : ∀ x ∈ scope.names, x.2 = .local → scope.names.lookup x.1 = some .local)
    (h : Run prog w A g L first (fun x => Run prog w A g L (pyIter x) (fun it b2 N2 => ∀ C D oL, RunC prog w A g C (.compStart e 0 it (.ref D) (compEnvC scope cl C env)) (fun _ N3 => ∃ N4, List.Sublist ((L, oL) :: N4) N3 ∧ ∀ oC,
      Run prog w A g L (use (.ref D)) (fun _ b5 N5 => ∃ N6, K b5 N6 ∧ List.Sublist ((C, oC) :: N6) N5) b2 ((C, oC) :: N4)) [] ((L, oL) :: (D, lstO [] 0) :: N2))) b N) :
    Run prog w A g L (comprehension e scope env pos (newList []) false first (some use)) (fun _ => K) b N := .mk fun s St => by
  refine wpAny_comprehension_free (use := some use) hcl hs hclos hkind hnames (h.use St fun x h1 t1 b1 N1 S1 r1 => r1.use S1 fun it h2 t2 b2 N2 S2 r2 => ?_)
  have S3 := S2.st.push { cls := .type "list", data := .seq ([] : List Value).toArray }
  refine wpAny_newObj_type (wpAny_newFunctionEnv hcell (by intro y hy; simp at hy) (fun h₁ hns₁ hsb₁ => ?_) hkind)
  dsimp only at hns₁ hsb₁ S3 ⊢
  generalize hH : h2.push { cls := .type "list", dict := none, data := .seq ([] : List Value).toArray } = H at hns₁ hsb₁ S3 ⊢
  obtain ⟨oL, lo, hab, S4⟩ := S3.into (C := H.objs.size) (Nat.le_refl _) (fun c o e => hsb₁.extBut c o (Nat.ne_of_lt (Heap.lt_size e)) (Heap.get?_push_of_some _ e)) hns₁
  refine codeAny_mono ((r2 H.objs.size h2.objs.size oL).out _ ⟨S4, Nat.lt_of_lt_of_le S2.pos (Nat.le_add_right _ _)⟩) fun r s' ⟨er, h5, t5, b5, N5, es, S5, N6, sl, k⟩ => ?_
  subst er
  subst es
  obtain ⟨oC, ⟨mC, hnC⟩, S6⟩ := (S5.st.drop sl).outofC lo hab
  refine (k oC).use (s := { s with heap := h5, toks := t5 }) ⟨S6, S5.pos⟩ fun _ h7 t7 b7 N7 S7 ⟨N8, k8, sl8⟩ => ?_
  have S8 := S7.st.drop sl8
  exact ⟨mC, hnC _ (S8.get List.mem_cons_self), fun h' hs' => ⟨h', t7, b7, N8, rfl, S8.gone hs'.extBut, k8⟩⟩
theorem r_listcomp {elt target iter : Expr} {ifs : List Expr} {rest : List Comprehension} {scope : Scope} {pos : Pos} {cl : List (Str × Addr)} {K : Value → Bd → Lg → Prop}
    (hs : ∀ x, foldedSetIterable iter env x = pure x) (hclos : closureFor scope env = pure cl) (hcell : ∀ y ∈ scope.names, y.2 ≠ .cell)
    (hkind : scope.kind = .function) (hnames : ∀ x ∈ scope.names, x.2 = .local → scope.names.lookup x.1 = some .local)
    (h : Run prog w A g L (eval iter env) (fun x => Run prog w A g L (pyIter x) (fun it b2 N2 => ∀ C D oL, RunC prog w A g C (.compStart (.ListComp elt (⟨target, iter, ifs, 0⟩ :: rest) scope pos) 0 it (.ref D) (compEnvC scope cl C env)) (fun _ N3 => ∃ N4, K (.ref D) b2 N4 ∧ List.Sublist ((L, oL) :: N4) N3) [] ((L, oL) :: (D, lstO [] 0) :: N2))) b N) :
    Run prog w A g L (eval (.ListComp elt (⟨target, iter, ifs, 0⟩ :: rest) scope pos) env) K b N := by
  rw [eval_ListComp]; exact comp_enter rfl hs hclos hcell hkind hnames h
theorem r_assignComp {elt target iter : Expr} {ifs : List Expr} {rest : List Comprehension} {scope : Scope} {pos spos py : Pos} {y : Str} {cl : List (Str × Addr)} {K : Flow → Bd → Lg → Prop}
    (hsw : swapsWith (.ListComp elt (⟨target, iter, ifs, 0⟩ :: rest) scope pos) (some (.Name y py)) spos.line env = pure true)
    (hs : ∀ x, foldedSetIterable iter env x = pure x) (hclos : closureFor scope env = pure cl) (hcell : ∀ y ∈ scope.names, y.2 ≠ .cell)
    (hkind : scope.kind = .function) (hnames : ∀ x ∈ scope.names, x.2 = .local → scope.names.lookup x.1 = some .local)
    (h : Run prog w A g L (eval iter env) (fun x => Run prog w A g L (pyIter x) (fun it b2 N2 => ∀ C D oL, RunC prog w A g C (.compStart (.ListComp elt (⟨target, iter, ifs, 0⟩ :: rest) scope pos) 0 it (.ref D) (compEnvC scope cl C env)) (fun _ N3 => ∃ N4, List.Sublist ((L, oL) :: N4) N3 ∧ ∀ oC,
      Run prog w A g L (storeName env y (.ref D)) (fun _ b5 N5 => ∃ N6, K .next b5 N6 ∧ List.Sublist ((C, oC) :: N6) N5) b2 ((C, oC) :: N4)) [] ((L, oL) :: (D, lstO [] 0) :: N2))) b N) :
    Run prog w A g L (exec (.Assign [.Name y py] (.ListComp elt (⟨target, iter, ifs, 0⟩ :: rest) scope pos) spos) env) K b N := by
  rw [exec_Assign_Name_used _ _ _ _ hsw]
  refine Run.bind (r_stand (Run.bind ?_))
  show Run prog w A g L (do let _ ← comprehension (.ListComp elt (⟨target, iter, ifs, 0⟩ :: rest) scope pos) scope env _ (newList []) false (eval iter env) (some (assign (.Name y py) env))) _ _ _
  refine Run.bind ((comp_used (use := assign (.Name y py) env) (K := K .next) rfl hs hclos hcell hkind hnames (h.mono fun x b1 N1 k => k.mono fun it b2 N2 k C D oL => (k C D oL).mono fun b3 N3 ⟨N4, sl, k⟩ => ⟨N4, sl, fun oC => r_asName (k oC)⟩)).mono fun _ b5 N5 k => ?_)
  exact Run.pure (Run.pure k)
end
end Mine

end
section
open PySem PySem.W PyProof.Rows PySem.Calls
set_option maxHeartbeats 4000000
namespace Mine
/-- a thing of this type that holds this -/
def KObj (c : String) (d : Data) (o : Obj) : Prop := o.cls = .type c ∧ o.data = d
def LI (l : Addr) (i : Nat) : Obj → Prop := KObj "list_iterator" (.fields #[.ref l, .int i 0])
def TI (l : Addr) (i : Nat) : Obj → Prop := KObj "tuple_iterator" (.fields #[.ref l, .int i 0])
def SI (x : Str) (t : Tok) (i : Nat) : Obj → Prop := KObj (strIterType x) (.fields #[.str x t, .int i 0])
def enO (it : Addr) (i : Int) (old : Value) : Obj := { cls := .type "enumerate", dict := none, data := .fields #[.none, .bool false, .ref it, rawInt i, .none, old], slots := #[] }
def enOut (it : Addr) (i : Int) (x : Value) (a : Addr) : Obj := { cls := .type "enumerate", dict := none, data := .fields #[rawInt a, .bool false, .ref it, rawInt i, .none, x], slots := #[] }
section
variable {prog : Program} {w : World} {F : Frag} {n : Nat} {A : Around} {g : Heap} {L : Addr} {b : Bd} {N N' : Lg} {env : Env} {s : Shared}
theorem Sta.perm {h : Heap} (St : Sta g L h b N) (hp : N.Perm N') : Sta g L h b N' := ⟨St.fr, fun p hm => St.news p (hp.mem_iff.mpr hm), (hp.map _).nodup_iff.mp St.nd, St.bn⟩
theorem RunC.perm {c : Code} {K : Bd → Lg → Prop} (hp : N.Perm N') (r : RunC prog w A g L c K b N') : RunC prog w A g L c K b N := .mk fun s St => r.out s ⟨St.st.perm hp, St.pos⟩
theorem Run.perm {α : Type} {t : Sem α} {K : α → Bd → Lg → Prop} (hp : N.Perm N') (r : Run prog w A g L t K b N') : Run prog w A g L t K b N := .mk fun s St => r.out s ⟨St.st.perm hp, St.pos⟩
theorem perm3 {α : Type} {a b c : α} {r : List α} : (a :: b :: c :: r).Perm (c :: a :: b :: r) := ((List.Perm.swap c b r).cons a).trans (List.Perm.swap c a (b :: r))
theorem perm4 {α : Type} {a b c d : α} {r : List α} : (a :: b :: c :: d :: r).Perm (c :: d :: a :: b :: r) := perm3.trans ((perm3 (a := a) (b := b) (c := d) (r := r)).cons c)
/-- the head entry changed, all else kept -/
theorem Sta.head {h h' : Heap} {a : Addr} {o o' : Obj} (St : Sta g L h b ((a, o) :: N)) (hk : ∀ c x, c ≠ a → h.get? c = some x → h'.get? c = some x) (ho : h'.get? a = some o') : Sta g L h' b ((a, o') :: N) := by
  have S := St.gone hk
  have D := St.news _ List.mem_cons_self
  refine ⟨S.fr, fun p hp => ?_, St.nd, S.bn⟩
  rcases List.mem_cons.mp hp with rfl | hp
  · exact ⟨ho, D.2⟩
  · exact S.news p hp
theorem Sta.two {h h' : Heap} {a c : Addr} {o p o' p' : Obj} (St : Sta g L h b ((a, o) :: (c, p) :: N)) (hk : ∀ d x, d ≠ a → d ≠ c → h.get? d = some x → h'.get? d = some x) (ho : h'.get? a = some o') (hp : h'.get? c = some p') : Sta g L h' b ((a, o') :: (c, p') :: N) := by
  obtain ⟨⟨m, F, hb⟩, n, d, bn⟩ := St
  have D := n _ List.mem_cons_self
  have D2 := n _ (List.mem_cons_of_mem _ List.mem_cons_self)
  obtain ⟨oL, es, ep, hL, r⟩ := F.ns
  simp only [List.map_cons, List.nodup_cons, List.mem_cons, not_or] at d
  refine ⟨⟨m, ⟨⟨oL, es, ep, hk _ _ (Ne.symm D.2.1) (Ne.symm D2.2.1) hL, r⟩, fun c x q => ?_, F.above⟩, hb⟩, fun q hq => ?_, by simpa [not_or] using d, bn⟩
  · refine hk c x (fun z => ?_) (fun z => ?_) (F.keep c x q)
    · have := D.2.2; simp only [← z] at this; rw [q] at this; cases this
    · have := D2.2.2; simp only [← z] at this; rw [q] at this; cases this
  · rcases List.mem_cons.mp hq with rfl | hq
    · exact ⟨ho, D.2⟩
    · rcases List.mem_cons.mp hq with rfl | hq
      · exact ⟨hp, D2.2⟩
      · have P := n q (List.mem_cons_of_mem _ (List.mem_cons_of_mem _ hq))
        exact ⟨hk _ _ (fun e => d.1.2 (e ▸ List.mem_map_of_mem hq)) (fun e => d.2.1 (e ▸ List.mem_map_of_mem hq)) P.1, P.2⟩
theorem Sta.fresh {h : Heap} {T : Addr} {o : Obj} (St : Sta g L h b N) (hT : ∀ p ∈ N, p.1 ≠ T) (hL : T ≠ L) (hg : g.get? T = none) (ho : h.get? T = some o) : Sta g L h b ((T, o) :: N) := by
  refine ⟨St.fr, fun p hp => ?_, ?_, St.bn⟩
  · rcases List.mem_cons.mp hp with rfl | hp
    · exact ⟨ho, hL, hg⟩
    · exact St.news p hp
  · simp only [List.map_cons, List.nodup_cons]
    refine ⟨fun hm => ?_, St.nd⟩
    obtain ⟨p, hp, e⟩ := List.mem_map.mp hm
    exact hT p hp e

theorem r_listIter {l : Addr} {vs : List Value} {c : Nat} {K : Value → Bd → Lg → Prop} (hm : (l, lstO vs c) ∈ N) (k : ∀ it o, LI l 0 o → K (.ref it) b ((it, o) :: N)) : Run prog w A g L (pyIter (.ref l)) K b N :=
  .mk fun s St => wpAny_pyIter_list (items := vs.toArray) ⟨_, St.get hm, rfl, c, rfl⟩ ⟨_, s.toks, _, _, rfl, St.st.push _, k _ _ ⟨rfl, rfl⟩⟩
theorem r_listNext {it l : Addr} {o : Obj} {vs : List Value} {c i : Nat} {v : Value} {K : Option Value → Bd → Lg → Prop} (hl : LI l i o) (hm : (l, lstO vs c) ∈ N) (hx : vs[i]? = some v) (k : ∀ o', LI l (i + 1) o' → K (some v) b ((it, o') :: N)) :
    Run prog w A g L (pyNext (.ref it)) K b ((it, o) :: N) := .mk fun s St =>
  wpAny_pyNext_list_item (items := vs.toArray) ⟨_, St.get List.mem_cons_self, hl.1, hl.2⟩ ⟨_, St.get (List.mem_cons_of_mem _ hm), rfl, c, rfl⟩ (by simpa using hx) fun h' hit hs => by
    obtain ⟨o', e1, e2, e3⟩ := hit
    exact ⟨h', s.toks, _, _, rfl, St.st.sameBut Up.head hs e1, k o' ⟨e2, e3⟩⟩
theorem r_listEnd {it l : Addr} {o : Obj} {vs : List Value} {c i : Nat} {K : Option Value → Bd → Lg → Prop} (hh : A.handled = none) (hl : LI l i o) (hm : (l, lstO vs c) ∈ N) (hx : vs[i]? = none) (k : K none b N) :
    Run prog w A g L (pyNext (.ref it)) K b ((it, o) :: N) := .mk fun s St =>
  wpAny_pyNext_list_end (items := vs.toArray) hh ⟨_, St.get List.mem_cons_self, hl.1, hl.2⟩ ⟨_, St.get (List.mem_cons_of_mem _ hm), rfl, c, rfl⟩ (by simpa using hx) fun h' hs => ⟨h', s.toks, _, _, rfl, St.st.gone hs, k⟩
theorem r_listSelf {it l : Addr} {o : Obj} {i : Nat} {K : Value → Bd → Lg → Prop} (hl : LI l i o) (hm : (it, o) ∈ N) (k : K (.ref it) b N) : Run prog w A g L (pyIter (.ref it)) K b N :=
  .still (fun _ => .ref it) (fun _ => k) fun s _ St h => wpAny_pyIter_listiter (l := l) (i := i) ⟨_, St.get hm, hl.1, hl.2⟩ (h s.toks s.toks)
theorem r_tupIter {l : Addr} {vs : List Value} {K : Value → Bd → Lg → Prop} (hm : (l, tupO vs) ∈ N) (k : ∀ it o, TI l 0 o → K (.ref it) b ((it, o) :: N)) : Run prog w A g L (pyIter (.ref l)) K b N :=
  .mk fun s St => wpAny_pyIter_tuple (items := vs.toArray) ⟨_, St.get hm, rfl, 0, rfl⟩ ⟨_, s.toks, _, _, rfl, St.st.push _, k _ _ ⟨rfl, rfl⟩⟩
theorem r_tupNext {it l : Addr} {o : Obj} {vs : List Value} {i : Nat} {v : Value} {K : Option Value → Bd → Lg → Prop} (hl : TI l i o) (hm : (l, tupO vs) ∈ N) (hx : vs[i]? = some v) (k : ∀ o', TI l (i + 1) o' → K (some v) b ((it, o') :: N)) :
    Run prog w A g L (pyNext (.ref it)) K b ((it, o) :: N) := .mk fun s St =>
  wpAny_pyNext_tuple_item (items := vs.toArray) ⟨_, St.get List.mem_cons_self, hl.1, hl.2⟩ ⟨_, St.get (List.mem_cons_of_mem _ hm), rfl, 0, rfl⟩ (by simpa using hx) fun h' hit hs => by
    obtain ⟨o', e1, e2, e3⟩ := hit
    exact ⟨h', s.toks, _, _, rfl, St.st.sameBut Up.head hs e1, k o' ⟨e2, e3⟩⟩
theorem r_tupEnd {it l : Addr} {o : Obj} {vs : List Value} {i : Nat} {K : Option Value → Bd → Lg → Prop} (hh : A.handled = none) (hl : TI l i o) (hm : (l, tupO vs) ∈ N) (hx : vs[i]? = none) (k : K none b N) :
    Run prog w A g L (pyNext (.ref it)) K b ((it, o) :: N) := .mk fun s St =>
  wpAny_pyNext_tuple_end (items := vs.toArray) hh ⟨_, St.get List.mem_cons_self, hl.1, hl.2⟩ ⟨_, St.get (List.mem_cons_of_mem _ hm), rfl, 0, rfl⟩ (by simpa using hx) fun h' hs => ⟨h', s.toks, _, _, rfl, St.st.gone hs, k⟩
theorem r_tupSelf {it l : Addr} {o : Obj} {i : Nat} {K : Value → Bd → Lg → Prop} (hl : TI l i o) (hm : (it, o) ∈ N) (k : K (.ref it) b N) : Run prog w A g L (pyIter (.ref it)) K b N :=
  .still (fun _ => .ref it) (fun _ => k) fun s _ St h => wpAny_pyIter_tupleiter (t := l) (i := i) ⟨_, St.get hm, hl.1, hl.2⟩ (h s.toks s.toks)
theorem r_rangeSelf {it : Addr} {x left : Int} {K : Value → Bd → Lg → Prop} (hm : (it, rngI x left) ∈ N) (k : K (.ref it) b N) : Run prog w A g L (pyIter (.ref it)) K b N :=
  .still (fun _ => .ref it) (fun _ => k) fun s _ St h => wpAny_pyIter_rangeiter (St.get hm) (h s.toks s.toks)

theorem str_walks (hh : A.handled = none) (I : Addr) (x : Str) (t : Tok) : Walks prog w A I [I] [I] x.cps.size (SignAt x) (fun i h => h.IsStrIter I (strIterType x) x t i) := by
  unfold strIterType
  split
  · exact Walks.strAscii hh I x t
  · exact Walks.strWide hh I x t
theorem str_draws (hh : A.handled = none) (I : Addr) (x : Str) (t : Tok) : Draws prog w A I [I] x.cps.size (fun i v => ∃ c u, x.cps[i]? = some c ∧ v = .str ⟨#[c]⟩ u) (fun i h => h.IsStrIter I (strIterType x) x t i) := by
  unfold strIterType
  split
  · exact Draws.strAscii hh I x t
  · exact Draws.strWide hh I x t
theorem r_strIter {x : Str} {t : Tok} {K : Value → Bd → Lg → Prop} (k : ∀ it o, SI x t 0 o → K (.ref it) b ((it, o) :: N)) : Run prog w A g L (pyIter (.str x t)) K b N :=
  .mk fun s St => wpAny_pyIter_strU ⟨_, s.toks, _, _, rfl, St.st.push _, k _ _ ⟨rfl, rfl⟩⟩
theorem r_strNext {it : Addr} {x : Str} {t : Tok} {o : Obj} {i c : Nat} {K : Option Value → Bd → Lg → Prop} (hh : A.handled = none) (hl : SI x t i o) (hx : x.cps[i]? = some c) (k : ∀ o' u, SI x t (i + 1) o' → K (some (.str ⟨#[c]⟩ u)) b ((it, o') :: N)) :
    Run prog w A g L (pyNext (.ref it)) K b ((it, o) :: N) := .mk fun s St => by
  refine (str_walks hh it x t).item i s _ _ (by have := Array.getElem?_eq_some_iff.mp hx; exact this.1) ⟨_, St.get List.mem_cons_self, hl.1, hl.2⟩ fun v h' tk hv hst hk => ?_
  obtain ⟨c', u, e1, rfl⟩ := hv
  rw [hx] at e1; cases e1
  obtain ⟨o', q1, q2, q3⟩ := hst
  exact ⟨h', tk, _, _, rfl, St.st.head (fun d z hd e => hk d z (by simpa using hd) e) q1, k o' u ⟨q2, q3⟩⟩
theorem r_strEnd {it : Addr} {x : Str} {t : Tok} {o : Obj} {K : Option Value → Bd → Lg → Prop} (hh : A.handled = none) (hl : SI x t x.cps.size o) (k : K none b N) :
    Run prog w A g L (pyNext (.ref it)) K b ((it, o) :: N) := .mk fun s St => by
  refine (str_walks hh it x t).done s _ _ ⟨_, St.get List.mem_cons_self, hl.1, hl.2⟩ fun h' tk hk => ?_
  exact ⟨h', tk, _, _, rfl, St.st.gone fun d z hd e => hk d z (by simpa using hd) e, k⟩
theorem r_strSelf (hh : A.handled = none) {it : Addr} {x : Str} {t : Tok} {o : Obj} {i : Nat} {K : Value → Bd → Lg → Prop} (hl : SI x t i o) (hm : (it, o) ∈ N) (k : K (.ref it) b N) : Run prog w A g L (pyIter (.ref it)) K b N :=
  .still (fun _ => .ref it) (fun _ => k) fun s _ St h => (str_walks hh it x t).self i s _ _ ⟨_, St.get hm, hl.1, hl.2⟩ (h s.toks s.toks)

/-- enumerate -/
theorem r_enumS {x : Str} {t : Tok} {K : Value → Bd → Lg → Prop} (k : ∀ e it o, SI x t 0 o → K (.ref e) b ((e, enO it 0 .none) :: (it, o) :: N)) : Run prog w A g L (call (.type "enumerate") [.str x t]) K b N := .mk fun s St => by
  refine call_enumerate_str fun h' he hi hz hk => ?_
  obtain ⟨o, q1, q2, q3⟩ := hi
  have old : ∀ p ∈ N, p.1 < s.heap.objs.size := fun p hp => Heap.lt_size (St.st.news p hp).1
  obtain ⟨m, F, _⟩ := St.st.fr
  have hLz : L < s.heap.objs.size := by obtain ⟨oL, _, _, hL, _⟩ := F.ns; exact Heap.lt_size hL
  have hgz : g.objs.size ≤ s.heap.objs.size := Nat.le_trans F.above (Nat.le_of_lt hLz)
  have S1 := (St.st.grow hk).fresh (fun p hp => Nat.ne_of_lt (old p hp)) (Nat.ne_of_gt hLz) (Heap.get?_none_of_le hgz) q1
  have S2 := S1.fresh (T := s.heap.objs.size + 1) (o := enO s.heap.objs.size 0 .none) (fun p hp => by
    rcases List.mem_cons.mp hp with rfl | hp
    · exact Nat.ne_of_lt (Nat.lt_succ_self _)
    · exact Nat.ne_of_lt (Nat.lt_succ_of_lt (old p hp))) (Nat.ne_of_gt (Nat.lt_succ_of_lt hLz)) (Heap.get?_none_of_le (Nat.le_succ_of_le hgz)) he
  exact ⟨h', s.toks, _, _, rfl, S2, k _ _ _ ⟨q2, q3⟩⟩
theorem r_enumL {l : Addr} {vs : List Value} {c : Nat} {K : Value → Bd → Lg → Prop} (hm : (l, lstO vs c) ∈ N) (k : ∀ e it o, LI l 0 o → K (.ref e) b ((e, enO it 0 .none) :: (it, o) :: N)) : Run prog w A g L (call (.type "enumerate") [.ref l]) K b N := .mk fun s St => by
  refine call_enumerate_list (items := vs.toArray) ⟨_, St.get hm, rfl, c, rfl⟩ fun h' he hi hz hk => ?_
  obtain ⟨o, q1, q2, q3⟩ := hi
  have old : ∀ p ∈ N, p.1 < s.heap.objs.size := fun p hp => Heap.lt_size (St.st.news p hp).1
  obtain ⟨m, F, _⟩ := St.st.fr
  have hLz : L < s.heap.objs.size := by obtain ⟨oL, _, _, hL, _⟩ := F.ns; exact Heap.lt_size hL
  have hgz : g.objs.size ≤ s.heap.objs.size := Nat.le_trans F.above (Nat.le_of_lt hLz)
  have S1 := (St.st.grow hk).fresh (fun p hp => Nat.ne_of_lt (old p hp)) (Nat.ne_of_gt hLz) (Heap.get?_none_of_le hgz) q1
  have S2 := S1.fresh (T := s.heap.objs.size + 1) (o := enO s.heap.objs.size 0 .none) (fun p hp => by
    rcases List.mem_cons.mp hp with rfl | hp
    · exact Nat.ne_of_lt (Nat.lt_succ_self _)
    · exact Nat.ne_of_lt (Nat.lt_succ_of_lt (old p hp))) (Nat.ne_of_gt (Nat.lt_succ_of_lt hLz)) (Heap.get?_none_of_le (Nat.le_succ_of_le hgz)) he
  exact ⟨h', s.toks, _, _, rfl, S2, k _ _ _ ⟨q2, q3⟩⟩
theorem r_enumSelf {e it : Addr} {i : Int} {old : Value} {K : Value → Bd → Lg → Prop} (hm : (e, enO it i old) ∈ N) (k : K (.ref e) b N) : Run prog w A g L (pyIter (.ref e)) K b N :=
  .still (fun _ => .ref e) (fun _ => k) fun s _ St h => wpAny_pyIter_enum (St.get hm) (h s.toks s.toks)
theorem Sta.enumStep {h h' : Heap} {e it : Addr} {i : Nat} {o o' : Obj} {old x : Value} {tk : Tok} (St : Sta g L h b ((e, enO it i old) :: (it, o) :: N)) (he : IsEnumOut h' e it ((i : Int) + 1) x h.objs.size) (ho : h'.get? it = some o')
    (hT : h'.get? h.objs.size = some { cls := .type "tuple", data := .seq #[.int i tk, x] }) (hk : ∀ b o, b ≠ e → b ≠ it → h.get? b = some o → h'.get? b = some o) :
    Sta g L h' b ((h.objs.size, tupO [.int i tk, x]) :: (e, enOut it ((i : Int) + 1) x h.objs.size) :: (it, o') :: N) := by
  have S1 := St.two hk (o' := enOut it ((i : Int) + 1) x h.objs.size) he ho
  have lts : ∀ p ∈ ((e, enO it i old) :: (it, o) :: N), p.1 < h.objs.size := fun p hp => Heap.lt_size (St.news p hp).1
  obtain ⟨m, F, _⟩ := St.fr
  have hLz : L < h.objs.size := by obtain ⟨oL, _, _, hL, _⟩ := F.ns; exact Heap.lt_size hL
  have hgz : g.objs.size ≤ h.objs.size := Nat.le_trans F.above (Nat.le_of_lt hLz)
  refine S1.fresh (fun p hp => ?_) (Nat.ne_of_gt hLz) (Heap.get?_none_of_le hgz) hT
  rcases List.mem_cons.mp hp with rfl | hp
  · exact Nat.ne_of_lt (lts (e, enO it i old) List.mem_cons_self)
  · rcases List.mem_cons.mp hp with rfl | hp
    · exact Nat.ne_of_lt (lts (it, o) (List.mem_cons_of_mem _ List.mem_cons_self))
    · exact Nat.ne_of_lt (lts p (List.mem_cons_of_mem _ (List.mem_cons_of_mem _ hp)))
theorem ne_of_head {h : Heap} {a c : Addr} {o p : Obj} (St : Sta g L h b ((a, o) :: (c, p) :: N)) : a ≠ c := by
  have d := St.nd
  simp only [List.map_cons, List.nodup_cons, List.mem_cons, not_or] at d
  exact d.1.1
theorem r_enumNextS {e it : Addr} {x : Str} {t : Tok} {o : Obj} {i c : Nat} {old : Value} {K : Option Value → Bd → Lg → Prop} (hh : A.handled = none) (hl : SI x t i o) (hx : x.cps[i]? = some c)
    (k : ∀ T o' u v, SI x t (i + 1) o' → K (some (.ref T)) b ((T, tupO [.int i u, .str ⟨#[c]⟩ v]) :: (e, enOut it ((i : Int) + 1) (.str ⟨#[c]⟩ v) T) :: (it, o') :: N)) :
    Run prog w A g L (pyNext (.ref e)) K b ((e, enO it i old) :: (it, o) :: N) := .mk fun s St => by
  have hne := ne_of_head St.st
  refine wpAny_pyNext_enum_itemD (str_draws (A := A.in1) hh it x t) (St.get List.mem_cons_self) ⟨_, St.get (List.mem_cons_of_mem _ List.mem_cons_self), hl.1, hl.2⟩ (Array.getElem?_eq_some_iff.mp hx).1 hne (by simpa using hne) fun v h' tk hv he hst hT hz hk => ?_
  obtain ⟨c', u, e1, rfl⟩ := hv
  rw [hx] at e1; cases e1
  obtain ⟨o', q1, q2, q3⟩ := hst
  exact ⟨h', tk + 1, _, _, rfl, St.st.enumStep he q1 hT hk, k _ _ _ _ ⟨q2, q3⟩⟩
theorem r_enumNextL {e it l : Addr} {vs : List Value} {c : Nat} {o : Obj} {i : Nat} {old v : Value} {K : Option Value → Bd → Lg → Prop} (hl : LI l i o) (hm : (l, lstO vs c) ∈ N) (hx : vs[i]? = some v)
    (k : ∀ T o' u, LI l (i + 1) o' → K (some (.ref T)) b ((T, tupO [.int i u, v]) :: (e, enOut it ((i : Int) + 1) v T) :: (it, o') :: N)) :
    Run prog w A g L (pyNext (.ref e)) K b ((e, enO it i old) :: (it, o) :: N) := .mk fun s St => by
  have hne := ne_of_head St.st
  refine wpAny_pyNext_enum_item (items := vs.toArray) (St.get List.mem_cons_self) ⟨_, St.get (List.mem_cons_of_mem _ List.mem_cons_self), hl.1, hl.2⟩ ⟨_, St.get (List.mem_cons_of_mem _ (List.mem_cons_of_mem _ hm)), rfl, c, rfl⟩ (by simpa using hx) hne fun h' he hst hT hz hk => ?_
  obtain ⟨o', q1, q2, q3⟩ := hst
  exact ⟨h', s.toks + 1, _, _, rfl, St.st.enumStep he q1 hT hk, k _ _ _ ⟨q2, q3⟩⟩
theorem r_enumEndS {e it : Addr} {x : Str} {t : Tok} {o : Obj} {i : Int} {old : Value} {K : Option Value → Bd → Lg → Prop} (hh : A.handled = none) (hl : SI x t x.cps.size o) (k : K none b N) :
    Run prog w A g L (pyNext (.ref e)) K b ((e, enO it i old) :: (it, o) :: N) := .mk fun s St => by
  refine wpAny_pyNext_enum_endD (str_draws (A := A.in1) hh it x t) (St.get List.mem_cons_self) ⟨_, St.get (List.mem_cons_of_mem _ List.mem_cons_self), hl.1, hl.2⟩ fun h' hk => ?_
  exact ⟨h', s.toks, _, _, rfl, (St.st.drop (.cons _ (.refl _))).gone hk, k⟩
theorem r_enumEndL {e it l : Addr} {vs : List Value} {c i : Nat} {o : Obj} {old : Value} {K : Option Value → Bd → Lg → Prop} (hh : A.handled = none) (hl : LI l i o) (hm : (l, lstO vs c) ∈ N) (hx : vs[i]? = none) (k : K none b N) :
    Run prog w A g L (pyNext (.ref e)) K b ((e, enO it i old) :: (it, o) :: N) := .mk fun s St => by
  refine wpAny_pyNext_enum_end (items := vs.toArray) hh (St.get List.mem_cons_self) ⟨_, St.get (List.mem_cons_of_mem _ List.mem_cons_self), hl.1, hl.2⟩ ⟨_, St.get (List.mem_cons_of_mem _ (List.mem_cons_of_mem _ hm)), rfl, c, rfl⟩ (by simpa using hx) fun h' hk => ?_
  exact ⟨h', s.toks, _, _, rfl, (St.st.drop (.cons _ (.refl _))).gone hk, k⟩
theorem r_goEnum {elts : List Expr} {x1 : Nat} {pos : Pos} {e it T : Addr} {i : Int} {v : Value} {p : Addr × Obj} {K : Unit → Bd → Lg → Prop} (k : K () b (p :: (e, enO it i v) :: N)) :
    Run prog w A g L (letOwnedTupleGo (.Tuple elts x1 pos) (.ref e) (.ref T)) K b (p :: (e, enOut it i v T) :: N) := .mk fun s St =>
  wpAny_letOwnedTupleGo_enum (St.get (List.mem_cons_of_mem _ List.mem_cons_self)) fun h' he hs => ⟨h', s.toks, _, _, rfl, St.st.sameBut (Up.tail Up.head) hs he, k⟩
end
end Mine

end
section
open PySem PySem.W PyProof.Rows PySem.Calls
set_option maxHeartbeats 4000000
namespace Mine
section
variable {prog : Program} {w : World} {F : Frag} {n : Nat} {A : Around} {g : Heap} {L : Addr} {b : Bd} {N N' : Lg} {env : Env} {s : Shared} {K : Value → Bd → Lg → Prop}
theorem r_mcallK {o : Expr} {name : Str} {apos pos : Pos} {args : List Expr} {kws : List Keyword} {pl : Sem Bool}
    (he : eval (.Call (.Attribute o name apos) args kws pos) env = (do
      let ov ← eval o env
      standAt apos.atName
      let (f, first) ← holding [ov] (getMethod ov name pl)
      callWith pos f first (backTo pos (starEach args env)) (backToKw pos (keywordEach kws env))))
    (h : Run prog w A g L (eval o env) (fun ov => Run prog w A g L (getMethod ov name pl) (fun fx => Run prog w A g L (callWith pos fx.1 fx.2 (backTo pos (starEach args env)) (backToKw pos (keywordEach kws env))) K)) b N) :
    Run prog w A g L (eval (.Call (.Attribute o name apos) args kws pos) env) K b N := by
  rw [he]
  exact Run.bind (h.mono fun _ _ _ k => Run.bind (r_stand (Run.bind (Run.holding (k.mono fun _ _ _ k => k)))))
theorem r_cwKw {pos p : Pos} {f : Value} {first : List Value} {e value : Expr} {name : Str} {rest : List Expr} (O : Okay F n A env g L) (hk : keepIn F f = true) (he : starEach (e :: rest) env = (false, eval e env) :: starEach rest env) (hp : (backTo pos (starEach rest env)).any (·.1) = false)
    (h : Run prog w A g L (spliced (backTo pos (starEach (e :: rest) env))) (fun vs => Run prog w A g L (eval value env) (fun v => Run prog w A g L (call f (first ++ vs) [(name, v)]) K)) b N) :
    Run prog w A g L (callWith pos f first (backTo pos (starEach (e :: rest) env)) (backToKw pos (keywordEach [⟨some name, value, p⟩] env))) K b N := .mk fun s St => by
  have h' : wpAny (model prog w) A (spliced (backTo pos (starEach (e :: rest) env))) (fun vs s₁ => wpAny (model prog w) A (evalAll ((backToKw pos (keywordEach [⟨some name, value, p⟩] env)).map (·.2))) (fun ks s₂ => F.In s₂.heap ∧ wpAny (model prog w) A (call f (first ++ vs) (((backToKw pos (keywordEach [⟨some name, value, p⟩] env)).filterMap (·.1)).zip ks)) (Post g L s K) (fun _ _ => False) s₂) (fun _ _ => False) s₁) (fun _ _ => False) s :=
    h.use St fun vs _ _ _ _ S1 r1 => kwAll_cons (r1.use S1 fun v _ _ _ _ S2 r2 => kwAll_nil ⟨O.X.keeps S2.keep, r2.use S2 fun v h' tk b' N' S' k => done' v h' tk b' N' S' k⟩)
  rw [he] at h' ⊢
  exact callWith_of (by show ((false || (backTo pos (starEach rest env)).any (·.1)) || false) = false; rw [hp]; rfl) (keeps_K hk) (evalArgs_kw rfl h')
theorem r_cwK0 {pos : Pos} {f : Value} {first : List Value} (O : Okay F n A env g L) (hk : keepIn F f = true)
    (h : Run prog w A g L (call f (first ++ [])) K b N) : Run prog w A g L (callWith pos f first (backTo pos (starEach [] env)) []) K b N :=
  .mk fun s St => callWith_K0 (O.X.keeps St.keep) hk (h.out s St)
theorem inst_at {h : Heap} {x dx C : Addr} {es : List DictEntry} {k : Nat} (St : Sta g L h b N) (hx : (x, instObj C dx) ∈ N) (hd : (dx, dictOf es k) ∈ N) : PySem.W.InstAt h x (instObj C dx) C (some (dictOf es k)) :=
  ⟨St.get hx, rfl, rfl, St.get hd⟩
theorem r_gmInst {x dx C f : Addr} {es : List DictEntry} {k : Nat} {name : Str} {pl : Sem Bool} {K : Value × List Value → Bd → Lg → Prop} (O : Okay F n A env g L) (hx : (x, instObj C dx) ∈ N) (hd : (dx, dictOf es k) ∈ N) (hg : plainGet F C name = true)
    (hf : findIn F (.ref C) name = some (some (.ref f))) (ht : isFn F (.ref f) = true) (hl : getL name es = some none) (kk : K (.ref f, [.ref x]) b N) : Run prog w A g L (getMethod (.ref x) name pl) K b N :=
  .still (fun _ => (.ref f, [.ref x])) (fun _ => kk) fun s _ St h => by
    obtain ⟨m, Fm, _⟩ := id St.st.fr
    exact method_inst Fm O.X (inst_at St.st hx hd) hg hf ht hl (h s.toks s.toks)
theorem r_attr {x attr : Str} {xp pos : Pos} (he : eval (.Attribute (.Name x xp) attr pos) env = (do
      let o ← eval (.Name x xp) env
      standAt pos.atName
      let r ← holding [o] (getAttr o attr true)
      letTemporaryGo (.Name x xp) o r
      pure r)) (h : Run prog w A g L (eval (.Name x xp) env) (fun o => Run prog w A g L (getAttr o attr true) K) b N) : Run prog w A g L (eval (.Attribute (.Name x xp) attr pos) env) K b N :=
  .mk fun _ St => Attribute_Name_ (h.use St fun _ _ _ _ _ S1 r1 => r1.use S1 fun v h' tk b' N' S' k => done' v h' tk b' N' S' k) he
theorem r_own {x dx C : Addr} {es : List DictEntry} {k : Nat} {name : Str} {v : Value} {at0 : Option Value} (O : Okay F n A env g L) (hx : (x, instObj C dx) ∈ N) (hd : (dx, dictOf es k) ∈ N) (hg : plainGet F C name = true) (hh : hasDictIn F C = true)
    (ha : findIn F (.ref C) name = some at0) (hn : noGet F at0 = true) (hl : getL name es = some (some v)) (hv : handedIn v = true) (kk : K v b N) : Run prog w A g L (getAttr (.ref x) name true) K b N :=
  .still (fun _ => v) (fun _ => kk) fun s _ St h => by
    obtain ⟨m, Fm, _⟩ := id St.st.fr
    exact get_own Fm O.X (inst_at St.st hx hd) hg hh ha hn hl hv (h s.toks _)
theorem r_delItem {x dx C f : Addr} {es : List DictEntry} {k : Nat} {i : Value} {K : Unit → Bd → Lg → Prop} (O : Okay F n A env g L) (hx : (x, instObj C dx) ∈ N) (hd : (dx, dictOf es k) ∈ N) (hq : noSeq F C = true) (hs : findIn F (.ref C) "__delitem__" = some (some (.ref f))) (hf : isFn F (.ref f) = true)
    (h : Run prog w A g L (call (.ref f) [.ref x, i]) (fun _ => K ()) b N) : Run prog w A g L (delItem (.ref x) i) K b N := .mk fun s St => by
  have X := O.X.keeps St.keep
  have I := inst_at St.st hx hd
  unfold delItem sequenceKey
  refine wpAny_holding (wpAny_bind (wpAny_bind (I.type.here ?_)))
  refine wpAny_bind ((anyM_none X hq).here ?_)
  rw [if_pos (show (!false) = true from rfl)]
  exact wpAny_pure (wpAny_bind (special_fn X I hs (beq_iff_eq.mp hf) (wpAny_mono (h.out s St) (fun _ _ z => wpAny_pure z) fun _ _ z => z)))
theorem r_setItemI {x dx C f : Addr} {es : List DictEntry} {k : Nat} {i v : Value} {K : Unit → Bd → Lg → Prop} (O : Okay F n A env g L) (hx : (x, instObj C dx) ∈ N) (hd : (dx, dictOf es k) ∈ N) (hq : noSeq F C = true) (hs : findIn F (.ref C) "__setitem__" = some (some (.ref f))) (hf : isFn F (.ref f) = true)
    (h : Run prog w A g L (call (.ref f) [.ref x, i, v]) (fun _ => K ()) b N) : Run prog w A g L (setItem (.ref x) i v) K b N := .mk fun s St => by
  obtain ⟨m, Fm, _⟩ := id St.st.fr
  exact ksp_setItem (Q := Post g L s K) Fm O.X (inst_at St.st hx hd) hq hs hf (h.out s St)
theorem r_delSub {o i : Expr} {p pos : Pos} {K : Flow → Bd → Lg → Prop} (h : Run prog w A g L (eval o env) (fun ov => Run prog w A g L (eval i env) (fun iv => Run prog w A g L (delItem ov iv) (fun _ => K .next))) b N) :
    Run prog w A g L (exec (.Delete [.Subscript o i p] pos) env) K b N := .mk fun s St => by
  refine wpAny_Delete ?_
  show wpAny _ A (delete (.Subscript o i p) env >>= fun _ => pure ()) _ _ s
  refine wpAny_bind ?_
  show wpAny _ A (do
    let ov ← eval o env
    let iv ← holding [ov] (eval i env)
    standAt p
    holding [ov, iv] (delItem ov iv)
    release [ov, iv] []) _ _ s
  refine wpAny_bind (h.use St fun _ _ _ _ _ S1 r1 => wpAny_bind (wpAny_holding (r1.use S1 fun _ _ _ _ _ S2 r2 => wpAny_bind (wpAny_standAt (wpAny_bind (wpAny_holding (r2.use S2 fun _ h' tk b' N' S' k => ?_)))))))
  exact wpAny_release (wpAny_pure (done' _ h' tk b' N' S' k))
theorem r_typeStr {x : Str} {t : Tok} (k : K (.type "str") b N) : Run prog w A g L (call (.type "type") [.str x t]) K b N :=
  .still (fun _ => .type "str") (fun _ => k) fun s _ _ h => by
    have h := h s.toks s.toks
    obtain ⟨h0, g0, d0, t0, os0⟩ := s
    refine wpAny_call (codeAny_of_tree ?_)
    show wpAny _ _ (callAny (.type "type") ⟨[.str x t], []⟩) _ _ _
    simp only [callAny]
    refine wpAny_pure ⟨Code.quiet_builtin _ (by decide +kernel), codeAny_builtin entry_type_call ?_⟩
    unfold Builtin.«type.__call__»
    dsimp only
    unfold shownTypeOf
    repeat (first | wp_step)
    exact h
theorem r_typeLst {l : Addr} {vs : List Value} {c : Nat} (hm : (l, lstO vs c) ∈ N) (k : K (.type "list") b N) : Run prog w A g L (call (.type "type") [.ref l]) K b N :=
  .still (fun _ => .type "list") (fun _ => k) fun s _ St h => by
    have hm' := St.get hm
    have h := h s.toks s.toks
    obtain ⟨h0, g0, d0, t0, os0⟩ := s
    exact call_type_obj hm' rfl h
theorem r_isT {X : String} (k : K (.bool true) b N) : Run prog w A g L (compareOp .Is (.type X) (.type X)) K b N :=
  .still (fun _ => .bool true) (fun _ => k) fun s _ _ h => by
    have e : (Value.type X == Value.type X) = true := by simp
    exact wpAny_pure (a := Value.bool (Value.type X == Value.type X)) (by rw [e]; exact h s.toks s.toks)
theorem r_isnT {X : String} (k : K (.bool false) b N) : Run prog w A g L (compareOp .IsNot (.type X) (.type X)) K b N :=
  .still (fun _ => .bool false) (fun _ => k) fun s _ _ h => isnot_type_same (h s.toks s.toks)
theorem r_isnNone {v : Value} (hv : v ≠ .none) (k : K (.bool true) b N) : Run prog w A g L (compareOp .IsNot v .none) K b N :=
  .still (fun _ => .bool true) (fun _ => k) fun s _ _ h => isnot_none_ne hv (h s.toks s.toks)
theorem r_tnone {K : Bool → Bd → Lg → Prop} (k : K false b N) : Run prog w A g L (truthy .none) K b N :=
  .still (fun _ => false) (fun _ => k) fun s _ _ h => truthy_none (h s.toks s.toks)
theorem r_goList {elts : List Expr} {x1 : Nat} {pos : Pos} {it l : Addr} {i : Nat} {o : Obj} {T : Addr} {K : Unit → Bd → Lg → Prop} (hl : LI l i o) (hm : (it, o) ∈ N) (k : K () b N) : Run prog w A g L (letOwnedTupleGo (.Tuple elts x1 pos) (.ref it) (.ref T)) K b N :=
  .still (fun _ => ()) (fun _ => k) fun s _ St h => wpAny_letOwnedTupleGo_listiter (l := l) (i := i) ⟨_, St.get hm, hl.1, hl.2⟩ (h s.toks s.toks)
theorem s_eq {x y : Str} {t u : Tok} (k : K (.bool (x == y)) b N) : Run prog w A g L (compareOp .Eq (.str x t) (.str y u)) K b N := .still (fun _ => .bool (x == y)) (fun _ => k) fun s _ _ h => eq_str (h s.toks s.toks)
theorem s_ne {x y : Str} {t u : Tok} (k : K (.bool (x != y)) b N) : Run prog w A g L (compareOp .NotEq (.str x t) (.str y u)) K b N := .still (fun _ => .bool (x != y)) (fun _ => k) fun s _ _ h => ne_str (h s.toks s.toks)
theorem Up.upd {a : Addr} {o o' : Obj} (u : Up a o o' N N') (d : (N.map (·.1)).Nodup) : Upd a o o' N N' := by
  induction u with
  | head =>
    simp only [List.map_cons, List.nodup_cons] at d
    exact Upd.head fun p hp e => d.1 (e ▸ List.mem_map_of_mem hp)
  | tail u ih =>
    simp only [List.map_cons, List.nodup_cons] at d
    refine Upd.tail (fun e => d.1 ?_) (ih d.2)
    have := List.mem_map_of_mem (f := (·.1)) u.mem
    rw [e]; exact this
/-- a name of its own is given to a thing that has none -/
theorem r_setOwn {o value : Expr} {name : Str} {p pos : Pos} {x dx C : Addr} {v : Value} {K : Flow → Bd → Lg → Prop} (O : Okay F n A env g L) (hsw : swapsWith value (some (.Attribute o name p)) pos.line env = pure false)
    (hs : findIn F (.ref C) "__setattr__" = some (some (.builtin "object.__setattr__"))) (hp : plainOver F C = true) (ht : takerIn F C name = some none) (hh : hasDictIn F C = true)
    (h : Run prog w A g L (eval value env) (fun v' => Run prog w A g L (eval o env) (fun ov b' N1 => v' = v ∧ ov = .ref x ∧ (x, instObj C dx) ∈ N1 ∧ ∀ hs tk, ∃ N2, Up dx (dictOf [] 0) (dictOf [⟨hs, .str name tk, v⟩] 1) N1 N2 ∧ K .next b' N2)) b N)
    (he : ∀ hs tk, putL name hs (.str name tk) v [] = [⟨hs, .str name tk, v⟩] ∧ putN name [] 0 = 1) (hg : (getL name []).isSome = true) :
    Run prog w A g L (exec (.Assign [.Attribute o name p] value pos) env) K b N := .mk fun s St => by
  refine plainObj_wpAny_Assign_Attribute (h.use St fun v' _ _ _ _ S1 r1 => r1.use S1 fun ov h2 t2 b2 N2 S2 k => ?_) hsw
  obtain ⟨rfl, rfl, hx, k⟩ := k
  obtain ⟨N3, u, k⟩ := k (PyData.keyHash w.params name) (t2 + 1)
  have X := O.X.keeps S2.keep
  have I : PySem.W.InstAt h2 x (instObj C dx) C (some (dictOf [] 0)) := inst_at S2.st hx u.mem
  obtain ⟨m, Fm, hb⟩ := id S2.st.fr
  obtain ⟨pre, post, e1, e2, a1, a2⟩ := (u.upd S2.st.nd).split
  have N0 := S2.st.news
  rw [e1] at N0
  refine set_plain (s := { s with heap := h2, toks := t2 }) X I hs ?_
  refine osa_dict (s := { s with heap := h2, toks := t2 + 1 }) (dx := dx) (od' := dictOf [⟨PyData.keyHash w.params name, .str name (t2 + 1), v'⟩] 1) Fm N0 X I rfl hp ht hh (by rw [lookIn_dict]; exact hg) a1 a2 (by rw [putName_dict, (he _ _).1, (he 0 0).2]) rfl (by simp) fun h' F' N' => ?_
  refine ⟨h', _, _, _, rfl, ⟨⟨m, F', hb⟩, ?_, by rw [u.adr]; exact S2.st.nd, S2.st.bn⟩, k⟩
  rw [e2]; exact N'
end
end Mine

end
section
open PySem PySem.W PyProof.Rows PySem.Calls
set_option maxHeartbeats 4000000
namespace Mine
section
variable {prog : Program} {w : World} {F : Frag} {n : Nat} {A : Around} {g : Heap} {L : Addr} {b : Bd} {N N' : Lg} {env : Env} {s : Shared} {K : Value → Bd → Lg → Prop}
structure RunK (prog : Program) (w : World) (A : Around) (g : Heap) (L : Addr) (c : Code) (K : Value → Bd → Lg → Prop) (b : Bd) (N : Lg) : Prop where
  out : ∀ s : Shared, Stp g L s b N → codeAny (model prog w) A c (fun r s' => match r with | .ok (.ret v) => ∃ h' tk b' N', s' = { s with heap := h', toks := tk } ∧ Sta g L h' b' N' ∧ K v b' N' | _ => False) s
theorem Okay.under {C : Addr} {args : List Value} {kw : List (Str × Value)} (O : Okay F (n + 1) A env g L) : Okay F n (A.under (.builtin "type.__call__" ⟨.ref C :: args, kw⟩)) env g L := by
  obtain ⟨X, T, ⟨A₀, base, outer, B, hA⟩, hf, hl, hk, hg, hb, hh, hd, hu⟩ := O
  exact ⟨X, T, ⟨A₀, base, outer, B, hA⟩, hf, hl, hk, hg, hb, hh, by show A.depth + 1 + n < _; omega, by show A.units + 1 + 8 * n < _; omega⟩
theorem k_enter {name qual : Str} {params : Arguments} {body : List Stmt} {scope : Scope} {dV kV doc pm cdv ct oc : Value} {an od : Option Addr} {osl : Array (Option Value)} {f : Addr} {pos : List Value} {kw : List (Str × Value)} (binds : List (Str × Value))
    (O : Okay F (n + 1) A env g L)
    (ho : F.lookup f = some ⟨oc, od, .func (fnOf name qual params body scope dV kV doc pm an cdv ct), osl⟩) (hcd : codeIn F cdv qual = true)
    (hbind : ∀ s : Shared, F.In s.heap → BindsTo s (fnOf name qual params body scope dV kV doc pm an cdv ct) ⟨pos, kw⟩ binds) (hloc : ∀ y ∈ binds, scope.names.lookup y.1 = some .local)
    (hco : scope.isCoroutine = false) (hgen : scope.isGenerator = false) (hk : scope.kind = .function) (hcell : ∀ x ∈ scope.names, x.2 ≠ .cell) (hn : dist (binds.map (·.1)) = true)
    (h : ∀ g' L' A' env', env' = envOf qual scope L' f cdv → Okay F n A' env' g' L' → Run prog w A' g' L' (execs body env') (fun fl _ N' => K (retOf fl) b N') binds N) :
    RunK prog w A g L (.call (.ref f) ⟨pos, kw⟩) K b N := .mk fun s St => by
  obtain ⟨p, loose, mean, mg, mb, T⟩ := O.T
  obtain ⟨A₀, base, outer, B, hA⟩ := O.B
  obtain ⟨m, Fm, hb⟩ := id St.st.fr
  refine code_def B Fm O.X St.st.news T hA O.hf O.hk ho hcd (by have := O.hd; omega) (hbind s (O.X.keeps Fm.keep)) hloc ?_ hco hgen hk hcell
  intro g' L' h₁ FG F' N' B' X' T'
  have O' : Okay F n (A.deeper (envOf qual scope L' f cdv)) (envOf qual scope L' f cdv) g' L' :=
    ⟨X', ⟨p, loose, mean, mg, mb, T'⟩, ⟨A, base, env :: outer, B', by show A.frames.map _ = _; rw [hA]; rfl⟩, rfl, rfl, hk, rfl, rfl, O.hh, by show A.depth + 1 + n < recursionLimit; have := O.hd; omega, by show A.units + 3 + 8 * n < cLine; have := O.hu; omega⟩
  refine Run.use (h g' L' _ _ rfl O') (s := { s with heap := h₁, toks := s.toks + binds.length }) ⟨⟨⟨_, F', has_binds (dist_nodup hn)⟩, N', St.st.nd, dist_nodup hn⟩, Nat.lt_of_lt_of_le St.pos (Nat.le_add_right _ _)⟩ fun fl h' tk b' N'' S' k => ?_
  obtain ⟨m', F'', _⟩ := S'.st.fr
  refine leaveK_ (s' := { s with heap := h', toks := tk }) F'' S'.st.news fun F3 N3 => ?_
  exact ⟨h', tk, b, N'', rfl, ⟨⟨m, F3, hb⟩, N3, S'.st.nd, St.st.bn⟩, by cases fl <;> exact k⟩
theorem r_make {C fI : Addr} {pos : List Value} (O : Okay F (n + 1) A env g L) (hm : makesIn F C = true) (hi : findIn F (.ref C) "__init__" = some (some (.ref fI))) (hf : isFn F (.ref fI) = true)
    (h : ∀ x dx A', Okay F n A' env g L → RunK prog w A' g L (.call (.ref fI) ⟨.ref x :: pos, []⟩) (fun v b' N' => v = .none ∧ K (.ref x) b' N') b ((x, instObj C dx) :: (dx, dictOf [] 0) :: N)) :
    Run prog w A g L (call (.ref C) pos []) K b N := .mk fun s St => by
  obtain ⟨m, Fm, hb⟩ := id St.st.fr
  refine call_cls Fm O.X St.st.news hm hi hf fun x dx h' F' N' hlt hxd => ?_
  have S' : Sta g L h' b ((x, instObj C dx) :: (dx, dictOf [] 0) :: N) := by
    refine ⟨⟨m, F', hb⟩, N', ?_, St.st.bn⟩
    simp only [List.map_cons, List.nodup_cons, List.mem_cons, not_or]
    refine ⟨⟨Nat.ne_of_gt hxd, fun hm => ?_⟩, fun hm => ?_, St.st.nd⟩
    · obtain ⟨p, hp, e⟩ := List.mem_map.mp hm
      have := hlt p hp; have : p.1 < x := Nat.lt_trans this hxd; exact absurd e (Nat.ne_of_lt this)
    · obtain ⟨p, hp, e⟩ := List.mem_map.mp hm
      exact absurd e (Nat.ne_of_lt (hlt p hp))
  refine codeAny_mono ((h x dx _ O.under).out { s with heap := h' } ⟨S', St.pos⟩) fun r s' k => ?_
  rcases r with e | (v | _ | _ | _)
  · exact k.elim
  all_goals first | exact k.elim | skip
  obtain ⟨h2, tk, b2, N2, rfl, S2, e1, k⟩ := k
  exact ⟨e1, h2, tk, b2, N2, rfl, S2, k⟩
/-- the whole of a list is given anew -/
theorem r_sliceAll {H sl D : Addr} {vs ws : List Value} {c d : Nat} {K : Unit → Bd → Lg → Prop} (hsl : (sl, slcO .none .none .none) ∈ N) (hD : (D, lstO ws d) ∈ N) (hlen : vs.length ≠ ws.length) (hz : vs.length + ws.length ≤ 1000)
    (h : ∀ c', ∃ N', Up H (lstO vs c) (lstO ws c') N N' ∧ K () b N') : Run prog w A g L (setItem (.ref H) (.ref sl) (.ref D)) K b N := .mk fun s St => by
  have hm : ∃ N', Up H (lstO vs c) (lstO ws 0) N N' ∧ K () b N' := h 0
  have hH : (H, lstO vs c) ∈ N := by obtain ⟨N', u, _⟩ := hm; exact u.mem
  have ho := St.get hH
  have hne : H ≠ D := fun e => by
    have h2 := St.get hD
    rw [← e, ho] at h2
    have h3 : vs.toArray = ws.toArray := by
      have h4 : lstO vs c = lstO ws d := Option.some.inj h2
      unfold lstO at h4
      injection h4 with _ _ h5
      injection h5
    exact hlen (by rw [← List.size_toArray, h3, List.size_toArray])
  have hl : s.heap.IsList H vs.toArray := ⟨_, ho, rfl, c, rfl⟩
  have hos := St.get hsl
  have hTs : s.TypeIs (.ref sl) "slice" := ⟨_, hos, rfl⟩
  have hTD : s.TypeIs (.ref D) "list" := ⟨_, St.get hD, rfl⟩
  unfold setItem
  refine wpAny_holding ?_
  refine wpAny_bind (wpAny_sequenceKey hl.typeIs (by decide) ?_)
  refine wpAny_bind (wpAny_callSpecial?_slot (name := Str.ofString "__setitem__") hl.typeIs slot_list_setitem
    (wpAny_call_entry slot_list_setitem hl.typeIs entry_list_setitem ?_ (args_list_setitem _ _ _)))
  show wpAny _ _ (Builtin.List.listSubscript? (.ref sl) >>= _) _ _ s
  refine wpAny_bind ?_
  unfold Builtin.List.listSubscript?
  refine wpAny_bind (wpAny_specialOf hTs slice_no_index ?_)
  simp only [Option.isNone_none, if_true]
  refine wpAny_pure ?_
  show wpAny _ _ (typeOf (.ref sl) >>= _) _ _ s
  refine wpAny_bind (wpAny_typeOf hTs ?_)
  rw [if_neg (by decide)]
  rw [listSliceParts_eq]
  refine wpAny_bind (wpAny_bind (wpAny_field hos rfl (x := .none) rfl (wpAny_bind (wpAny_listPart (k := none) .none ?_))))
  rw [if_neg (by exact Bool.false_ne_true)]
  refine wpAny_bind (wpAny_field hos rfl (x := .none) rfl (wpAny_bind (wpAny_listPart (k := none) .none ?_)))
  refine wpAny_bind (wpAny_field hos rfl (x := .none) rfl (wpAny_bind (wpAny_listPart (k := none) .none (wpAny_pure ?_))))
  dsimp only
  have hsame : Builtin.List.listSameRef (.ref H) (.ref D) = false := by show (H == D) = false; simpa using hne
  rw [hsame]
  simp only [Bool.false_eq_true, if_false]
  unfold Builtin.List.listAllItems
  refine wpAny_bind (wpAny_bind (wpAny_typeOf hTD ?_))
  rw [if_pos (by decide)]
  have hiD : ∀ Q : Array Value → Shared → Prop, Q ws.toArray s → wpAny (model prog w) A.in1 (Builtin.List.listItems (.ref D)) Q (fun _ _ => False) s := fun Q q => by
    unfold Builtin.List.listItems; exact wpAny_bind (wpAny_seqItems (St.get hD) rfl (wpAny_pure q))
  have hiH : ∀ Q : Array Value → Shared → Prop, Q vs.toArray s → wpAny (model prog w) A.in1 (Builtin.List.listItems (.ref H)) Q (fun _ _ => False) s := fun Q q => by
    unfold Builtin.List.listItems; exact wpAny_bind (wpAny_seqItems ho rfl (wpAny_pure q))
  refine hiD _ (wpAny_bind (hiH _ (wpAny_bind (wpAny_of_eq (sliceIndices_raw none none none _ (by simp)) ?_))))
  have hb3 : sliceBounds none none none vs.toArray.size = (0, (vs.length : Int), 1) := by
    simp [sliceBounds]
  rw [hb3]
  dsimp only
  rw [if_pos (by decide)]
  refine wpAny_bind (wpAny_rule ?_)
  have hsl1 : sizeLine = 16777216 := by decide
  rw [if_neg (by unfold Builtin.List.listTooLong; simp; omega)]
  have ef : vs.toArray.extract 0 ((0 : Int).toNat) ++ ws.toArray ++ vs.toArray.extract (max (0 : Int) (vs.length : Int)).toNat = ws.toArray := by
    have : (max (0 : Int) (vs.length : Int)).toNat = vs.length := by omega
    rw [this]
    simp
  refine wpAny_bind (m := updateSeq H _) (wpAny_updateSeq ho rfl (wpAny_bind (wpAny_letGo (wpAny_pure ⟨_, rfl, wpAny_pure ?_⟩))) (by simp; omega) (by rw [ef]; simp; omega))
  obtain ⟨c', ec⟩ : ∃ c', Obj.mapSeq (fun xs : Array Value => xs.extract 0 ((0 : Int).toNat) ++ ws.toArray ++ xs.extract (max (0 : Int) (vs.length : Int)).toNat) (lstO vs c) = { cls := .type "list", data := .seq (vs.toArray.extract 0 ((0 : Int).toNat) ++ ws.toArray ++ vs.toArray.extract (max (0 : Int) (vs.length : Int)).toNat) c' } := ⟨_, rfl⟩
  rw [ef] at ec
  obtain ⟨N', u, k⟩ := h c'
  exact ⟨_, s.toks, _, _, rfl, St.st.update u ec rfl, k⟩
end
end Mine

end
section
open PySem PySem.W PyProof.Rows PySem.Calls
set_option maxHeartbeats 4000000
namespace Mine
section
variable {prog : Program} {w : World} {F : Frag} {n : Nat} {A : Around} {g : Heap} {L : Addr} {b : Bd} {N N' : Lg} {env : Env} {s : Shared} {K : Value → Bd → Lg → Prop}
theorem r_storeC {x : Str} {v : Value} {v0 : Option Value} {c : Addr} {o : Obj} {K : Unit → Bd → Lg → Prop} (hk : env.scope.kind = .function) (hl : env.kindOf x = some .cell) (hc : env.cells.lookup x = some c) (ho : o.data = .cell v0)
    (hm : (c, o) ∈ N) (k : ∀ o', o'.data = .cell (some v) → ∃ N', Up c o o' N N' ∧ K () b N') : Run prog w A g L (storeName env x v) K b N := .mk fun s St => by
  refine wpAny_storeName_cell hk hl hc ⟨o, St.get hm, ho⟩ fun h' ⟨o', ho', hd'⟩ hs => ?_
  obtain ⟨N', u, k⟩ := k o' hd'
  exact ⟨h', s.toks, _, _, rfl, St.st.sameBut u hs ho', k⟩
/-- a def with one cell is entered -/
theorem r_enterC1 {name qual : Str} {params : Arguments} {body : List Stmt} {scope : Scope} {dV kV doc pm cdv ct oc : Value} {an od : Option Addr} {osl : Array (Option Value)} {f : Addr} {pos : List Value} {kw : List (Str × Value)} (binds : List (Str × Value)) (bl : Bd) (cn : Str)
    (O : Okay F (n + 1) A env g L)
    (ho : F.lookup f = some ⟨oc, od, .func (fnOf name qual params body scope dV kV doc pm an cdv ct), osl⟩) (hcd : codeIn F cdv qual = true)
    (hbind : ∀ s : Shared, F.In s.heap → BindsTo s (fnOf name qual params body scope dV kV doc pm an cdv ct) ⟨pos, kw⟩ binds)
    (hkind : (binds.all fun y => scope.names.lookup y.1 == some .local || scope.names.lookup y.1 == some .cell) = true) (hcs : ∀ n, cellsFrom n scope.names [] = [(cn, n)])
    (hco : scope.isCoroutine = false) (hgen : scope.isGenerator = false) (hk : scope.kind = .function) (hn : dist (bl.map (·.1)) = true)
    (hbl : ∀ L', Has bl (bindL (envOfC qual scope L' f cdv).kindOf binds fun _ => none))
    (h : ∀ g' L' A' env' o, env' = envOfC qual scope L' f cdv → o.data = .cell (bindC (envOfC qual scope L' f cdv).kindOf binds (fun _ => none) cn) → Okay F n A' env' g' L' → Run prog w A' g' L' (execs body env') (fun fl _ N' => ∃ N0, K (retOf fl) b N0 ∧ List.Sublist N0 N') bl ((L' + 1, o) :: N)) :
    Run prog w A g L (call (.ref f) pos kw) K b N := .mk fun s St => by
  obtain ⟨p, loose, mean, mg, mb, T⟩ := O.T
  obtain ⟨A₀, base, outer, B, hA⟩ := O.B
  obtain ⟨m, Fm, hb⟩ := id St.st.fr
  refine wpAny_call ?_
  obtain ⟨FG, BG, st, lv⟩ := groundX (R := fun r s' => match r with | .ok (.ret v) => Post g L s K v s' | .ok _ => False | .error _ => False) B Fm St.st.news hA O.hf O.hk
  have X := O.X.keeps Fm.keep
  refine codeAny_call_function (by have := O.hd; omega) (X _ _ ho) rfl hco hgen rfl (codeRec_of X hcd) (hbind s X _ _ _ _ ?_)
  refine wpAny_mono (wpAny_toks_of (n := 1) (s := { s with toks := s.toks }) (Q := fun env' s' => env' = envOfC qual scope s.heap.objs.size f cdv ∧ InCallC s (envOfC qual scope s.heap.objs.size f cdv).locals (bindL (envOfC qual scope s.heap.objs.size f cdv).kindOf binds fun _ => none) (envOfC qual scope s.heap.objs.size f cdv).cells (bindC (envOfC qual scope s.heap.objs.size f cdv).kindOf binds fun _ => none) s') St.pos
    (wpAny_newFunctionEnv_cells hk (kindsX hkind _) fun env' he s' x => ?_)) (fun env' s' ⟨hp, he, x⟩ => ?_) fun _ _ e => e.2
  · subst he
    exact ⟨rfl, x⟩
  subst he
  refine ⟨(T.nolimit.keeps Fm.keep).keeps x.toInCall.keep, codeAny_func ?_⟩
  obtain ⟨h₁, tk, rfl, _⟩ := x.done
  have hk₁ := x.toInCall.keep
  have hcl : (envOfC qual scope s.heap.objs.size f cdv).cells = [(cn, s.heap.objs.size + 1)] := hcs _
  obtain ⟨oC, hoC, hdC⟩ := x.cell cn (s.heap.objs.size + 1) (by rw [hcl]; simp [List.lookup])
  have F' : Fr (hideAll s.heap (N.map (·.1))) s.heap.objs.size h₁ (bindL (envOfC qual scope s.heap.objs.size f cdv).kindOf binds fun _ => none) := ⟨x.toInCall.ns, fun b o e => hk₁ b o (of_hideAll _ e), Nat.le_of_eq (hideAll_size _ _)⟩
  have X' := O.X.keeps st
  have T' := T.keeps st
  have O' : Okay F n (A.deeper (envOfC qual scope s.heap.objs.size f cdv)) (envOfC qual scope s.heap.objs.size f cdv) (hideAll s.heap (N.map (·.1))) s.heap.objs.size :=
    ⟨X', ⟨p, loose, mean, mg, mb, T'⟩, ⟨A, base, env :: outer, BG, by show A.frames.map _ = _; rw [hA]; rfl⟩, rfl, rfl, hk, rfl, rfl, O.hh, by show A.depth + 1 + n < recursionLimit; have := O.hd; omega, by show A.units + 3 + 8 * n < cLine; have := O.hu; omega⟩
  have N1 : News (hideAll s.heap (N.map (·.1))) s.heap.objs.size h₁ ((s.heap.objs.size + 1, oC) :: N) := fun q hq => by
    rcases List.mem_cons.mp hq with rfl | hq
    · exact ⟨hoC, Nat.ne_of_gt (Nat.lt_succ_self _), Heap.get?_none_of_le (by rw [hideAll_size]; exact Nat.le_succ _)⟩
    · exact ⟨hk₁ _ _ (St.st.news q hq).1, Nat.ne_of_lt (Heap.lt_size (St.st.news q hq).1), hideAll_none _ (List.mem_map_of_mem hq)⟩
  have nd1 : (((s.heap.objs.size + 1, oC) :: N).map (·.1)).Nodup := by
    simp only [List.map_cons, List.nodup_cons]
    refine ⟨fun hm => ?_, St.st.nd⟩
    obtain ⟨q, hq, e⟩ := List.mem_map.mp hm
    have := Heap.lt_size (St.st.news q hq).1
    rw [e] at this; exact absurd this (Nat.not_lt.mpr (Nat.le_succ _))
  refine Run.use (h _ _ _ _ oC rfl hdC O') (s := { s with heap := h₁, toks := tk }) ⟨⟨⟨_, F', hbl _⟩, N1, nd1, dist_nodup hn⟩, hp⟩ fun fl h' tk' b' N'' S' ⟨N0, k, sl⟩ => ?_
  refine lv _ _ ?_
  obtain ⟨m', F'', _⟩ := S'.st.fr
  refine leaveK_ (s' := { s with heap := h', toks := tk' }) F'' (S'.st.drop sl).news fun F3 N3 => ?_
  exact ⟨h', tk', b, N0, rfl, ⟨⟨m, F3, hb⟩, N3, (S'.st.drop sl).nd, St.st.bn⟩, by cases fl <;> exact k⟩
end
end Mine

end
section
open PySem PySem.W PyProof.Rows PySem.Calls
set_option maxHeartbeats 8000000
namespace Mine
local macro_rules | `(tactic| walk_at "in") => `(tactic| with_reducible repeat' (first | exact List.mem_cons_self | refine List.mem_cons_of_mem _ ?_))
local macro_rules | `(tactic| walk_at "up") => `(tactic| with_reducible repeat' (first | exact UpB.head | apply UpB.tail))
local macro_rules | `(tactic| walk_at "upo") => `(tactic| with_reducible repeat' (first | exact Up.head | apply Up.tail))
local macro_rules | `(tactic| walk_at "nm") => `(tactic| refine r_local rfl rfl (by kernel_rfl!) (by kernel_rfl!) (by walk_at "in") ?_)
local macro_rules | `(tactic| walk_at "st") => `(tactic| refine r_storeN rfl rfl (by kernel_rfl!) (by kernel_rfl!) ?_)
local macro_rules | `(tactic| walk_at "re") => `(tactic| refine r_storeO rfl rfl (by kernel_rfl!) (by walk_at "up") ?_)
local macro_rules | `(tactic| walk_at "as") => `(tactic| refine r_cons (r_assign (by kernel_rfl!) ?_))
local macro_rules | `(tactic| walk_at "sub") => `(tactic| repeat' (first | exact SubB.nil | refine SubB.cons (by walk_at "in") ?_))
local macro_rules | `(tactic| walk_at "sl") => `(tactic| repeat' (first | exact List.Sublist.refl _ | exact List.nil_sublist _ | refine List.Sublist.cons_cons _ ?_ | refine List.Sublist.cons _ ?_))
def Good (x : Str) : Prop := (∀ c ∈ x.cps.toList, good c) ∧ x.length ≤ 1000
theorem good_ab {l : List Bool} (h : l.length ≤ 1000) : Good (ab l) := by
  refine ⟨fun c hc => ?_, by rw [ab_len]; exact h⟩
  rw [ab_list] at hc
  obtain ⟨d, _, rfl⟩ := List.mem_map.mp hc
  cases d
  · exact .inl rfl
  · exact .inr (.inl rfl)
theorem good_nm (u c : Bool) : Good (nm u c) := by
  refine ⟨?_, by cases u <;> cases c <;> decide⟩
  cases u <;> cases c <;> (intro d hd; simp [nm] at hd; subst hd; simp [good])
variable {w : World} {A : Around} {env : Env} {g : Heap} {L : Addr} {b : Bd} {N : Lg} {n : Nat}
theorem convert_run {x : Str} {t : Tok} {c : Bool} {sf : Value} {K : Value → Bd → Lg → Prop} (O : Okay (Mine.hd.heap_39 w.params) (n+1) A env g L) (hx : Good x) (k : K (.str x t) b N) :
    Run PySem.Challenge.rw_pk0110_01.row.prog w A g L (call (.ref 91) [sf, .str x t] [(Str.ofString "name", .bool c)]) K b N := by
  refine r_enter [(Str.ofString "self", sf), (Str.ofString "value", .str x t), (Str.ofString "name", .bool c)] O (by rfl) (by rfl) (fun s _ => BindsTo.of_eq (by rfl)) (locs (by rfl)) (by rfl) (by rfl) (by rfl) (by decide) (by kernel_rfl!) ?_
  rintro g' L' A' env' rfl O'
  refine r_cons (r_if (r_tcmp (by kernel_rfl!) (r_call (by kernel_rfl!) (r_blt O' (by kernel_rfl!) (by kernel_rfl!) (by kernel_rfl!) rfl (by decide) (r_cwT (by kernel_rfl!) (by kernel_rfl!) (r_scons (by kernel_rfl!) ?_))))))
  walk_at "nm"
  refine r_snil (r_typeStr (r_blt O' (by kernel_rfl!) (by kernel_rfl!) (by kernel_rfl!) rfl (by decide) (r_isT (r_tbool ?_))))
  rw [if_pos rfl]
  walk_at "as"
  refine r_ifexp (r_tplain (by kernel_rfl!) ?_)
  walk_at "nm"
  refine r_tbool ?_
  cases c
  · rw [if_neg Bool.false_ne_true]
    refine r_glob O' (by kernel_rfl!) (by kernel_rfl!) (by rfl) ?_
    walk_at "st"
    refine r_cons (r_if (r_tplain (by kernel_rfl!) (r_mcall (by rfl) ?_)))
    walk_at "nm"
    refine r_gmSearch O' (by rfl) rfl rfl (r_cwB (by kernel_rfl!) (by kernel_rfl!) (r_scons (by kernel_rfl!) ?_))
    walk_at "nm"
    refine r_snil (r_search 69 code2 O' (by rfl) (by rfl) (by rfl) (by rfl) (by rfl) (by simp [Builtin.Re.reRawOf, code2]) out2 rfl rfl (by have := hx.2; omega) hx.1 (r_tnone ?_))
    rw [if_neg Bool.false_ne_true]
    refine r_nil ?_
    dsimp only
    refine r_cons (r_ret ?_)
    walk_at "nm"
    exact k
  · rw [if_pos rfl]
    refine r_glob O' (by kernel_rfl!) (by kernel_rfl!) (by rfl) ?_
    walk_at "st"
    refine r_cons (r_if (r_tplain (by kernel_rfl!) (r_mcall (by rfl) ?_)))
    walk_at "nm"
    refine r_gmSearch O' (by rfl) rfl rfl (r_cwB (by kernel_rfl!) (by kernel_rfl!) (r_scons (by kernel_rfl!) ?_))
    walk_at "nm"
    refine r_snil (r_search 64 code1 O' (by rfl) (by rfl) (by rfl) (by rfl) (by rfl) (by simp [Builtin.Re.reRawOf, code1]) out1 rfl rfl (by have := hx.2; omega) hx.1 (r_tnone ?_))
    rw [if_neg Bool.false_ne_true]
    refine r_nil ?_
    dsimp only
    refine r_cons (r_ret ?_)
    walk_at "nm"
    exact k
end Mine

end
section
open PySem PySem.W PyProof.Rows PySem.Calls
set_option maxHeartbeats 8000000
namespace Mine
local macro_rules | `(tactic| walk_at "in") => `(tactic| with_reducible repeat' (first | exact List.mem_cons_self | refine List.mem_cons_of_mem _ ?_))
local macro_rules | `(tactic| walk_at "up") => `(tactic| with_reducible repeat' (first | exact UpB.head | apply UpB.tail))
local macro_rules | `(tactic| walk_at "upo") => `(tactic| with_reducible repeat' (first | exact Up.head | apply Up.tail))
local macro_rules | `(tactic| walk_at "nm") => `(tactic| refine r_local rfl rfl (by kernel_rfl!) (by kernel_rfl!) (by walk_at "in") ?_)
local macro_rules | `(tactic| walk_at "st") => `(tactic| refine r_storeN rfl rfl (by kernel_rfl!) (by kernel_rfl!) ?_)
local macro_rules | `(tactic| walk_at "re") => `(tactic| refine r_storeO rfl rfl (by kernel_rfl!) (by walk_at "up") ?_)
local macro_rules | `(tactic| walk_at "as") => `(tactic| refine r_cons (r_assign (by kernel_rfl!) ?_))
local macro_rules | `(tactic| walk_at "sub") => `(tactic| repeat' (first | exact SubB.nil | refine SubB.cons (by walk_at "in") ?_))
local macro_rules | `(tactic| walk_at "sl") => `(tactic| repeat' (first | exact List.Sublist.refl _ | exact List.nil_sublist _ | refine List.Sublist.cons_cons _ ?_ | refine List.Sublist.cons _ ?_))
def hdD (hs : Int) (tk : Tok) (H : Addr) : Obj := dictOf [⟨hs, .str (Str.ofString "_headers") tk, .ref H⟩] 1
def ent (x y : Str) (t u : Tok) : Obj := tupO [.str x t, .str y u]
theorem nm_eq (c d : Bool) : (ab [c] == ab [d]) = (c == d) := by cases c <;> cases d <;> decide
variable {w : World} {A : Around} {env : Env} {g : Heap} {L : Addr} {b : Bd} {N : Lg} {n : Nat}
theorem get_run {x dx H p1 p2 : Addr} {hs : Int} {tk t t1 t2 t3 t4 : Tok} {u c u1 c1 u2 : Bool} {y1 y2 : Str} {cap : Nat} {K : Value → Bd → Lg → Prop} (O : Okay (Mine.hd.heap_39 w.params) (n+2) A env g L)
    (hx : (x, instObj 192 dx) ∈ N) (hd : (dx, hdD hs tk H) ∈ N) (hH : (H, lstO [.ref p1, .ref p2] cap) ∈ N) (h1 : (p1, ent (nm u1 c1) y1 t1 t2) ∈ N) (h2 : (p2, ent (nm u2 (!c1)) y2 t3 t4) ∈ N)
    (k : ∀ v, K (.str (if c = c1 then y1 else y2) v) b N) :
    Run PySem.Challenge.rw_pk0110_01.row.prog w A g L (call (.ref 139) [.ref x, .str (nm u c) t]) K b N := by
  refine Run.drop (r_enter [(Str.ofString "self", .ref x), (Str.ofString "name", .str (nm u c) t), (Str.ofString "default", .none)] O (by rfl) (by rfl) (fun s X => binds_K X rfl (by rfl) (by rfl) (by rfl) (by rfl)) (locs (by rfl)) (by rfl) (by rfl) (by rfl) (by decide) (by kernel_rfl!) ?_)
  rintro g' L' A' env' rfl O'
  walk_at "as"
  refine r_mcallK (by rfl) ?_
  walk_at "nm"
  refine r_gmInst O' hx hd (by kernel_rfl!) (by rfl) (by kernel_rfl!) (by rfl) (r_cwKw O' (by kernel_rfl!) (by kernel_rfl!) (by kernel_rfl!) (r_scons (by kernel_rfl!) (r_mcall (by rfl) ?_)))
  walk_at "nm"
  refine t_gmLower (r_cwB0 (t_lower (good_nm u c).2 (nm_low u c) fun tl => r_snil (r_cbool (convert_run O' (good_ab (by simp)) ?_))))
  walk_at "re"
  refine r_cons (r_for (by intro _; rfl) (r_attr (by rfl) ?_))
  walk_at "nm"
  refine r_own O' hx hd (by kernel_rfl!) (by kernel_rfl!) (by rfl) (by kernel_rfl!) (by rfl) (by rfl) (r_listIter hH fun it o hl => ?_)
  refine ⟨fun m b' N' => ∃ i o', LI H i o' ∧ m + i = 2 ∧ (i = 0 ∨ (i = 1 ∧ c ≠ c1)) ∧ b' = [(Str.ofString "self", .ref x), (Str.ofString "name", .str (ab [c]) tl), (Str.ofString "default", .none)] ∧ N' = (it, o') :: N, 2, ⟨_, _, ⟨0, o, hl, rfl, .inl rfl, rfl, rfl⟩, by walk_at "sub", by kernel_rfl!, .refl _⟩, ?_⟩
  rintro m b' N' ⟨i, o', hl', hmi, hi, rfl, rfl⟩
  rcases hi with rfl | ⟨rfl, hc⟩
  · refine r_listNext hl' hH rfl fun o2 hl2 => ?_
    dsimp only
    refine r_goList hl2 List.mem_cons_self (r_asTuple O'.hh (List.mem_cons_of_mem _ h1) (by rfl) (by rfl) (r_aioCons (r_asName ?_)))
    walk_at "st"
    refine r_aioCons (r_asName ?_)
    walk_at "st"
    refine r_aioNil (r_cons (r_if (r_tcmp (by kernel_rfl!) (r_mcall (by rfl) ?_))))
    walk_at "nm"
    refine t_gmLower (r_cwB0 (t_lower (good_nm u1 c1).2 (nm_low u1 c1) fun _ => ?_))
    walk_at "nm"
    refine s_eq (r_tbool ?_)
    rw [nm_eq]
    by_cases hc : c1 = c
    · subst hc
      rw [if_pos (by simp)]
      refine r_cons (r_ret ?_)
      walk_at "nm"
      have := k t2
      rw [if_pos rfl] at this
      exact ⟨N, this, .cons _ (.refl _)⟩
    · rw [if_neg (by simpa using hc)]
      refine r_nil (r_nil ?_)
      exact ⟨_, _, ⟨1, by omega, 1, o2, hl2, rfl, .inr ⟨rfl, fun e => hc e.symm⟩, rfl, rfl⟩, by walk_at "sub", by kernel_rfl!, .refl _⟩
  · refine r_listNext hl' hH rfl fun o2 hl2 => ?_
    dsimp only
    refine r_goList hl2 List.mem_cons_self (r_asTuple O'.hh (List.mem_cons_of_mem _ h2) (by rfl) (by rfl) (r_aioCons (r_asName ?_)))
    walk_at "st"
    refine r_aioCons (r_asName ?_)
    walk_at "st"
    refine r_aioNil (r_cons (r_if (r_tcmp (by kernel_rfl!) (r_mcall (by rfl) ?_))))
    walk_at "nm"
    refine t_gmLower (r_cwB0 (t_lower (good_nm u2 (!c1)).2 (nm_low u2 (!c1)) fun _ => ?_))
    walk_at "nm"
    refine s_eq (r_tbool ?_)
    have e1 : (!c1) = c := by cases c <;> cases c1 <;> simp_all
    rw [nm_eq, e1, if_pos (by simp)]
    refine r_cons (r_ret ?_)
    walk_at "nm"
    have := k t4
    rw [if_neg hc] at this
    exact ⟨N, this, .cons _ (.refl _)⟩
theorem r_lstSl' {prog : Program} {value slice : Expr} {c a : Addr} {vs ws : List Value} {vl vu : Value} {lo hi : Option Int} {cap : Nat} {ops : List Value} {K : Value → Bd → Lg → Prop} (hc : (c, lstO vs cap) ∈ N) (hm : (a, slcO vl vu .none) ∈ N) (pl : IsPart vl lo) (pu : IsPart vu hi) (e : slicePick vs.toArray lo hi none = ws.toArray) (hz : vs.length ≤ sizeLine)
    (hs : subscripted slice false (.ref c) (.ref a) = operate ops (getItem (.ref c) (.ref a))) (k : ∀ d, K (.ref d) b ((d, lstO ws 0) :: N)) : Run prog w A g L (subscriptTail value slice (.ref c) (.ref a)) K b N :=
  .mk fun s St => by
    have hl : s.heap.IsList c vs.toArray := ⟨_, St.get hc, rfl, cap, rfl⟩
    exact tail_any hl.typeIs slot_list_getitem.lookup (wpAny_getItem_list_slice hl ⟨_, St.get hm, rfl, rfl⟩ pl pu .none (by simp) ⟨_, s.toks, _, _, rfl, St.st.push _, by rw [e]; exact k _⟩ (by simpa using hz)) hs
theorem items_run {x dx H : Addr} {hs : Int} {tk : Tok} {vs : List Value} {cap : Nat} {K : Value → Bd → Lg → Prop} (O : Okay (Mine.hd.heap_39 w.params) (n+1) A env g L)
    (hx : (x, instObj 192 dx) ∈ N) (hd : (dx, hdD hs tk H) ∈ N) (hH : (H, lstO vs cap) ∈ N) (hz : vs.length ≤ 1000) (k : ∀ d, K (.ref d) b ((d, lstO vs 0) :: N)) :
    Run PySem.Challenge.rw_pk0110_01.row.prog w A g L (call (.ref 156) [.ref x]) K b N := by
  refine Run.drop (r_enter [(Str.ofString "self", .ref x)] O (by rfl) (by rfl) (fun s X => BindsTo.of_eq (by rfl)) (locs (by rfl)) (by rfl) (by rfl) (by rfl) (by decide) (by kernel_rfl!) ?_)
  rintro g' L' A' env' rfl O'
  refine r_cons (r_ret (r_sub (r_attr (by rfl) ?_)))
  walk_at "nm"
  refine r_own O' hx hd (by kernel_rfl!) (by kernel_rfl!) (by rfl) (by kernel_rfl!) (by rfl) (by rfl) (r_slice (r_pnone (r_pnone (r_pnone fun a => ?_))))
  refine r_lstSl' (List.mem_cons_of_mem _ hH) List.mem_cons_self .none .none (slicePick_all _) (sz (by omega)) rfl fun d => ?_
  exact ⟨_, k d, .cons_cons _ (.cons _ (.refl _))⟩
end Mine

end
section
open PySem PySem.W PyProof.Rows PySem.Calls
set_option maxHeartbeats 8000000
namespace Mine
local macro_rules | `(tactic| walk_at "in") => `(tactic| with_reducible repeat' (first | exact List.mem_cons_self | refine List.mem_cons_of_mem _ ?_))
local macro_rules | `(tactic| walk_at "up") => `(tactic| with_reducible repeat' (first | exact UpB.head | apply UpB.tail))
local macro_rules | `(tactic| walk_at "upo") => `(tactic| with_reducible repeat' (first | exact Up.head | apply Up.tail))
local macro_rules | `(tactic| walk_at "nm") => `(tactic| refine r_local rfl rfl (by kernel_rfl!) (by kernel_rfl!) (by walk_at "in") ?_)
local macro_rules | `(tactic| walk_at "st") => `(tactic| refine r_storeN rfl rfl (by kernel_rfl!) (by kernel_rfl!) ?_)
local macro_rules | `(tactic| walk_at "re") => `(tactic| refine r_storeO rfl rfl (by kernel_rfl!) (by walk_at "up") ?_)
local macro_rules | `(tactic| walk_at "as") => `(tactic| refine r_cons (r_assign (by kernel_rfl!) ?_))
local macro_rules | `(tactic| walk_at "sub") => `(tactic| repeat' (first | exact SubB.nil | refine SubB.cons (by walk_at "in") ?_))
local macro_rules | `(tactic| walk_at "sl") => `(tactic| repeat' (first | exact List.Sublist.refl _ | exact List.nil_sublist _ | refine List.Sublist.cons_cons _ ?_ | refine List.Sublist.cons _ ?_))
variable {w : World} {A : Around} {env : Env} {g : Heap} {L : Addr} {b : Bd} {N : Lg} {n : Nat}
theorem init_run {x dx H p1 p2 : Addr} {t1 t2 t3 t4 : Tok} {cap : Nat} {x1 y1 x2 y2 : Str} {K : Value → Bd → Lg → Prop} (O : Okay (Mine.hd.heap_39 w.params) (n+2) A env g L)
    (hH : (H, lstO [.ref p1, .ref p2] cap) ∈ N) (h1 : (p1, ent x1 y1 t1 t2) ∈ N) (h2 : (p2, ent x2 y2 t3 t4) ∈ N) (g1 : Good x1) (g2 : Good y1) (g3 : Good x2) (g4 : Good y2)
    (k : ∀ hs tk, K .none b ((x, instObj 192 dx) :: (dx, hdD hs tk H) :: N)) :
    RunK PySem.Challenge.rw_pk0110_01.row.prog w A g L (.call (.ref 84) ⟨[.ref x, .ref H], []⟩) K b ((x, instObj 192 dx) :: (dx, dictOf [] 0) :: N) := by
  refine k_enter [(Str.ofString "self", .ref x), (Str.ofString "headers", .ref H)] O (by rfl) (by rfl) (fun s X => binds_K X rfl (by rfl) (by rfl) (by rfl) (by rfl)) (locs (by rfl)) (by rfl) (by rfl) (by rfl) (by decide) (by kernel_rfl!) ?_
  rintro g' L' A' env' rfl O'
  walk_at "as"
  refine r_ifexp (r_tcmp (by kernel_rfl!) ?_)
  walk_at "nm"
  refine r_cnone (r_isnNone (by simp) (r_tbool ?_))
  rw [if_pos rfl]
  walk_at "nm"
  walk_at "re"
  refine r_cons (r_if (r_tcmp (by kernel_rfl!) (r_call (by kernel_rfl!) (r_blt O' (by kernel_rfl!) (by kernel_rfl!) (by kernel_rfl!) rfl (by decide) (r_cwT (by kernel_rfl!) (by kernel_rfl!) (r_scons (by kernel_rfl!) ?_))))))
  walk_at "nm"
  refine r_snil (r_typeLst (List.mem_cons_of_mem _ (List.mem_cons_of_mem _ hH)) (r_blt O' (by kernel_rfl!) (by kernel_rfl!) (by kernel_rfl!) rfl (by decide) (r_isnT (r_tbool ?_))))
  rw [if_neg Bool.false_ne_true]
  refine r_nil ?_
  dsimp only
  refine r_cons (r_setOwn (x := x) (dx := dx) (C := 192) (v := .ref H) O' (by kernel_rfl!) (by rfl) (by kernel_rfl!) (by rfl) (by kernel_rfl!) ?_ (fun _ _ => ⟨rfl, rfl⟩) (by rfl))
  walk_at "nm"
  walk_at "nm"
  refine ⟨rfl, rfl, List.mem_cons_self, fun hs tk => ⟨_, .tail .head, ?_⟩⟩
  dsimp only
  refine r_cons (r_if (r_tplain (by kernel_rfl!) (r_cbool (r_tbool ?_))))
  rw [if_pos rfl]
  have hx : ∀ o', (x, instObj 192 dx) ∈ (o' :: (x, instObj 192 dx) :: (dx, hdD hs tk H) :: N) := fun _ => List.mem_cons_of_mem _ List.mem_cons_self
  have hd : ∀ o', (dx, hdD hs tk H) ∈ (o' :: (x, instObj 192 dx) :: (dx, hdD hs tk H) :: N) := fun _ => List.mem_cons_of_mem _ (List.mem_cons_of_mem _ List.mem_cons_self)
  have up : ∀ {p : Addr × Obj}, p ∈ N → p ∈ ((x, instObj 192 dx) :: (dx, hdD hs tk H) :: N) := fun h => List.mem_cons_of_mem _ (List.mem_cons_of_mem _ h)
  refine r_cons (r_for (by intro _; rfl) ?_)
  walk_at "nm"
  refine r_listIter (N := (x, instObj 192 dx) :: (dx, hdD hs tk H) :: N) (up hH) fun it o hl => ?_
  refine ⟨fun m b' N' => ∃ i o', LI H i o' ∧ m + i = 2 ∧ b' = [(Str.ofString "self", .ref x), (Str.ofString "headers", .ref H)] ∧ N' = (it, o') :: (x, instObj 192 dx) :: (dx, hdD hs tk H) :: N, 2, ⟨_, _, ⟨0, o, hl, rfl, rfl, rfl⟩, by walk_at "sub", by kernel_rfl!, .refl _⟩, ?_⟩
  rintro m b' N' ⟨i, o', hl', hmi, rfl, rfl⟩
  have h3 : i = 2 ∨ ∃ p xx yy ta tb, (p, ent xx yy ta tb) ∈ N ∧ [Value.ref p1, .ref p2][i]? = some (.ref p) ∧ Good xx ∧ Good yy ∧ i < 2 := by
    match i with
    | 0 => exact .inr ⟨p1, x1, y1, t1, t2, h1, rfl, g1, g2, by omega⟩
    | 1 => exact .inr ⟨p2, x2, y2, t3, t4, h2, rfl, g3, g4, by omega⟩
    | 2 => exact .inl rfl
    | i + 3 => omega
  rcases h3 with rfl | ⟨p, xx, yy, ta, tb, hp, hv, gx, gy, hi2⟩
  · refine r_listEnd O'.hh hl' (up hH) rfl ?_
    dsimp only
    refine r_nil ?_
    dsimp only
    exact r_nil (k hs tk)
  · refine r_listNext hl' (up hH) hv fun o2 hl2 => ?_
    dsimp only
    refine r_goList hl2 List.mem_cons_self (r_asTuple O'.hh (List.mem_cons_of_mem _ (up hp)) (by rfl) (by rfl) (r_aioCons (r_asName ?_)))
    walk_at "st"
    refine r_aioCons (r_asName ?_)
    walk_at "st"
    refine r_aioNil (r_cons (r_expr (by kernel_rfl!) (by kernel_rfl!) (r_mcallK (by rfl) ?_)))
    walk_at "nm"
    refine r_gmInst O' (hx _) (hd _) (by kernel_rfl!) (by rfl) (by kernel_rfl!) (by rfl) (r_cwKw O' (by kernel_rfl!) (by kernel_rfl!) (by kernel_rfl!) (r_scons (by kernel_rfl!) ?_))
    walk_at "nm"
    refine r_snil (r_cbool (convert_run O' gx ⟨trivial, r_cons (r_expr (by kernel_rfl!) (by kernel_rfl!) (r_mcallK (by rfl) ?_))⟩))
    walk_at "nm"
    refine r_gmInst O' (hx _) (hd _) (by kernel_rfl!) (by rfl) (by kernel_rfl!) (by rfl) (r_cwKw O' (by kernel_rfl!) (by kernel_rfl!) (by kernel_rfl!) (r_scons (by kernel_rfl!) ?_))
    walk_at "nm"
    refine r_snil (r_cbool (convert_run O' gy ⟨trivial, r_nil ?_⟩))
    exact ⟨_, _, ⟨m - 1, by omega, i + 1, o2, hl2, by omega, rfl, rfl⟩, by walk_at "sub", by kernel_rfl!, .refl _⟩
theorem rc_startS {prog : Program} {elt : Expr} {gens : List Comprehension} {scope : Scope} {pos : Pos} {d : Nat} {it acc : Value} {K : Bd → Lg → Prop} {gd : Comprehension} (hg : gens[d]? = some gd) (ha : gd.is_async = 0)
    (hs : ∀ K' : Value → Bd → Lg → Prop, K' it b N → Run prog w A g L (pyIter it) K' b N) (h0 : RunC prog w A g L (.compLoop (.ListComp elt gens scope pos) d it acc env) K b N) :
    RunC prog w A g L (.compStart (.ListComp elt gens scope pos) d it acc env) K b N := rc_start hg ha h0 (hs _ ⟨rfl, h0⟩)
/-- what the list of entries keeps when a letter's entry goes -/
theorem del_run {x dx H p1 p2 : Addr} {hs : Int} {tk t t1 t2 t3 t4 : Tok} {u c u1 c1 u2 : Bool} {y1 y2 : Str} {cap : Nat} {K : Value → Bd → Lg → Prop} (O : Okay (Mine.hd.heap_39 w.params) (n+2) A env g L)
    (hx : (x, instObj 192 dx) ∈ N) (hd : (dx, hdD hs tk H) ∈ N) (h1 : (p1, ent (nm u1 c1) y1 t1 t2) ∈ N) (h2 : (p2, ent (nm u2 (!c1)) y2 t3 t4) ∈ N)
    (k : ∀ cap', ∃ N', Up H (lstO [.ref p1, .ref p2] cap) (lstO [.ref (if c = c1 then p2 else p1)] cap') N N' ∧ K .none b N') :
    Run PySem.Challenge.rw_pk0110_01.row.prog w A g L (call (.ref 110) [.ref x, .str (nm u c) t]) K b N := by
  have hH : (H, lstO [.ref p1, .ref p2] cap) ∈ N := by obtain ⟨N', u, _⟩ := k 0; exact u.mem
  refine r_enterC1 [(Str.ofString "self", .ref x), (Str.ofString "name", .str (nm u c) t)] [(Str.ofString "self", .ref x)] (Str.ofString "name") O (by rfl) (by rfl) (fun s X => BindsTo.of_eq (by rfl)) (by kernel_rfl!) (fun _ => rfl) (by rfl) (by rfl) (by rfl) (by kernel_rfl!) (fun L' p hp => ?_) ?_
  · cases hp with
    | head => rfl
    | tail _ h => cases h
  rintro g' L' A' env' o rfl hdo O'
  have hdo' : o.data = .cell (some (.str (nm u c) t)) := hdo
  walk_at "as"
  refine r_mcallK (by rfl) ?_
  walk_at "nm"
  refine r_gmInst O' (List.mem_cons_of_mem _ hx) (List.mem_cons_of_mem _ hd) (by kernel_rfl!) (by rfl) (by kernel_rfl!) (by rfl) (r_cwKw O' (by kernel_rfl!) (by kernel_rfl!) (by kernel_rfl!) (r_scons (by kernel_rfl!) (r_mcall (by rfl) ?_)))
  refine r_cell rfl (by rfl) (by kernel_rfl!) (by rfl) List.mem_cons_self hdo' ?_
  refine t_gmLower (r_cwB0 (t_lower (good_nm u c).2 (nm_low u c) fun tl => r_snil (r_cbool (convert_run O' (good_ab (by simp)) ?_))))
  refine r_storeC rfl (by rfl) (by rfl) hdo' List.mem_cons_self fun o2 hd2 => ⟨_, .head, ?_⟩
  dsimp only
  refine r_cons (r_assignS (by kernel_rfl!) (r_listcomp (cl := [(Str.ofString "name", L' + 1)]) (by intro _; rfl) (by rfl) (by decide) (by rfl) (by decide) (r_attr (by rfl) ?_)))
  walk_at "nm"
  refine r_own O' (List.mem_cons_of_mem _ hx) (List.mem_cons_of_mem _ hd) (by kernel_rfl!) (by kernel_rfl!) (by rfl) (by kernel_rfl!) (by rfl) (by rfl) (r_listIter (List.mem_cons_of_mem _ hH) fun it oI hl C D oL => ?_)
  have up : ∀ {p p3 p2 p1 : Addr × Obj}, p ∈ N → p ∈ (p1 :: p2 :: p3 :: N) := fun h => List.mem_cons_of_mem _ (List.mem_cons_of_mem _ (List.mem_cons_of_mem _ h))
  refine RunC.perm perm3 ?_
  refine rc_startS rfl rfl (fun K' k' => r_listSelf hl List.mem_cons_self k') ?_
  refine rc_loop (fun m b' N' => ∃ i oI' ws cap', LI H i oI' ∧ m + i = 2 ∧ b' = [] ∧ N' = (it, oI') :: (L', oL) :: (D, lstO ws cap') :: (L' + 1, o2) :: N ∧ ((i = 0 ∧ ws = []) ∨ (i = 1 ∧ ws = if c = c1 then [] else [.ref p1]) ∨ (i = 2 ∧ ws = [.ref (if c = c1 then p2 else p1)]))) 2 ⟨_, _, ⟨0, oI, [], 0, hl, rfl, rfl, rfl, .inl ⟨rfl, rfl⟩⟩, by walk_at "sub", by kernel_rfl!, .refl _⟩ ?_
  rintro m b' N' ⟨i, oI', ws, cap', hl', hmi, rfl, rfl, hws⟩
  refine r_turn ?_
  have h3 : (i = 2 ∧ ws = [.ref (if c = c1 then p2 else p1)]) ∨ ∃ p uu cc yy ta tb, (p, ent (nm uu cc) yy ta tb) ∈ N ∧ [Value.ref p1, .ref p2][i]? = some (.ref p) ∧ i < 2 ∧ ws.length ≤ 1 ∧ ((cc ≠ c ∧ ((i + 1 = 1 ∧ ws ++ [.ref p] = if c = c1 then [] else [.ref p1]) ∨ (i + 1 = 2 ∧ ws ++ [.ref p] = [.ref (if c = c1 then p2 else p1)]))) ∨ (cc = c ∧ ((i + 1 = 1 ∧ ws = if c = c1 then [] else [.ref p1]) ∨ (i + 1 = 2 ∧ ws = [.ref (if c = c1 then p2 else p1)])))) := by
    rcases hws with ⟨rfl, rfl⟩ | ⟨rfl, rfl⟩ | h
    · refine .inr ⟨p1, u1, c1, y1, t1, t2, h1, rfl, by omega, by simp, ?_⟩
      by_cases hc : c = c1
      · exact .inr ⟨hc.symm, .inl ⟨rfl, by rw [if_pos hc]⟩⟩
      · exact .inl ⟨fun e => hc e.symm, .inl ⟨rfl, by rw [if_neg hc]; rfl⟩⟩
    · refine .inr ⟨p2, u2, !c1, y2, t3, t4, h2, rfl, by omega, by split <;> simp, ?_⟩
      by_cases hc : c = c1
      · refine .inl ⟨by rw [hc]; cases c1 <;> simp, .inr ⟨rfl, by rw [if_pos hc, if_pos hc]; rfl⟩⟩
      · refine .inr ⟨by cases c <;> cases c1 <;> simp_all, .inr ⟨rfl, by rw [if_neg hc, if_neg hc]⟩⟩
    · exact .inl h
  rcases h3 with ⟨rfl, rfl⟩ | ⟨p, uu, cc, yy, ta, tb, hp, hv, hi2, hwl, hcase⟩
  · refine r_listEnd O'.hh hl' (up hH) rfl ?_
    dsimp only
    refine ⟨_, ?_, .refl _⟩
    refine r_attr (by rfl) ?_
    walk_at "nm"
    refine r_own O' (List.mem_cons_of_mem _ (List.mem_cons_of_mem _ hx)) (List.mem_cons_of_mem _ (List.mem_cons_of_mem _ hd)) (by kernel_rfl!) (by kernel_rfl!) (by rfl) (by kernel_rfl!) (by rfl) (by rfl) (r_slice (r_pnone (r_pnone (r_pnone fun a => ?_))))
    refine r_sliceAll (vs := [.ref p1, .ref p2]) (ws := [.ref (if c = c1 then p2 else p1)]) (c := cap) (d := cap') List.mem_cons_self (List.mem_cons_of_mem _ List.mem_cons_self) (by simp) (by simp) fun c' => ?_
    obtain ⟨N', u', k'⟩ := k c'
    exact ⟨_, .tail (.tail (.tail u')), r_nil ⟨N', k', .cons _ (.cons _ (.cons _ (.refl _)))⟩⟩
  · refine r_listNext hl' (up hH) hv fun oI2 hl2 => ?_
    dsimp only
    refine r_goName (r_asName ?_)
    walk_at "st"
    refine r_tests1 (r_tcmp (by kernel_rfl!) (r_mcall (by rfl) (r_sub ?_)))
    walk_at "nm"
    refine r_cint fun _ => r_itemT (List.mem_cons_of_mem _ (up hp)) (by decide) (by decide) (by rfl) (by kernel_rfl!) ?_
    refine t_gmLower (r_cwB0 (t_lower (good_nm uu cc).2 (nm_low uu cc) fun _ => ?_))
    refine r_cell rfl (by kernel_rfl!) (by kernel_rfl!) (by rfl) (List.mem_cons_of_mem _ (List.mem_cons_of_mem _ (List.mem_cons_of_mem _ List.mem_cons_self))) hd2 ?_
    refine s_ne (r_tbool ?_)
    have ene : (ab [cc] != ab [c]) = !(cc == c) := by rw [bne, nm_eq]
    rw [ene]
    rcases hcase with ⟨hne, hnx⟩ | ⟨rfl, hnx⟩
    · rw [if_pos (by simpa using hne)]
      walk_at "nm"
      refine r_append (.tail (.tail .head)) (sz (by omega)) ?_
      exact ⟨_, _, ⟨m - 1, by omega, i + 1, oI2, ws ++ [.ref p], cap' + 1, hl2, by omega, rfl, rfl, .inr hnx⟩, by walk_at "sub", by kernel_rfl!, .refl _⟩
    · rw [if_neg (by simp)]
      exact ⟨_, _, ⟨m - 1, by omega, i + 1, oI2, ws, cap', hl2, by omega, rfl, rfl, .inr hnx⟩, by walk_at "sub", by kernel_rfl!, .refl _⟩
end Mine

end
section
open PySem PySem.W PyProof.Rows PySem.Calls
set_option maxHeartbeats 8000000
namespace Mine
local macro_rules | `(tactic| walk_at "in") => `(tactic| with_reducible repeat' (first | exact List.mem_cons_self | refine List.mem_cons_of_mem _ ?_))
local macro_rules | `(tactic| walk_at "up") => `(tactic| with_reducible repeat' (first | exact UpB.head | apply UpB.tail))
local macro_rules | `(tactic| walk_at "upo") => `(tactic| with_reducible repeat' (first | exact Up.head | apply Up.tail))
local macro_rules | `(tactic| walk_at "nm") => `(tactic| refine r_local rfl rfl (by kernel_rfl!) (by kernel_rfl!) (by walk_at "in") ?_)
local macro_rules | `(tactic| walk_at "st") => `(tactic| refine r_storeN rfl rfl (by kernel_rfl!) (by kernel_rfl!) ?_)
local macro_rules | `(tactic| walk_at "re") => `(tactic| refine r_storeO rfl rfl (by kernel_rfl!) (by walk_at "up") ?_)
local macro_rules | `(tactic| walk_at "as") => `(tactic| refine r_cons (r_assign (by kernel_rfl!) ?_))
local macro_rules | `(tactic| walk_at "sub") => `(tactic| repeat' (first | exact SubB.nil | refine SubB.cons (by walk_at "in") ?_))
local macro_rules | `(tactic| walk_at "sl") => `(tactic| repeat' (first | exact List.Sublist.refl _ | exact List.nil_sublist _ | refine List.Sublist.cons_cons _ ?_ | refine List.Sublist.cons _ ?_))
variable {w : World} {A : Around} {env : Env} {g : Heap} {L : Addr} {b : Bd} {N : Lg} {n : Nat}
theorem set_run {x dx H p1 p2 : Addr} {hs : Int} {tk t t' t1 t2 t3 t4 : Tok} {u c u1 c1 u2 : Bool} {y y1 y2 : Str} {cap : Nat} {f : Obj → Lg} {K : Value → Bd → Lg → Prop} (O : Okay (Mine.hd.heap_39 w.params) (n+3) A env g L)
    (hz : ∀ o o', Up H o o' (f o) (f o')) (hx : ∀ o, (x, instObj 192 dx) ∈ f o) (hd : ∀ o, (dx, hdD hs tk H) ∈ f o) (h1 : ∀ o, (p1, ent (nm u1 c1) y1 t1 t2) ∈ f o) (h2 : ∀ o, (p2, ent (nm u2 (!c1)) y2 t3 t4) ∈ f o) (gy : Good y)
    (k : ∀ q cap' ta tb, K .none b ((q, ent (nm u c) y ta tb) :: f (lstO [.ref (if c = c1 then p2 else p1), .ref q] cap'))) :
    Run PySem.Challenge.rw_pk0110_01.row.prog w A g L (call (.ref 105) [.ref x, .str (nm u c) t, .str y t']) K b (f (lstO [.ref p1, .ref p2] cap)) := by
  refine r_enter [(Str.ofString "self", .ref x), (Str.ofString "name", .str (nm u c) t), (Str.ofString "val", .str y t')] O (by rfl) (by rfl) (fun s X => BindsTo.of_eq (by rfl)) (locs (by rfl)) (by rfl) (by rfl) (by rfl) (by decide) (by kernel_rfl!) ?_
  rintro g' L' A' env' rfl O'
  refine r_cons (r_delSub ?_)
  walk_at "nm"
  walk_at "nm"
  refine r_delItem O' (hx _) (hd _) (by kernel_rfl!) (by rfl) (by kernel_rfl!) (del_run O' (hx _) (hd _) (h1 _) (h2 _) fun cap' => ⟨_, hz _ _, ?_⟩)
  dsimp only
  refine r_cons (r_expr (by kernel_rfl!) (by kernel_rfl!) (r_mcall (by rfl) (r_attr (by rfl) ?_)))
  walk_at "nm"
  refine r_own O' (hx _) (hd _) (by kernel_rfl!) (by kernel_rfl!) (by rfl) (by kernel_rfl!) (by rfl) (by rfl) (r_gmAppend (hz _ (lstO [] 0)).mem (r_cwB (by kernel_rfl!) (by kernel_rfl!) (r_scons (by kernel_rfl!) (r_tuple (r_scons (by kernel_rfl!) (r_mcallK (by rfl) ?_))))))
  walk_at "nm"
  refine r_gmInst O' (hx _) (hd _) (by kernel_rfl!) (by rfl) (by kernel_rfl!) (by rfl) (r_cwKw O' (by kernel_rfl!) (by kernel_rfl!) (by kernel_rfl!) (r_scons (by kernel_rfl!) ?_))
  walk_at "nm"
  refine r_snil (r_cbool (convert_run O' (good_nm u c) (r_scons (by kernel_rfl!) (r_mcallK (by rfl) ?_))))
  walk_at "nm"
  refine r_gmInst O' (hx _) (hd _) (by kernel_rfl!) (by rfl) (by kernel_rfl!) (by rfl) (r_cwKw O' (by kernel_rfl!) (by kernel_rfl!) (by kernel_rfl!) (r_scons (by kernel_rfl!) ?_))
  walk_at "nm"
  refine r_snil (r_cbool (convert_run O' gy (r_snil (r_ntup (sz (by simp)) fun q => r_snil ?_))))
  refine r_append (.tail (hz _ _)) (sz (by simp)) ⟨trivial, r_nil ?_⟩
  exact k q _ _ _
end Mine

end
section
open PySem PySem.W PyProof.Rows PySem.Calls
set_option maxHeartbeats 8000000
namespace Mine
local macro_rules | `(tactic| walk_at "in") => `(tactic| with_reducible repeat' (first | exact List.mem_cons_self | refine List.mem_cons_of_mem _ ?_))
local macro_rules | `(tactic| walk_at "up") => `(tactic| with_reducible repeat' (first | exact UpB.head | apply UpB.tail))
local macro_rules | `(tactic| walk_at "upo") => `(tactic| with_reducible repeat' (first | exact Up.head | apply Up.tail))
local macro_rules | `(tactic| walk_at "nm") => `(tactic| refine r_local rfl rfl (by kernel_rfl!) (by kernel_rfl!) (by walk_at "in") ?_)
local macro_rules | `(tactic| walk_at "st") => `(tactic| refine r_storeN rfl rfl (by kernel_rfl!) (by kernel_rfl!) ?_)
local macro_rules | `(tactic| walk_at "re") => `(tactic| refine r_storeO rfl rfl (by kernel_rfl!) (by walk_at "up") ?_)
local macro_rules | `(tactic| walk_at "as") => `(tactic| refine r_cons (r_assign (by kernel_rfl!) ?_))
local macro_rules | `(tactic| walk_at "sub") => `(tactic| repeat' (first | exact SubB.nil | refine SubB.cons (by walk_at "in") ?_))
local macro_rules | `(tactic| walk_at "sl") => `(tactic| repeat' (first | exact List.Sublist.refl _ | exact List.nil_sublist _ | refine List.Sublist.cons_cons _ ?_ | refine List.Sublist.cons _ ?_))
/-- the piece under a letter after i steps -/
def tx (cs : List Bool) : Nat → Bool → List Bool
  | 0, c => [c]
  | i + 1, c => if cs[i]? = some c then tx cs i false ++ tx cs i true else tx cs i c
/-- how a letter is spelled after i steps -/
def bit (ns : List Int) (cs : List Bool) : Nat → Bool → Bool
  | 0, _ => false
  | i + 1, c => if cs[i]? = some c then upb ns i else bit ns cs i c
/-- the letter that stands first -/
def fstL (cs : List Bool) : Nat → Bool
  | 0 => false
  | i + 1 => !(cs.getD i false)
def entAt (ns : List Int) (cs : List Bool) (i : Nat) (c : Bool) (t u : Tok) : Obj := ent (nm (bit ns cs i c) c) (ab (tx cs i c)) t u
theorem ab_get {cs : List Bool} {i : Nat} {c : Bool} (h : cs[i]? = some c) : (ab cs).cps[i]? = some (code c) := by
  have : (ab cs).cps.toList[i]? = some (code c) := by rw [ab_list, List.getElem?_map, h]; rfl
  simpa using this
theorem eA : Str.ofString "A" = nm true false := by decide
theorem eB : Str.ofString "B" = nm true true := by decide
theorem pick_tx (cs : List Bool) (i : Nat) (c d : Bool) : (if c = d then ab (tx cs i d) else ab (tx cs i (!d))) = ab (tx cs i c) := by cases c <;> cases d <;> rfl
theorem bit_same {ns : List Int} {cs : List Bool} {i : Nat} {c : Bool} (h : cs[i]? = some c) : bit ns cs (i + 1) c = upb ns i ∧ tx cs (i + 1) c = tx cs i false ++ tx cs i true ∧ bit ns cs (i + 1) (!c) = bit ns cs i (!c) ∧ tx cs (i + 1) (!c) = tx cs i (!c) ∧ fstL cs (i + 1) = !c := by
  refine ⟨by simp [bit, h], by simp [tx, h], by simp [bit, h], by simp [tx, h], ?_⟩
  show (!(cs.getD i false)) = !c
  rw [List.getD_eq_getElem?_getD, h]; rfl
variable {w : World} {A : Around} {env : Env} {g : Heap} {L : Addr} {b : Bd} {N : Lg} {n : Nat}
theorem table_run {ns : List Int} {cs : List Bool} {vs : List Value} {l : Addr} {cap : Nat} {t : Tok} {K : Value → Bd → Lg → Prop} (O : Okay (Mine.hd.heap_39 w.params) (n+5) A env g L)
    (hm : (l, lstO vs cap) ∈ N) (hi : IntsAre vs ns) (hn0 : 0 < ns.length) (hn : ns.length ≤ 100) (hc : cs.length ≤ 100) (hlen : ∀ i, i ≤ cs.length → (tx cs i false ++ tx cs i true).length ≤ 1000)
    (k : ∀ d p1 p2 t1 t2 t3 t4, K (.ref d) b ((d, lstO [.ref p1, .ref p2] 0) :: (p1, entAt ns cs cs.length (fstL cs cs.length) t1 t2) :: (p2, entAt ns cs cs.length (!fstL cs cs.length) t3 t4) :: N)) :
    Run PySem.Challenge.rw_pk0110_01.row.prog w A g L (call (.ref 224) [.ref l, .str (ab cs) t]) K b N := by
  refine Run.drop (r_enter [(Str.ofString "numbers", .ref l), (Str.ofString "steps", .str (ab cs) t)] O (by rfl) (by rfl) (fun s _ => BindsTo.of_eq (by rfl)) (locs (by rfl)) (by rfl) (by rfl) (by rfl) (by decide) (by kernel_rfl!) ?_)
  rintro g' L' A' env' rfl O'
  -- table = Headers([('a', 'a'), ('b', 'b')])
  walk_at "as"
  refine r_call (by kernel_rfl!) (r_glob O' (by kernel_rfl!) (by kernel_rfl!) (by rfl) (r_cwK O' (by kernel_rfl!) (by kernel_rfl!) (by kernel_rfl!) (r_scons (by kernel_rfl!) (r_list (r_scons (by kernel_rfl!) (r_tuple (r_scons (by kernel_rfl!) (r_cstr fun ta => r_scons (by kernel_rfl!) (r_cstr fun tb => r_snil (r_ntup (sz (by simp)) fun p1 => ?_))))))))))
  refine r_scons (by kernel_rfl!) (r_tuple (r_scons (by kernel_rfl!) (r_cstr fun tc => r_scons (by kernel_rfl!) (r_cstr fun td => r_snil (r_ntup (sz (by simp)) fun p2 => r_snil (r_nlist (sz (by simp)) fun H => r_snil ?_))))))
  refine r_make O' (by kernel_rfl!) (by rfl) (by kernel_rfl!) fun x dx A2 O2 => ?_
  refine (init_run (x := x) (dx := dx) (cap := 0) (t1 := ta) (t2 := tb) (t3 := tc) (t4 := td) O2 List.mem_cons_self (x1 := ab [false]) (y1 := ab [false]) (x2 := ab [true]) (y2 := ab [true]) (by rw [← ab_a1]; exact List.mem_cons_of_mem _ (List.mem_cons_of_mem _ List.mem_cons_self)) (by rw [← ab_b1]; exact List.mem_cons_of_mem _ List.mem_cons_self) (good_ab (by simp)) (good_ab (by simp)) (good_ab (by simp)) (good_ab (by simp)) fun hs tk => ⟨rfl, ?_⟩)
  walk_at "st"
  rw [ab_a1, ab_b1]
  refine Run.perm ((((List.Perm.swap _ _ _).cons _).cons _).cons _) ?_
  refine r_cons (r_for (by intro _; rfl) (r_call (by kernel_rfl!) (r_blt O' (by kernel_rfl!) (by kernel_rfl!) (by kernel_rfl!) rfl (by decide) (r_cwT (by kernel_rfl!) (by kernel_rfl!) (r_scons (by kernel_rfl!) ?_)))))
  walk_at "nm"
  refine r_snil (r_enumS fun e it o hsi => r_enumSelf List.mem_cons_self ?_)
  refine ⟨fun m b' N' => ∃ i o' old p1 p2 t1 t2 t3 t4 cap', SI (ab cs) t i o' ∧ m + i = cs.length ∧ b' = [(Str.ofString "numbers", .ref l), (Str.ofString "steps", .str (ab cs) t), (Str.ofString "table", .ref x)] ∧ N' = (e, enO it i old) :: (it, o') :: (x, instObj 192 dx) :: (dx, hdD hs tk H) :: (H, lstO [.ref p1, .ref p2] cap') :: (p1, entAt ns cs i (fstL cs i) t1 t2) :: (p2, entAt ns cs i (!fstL cs i) t3 t4) :: N, cs.length, ⟨_, _, ⟨0, o, .none, p1, p2, ta, tb, tc, td, 0, hsi, by omega, rfl, rfl⟩, by walk_at "sub", by kernel_rfl!, .refl _⟩, ?_⟩
  rintro m b' N' ⟨i, o', old, q1, q2, t1, t2, t3, t4, cap', hsi', hmi, rfl, rfl⟩
  by_cases hend : i = cs.length
  · subst hend
    refine r_enumEndS O'.hh (by have : (ab cs).cps.size = cs.length := ab_len cs; rw [this]; exact hsi') ?_
    dsimp only
    refine r_cons (r_ret (r_mcall (by rfl) ?_))
    walk_at "nm"
    refine r_gmInst O' List.mem_cons_self (List.mem_cons_of_mem _ List.mem_cons_self) (by kernel_rfl!) (by rfl) (by kernel_rfl!) (by rfl) (r_cwK0 O' (by kernel_rfl!) ?_)
    refine items_run O' List.mem_cons_self (List.mem_cons_of_mem _ List.mem_cons_self) (List.mem_cons_of_mem _ (List.mem_cons_of_mem _ List.mem_cons_self)) (by simp) fun d => ?_
    exact ⟨_, k d q1 q2 t1 t2 t3 t4, .cons_cons _ (.cons _ (.cons _ (.cons _ (.refl _))))⟩
  · obtain ⟨c, hcx⟩ : ∃ c, cs[i]? = some c := ⟨cs[i]'(by omega), by simp⟩
    refine r_enumNextS O'.hh hsi' (ab_get hcx) fun T o2 tu tv hsi2 => ?_
    dsimp only
    refine r_goEnum (r_asTuple O'.hh List.mem_cons_self (by rfl) (by rfl) (r_aioCons (r_asName ?_)))
    walk_at "st"
    refine r_aioCons (r_asName ?_)
    walk_at "st"
    refine r_aioNil ?_
    have hone : (⟨#[code c]⟩ : Str) = ab [c] := (ab_one c).symm
    rw [hone]
    -- joined = table.get('A') + table.get('B')
    have up : ∀ {a1 a2 a3 p : Addr × Obj} {R : Lg}, p ∈ R → p ∈ (a1 :: a2 :: a3 :: R) := fun h => .tail _ (.tail _ (.tail _ h))
    walk_at "as"
    refine r_bin (r_mcall (by rfl) ?_)
    walk_at "nm"
    refine r_gmInst O' (up (.head _)) (up (.tail _ (.head _))) (by kernel_rfl!) (by rfl) (by kernel_rfl!) (by rfl) (r_cwK O' (by kernel_rfl!) (by kernel_rfl!) (by kernel_rfl!) (r_scons (by kernel_rfl!) (r_cstr fun _ => r_snil ?_)))
    rw [eA]
    refine get_run (u1 := bit ns cs i (fstL cs i)) (c1 := fstL cs i) (y1 := ab (tx cs i (fstL cs i))) (u2 := bit ns cs i (!fstL cs i)) (y2 := ab (tx cs i (!fstL cs i))) (p1 := q1) (p2 := q2) (t1 := t1) (t2 := t2) (t3 := t3) (t4 := t4) (cap := cap') O' (up (.head _)) (up (.tail _ (.head _))) (up (.tail _ (.tail _ (.head _)))) (up (.tail _ (.tail _ (.tail _ (.head _))))) (up (.tail _ (.tail _ (.tail _ (.tail _ (.head _)))))) fun va => ?_
    rw [pick_tx]
    refine r_mcall (by rfl) ?_
    walk_at "nm"
    refine r_gmInst O' (up (.head _)) (up (.tail _ (.head _))) (by kernel_rfl!) (by rfl) (by kernel_rfl!) (by rfl) (r_cwK O' (by kernel_rfl!) (by kernel_rfl!) (by kernel_rfl!) (r_scons (by kernel_rfl!) (r_cstr fun _ => r_snil ?_)))
    rw [eB]
    refine get_run (u1 := bit ns cs i (fstL cs i)) (c1 := fstL cs i) (y1 := ab (tx cs i (fstL cs i))) (u2 := bit ns cs i (!fstL cs i)) (y2 := ab (tx cs i (!fstL cs i))) (p1 := q1) (p2 := q2) (t1 := t1) (t2 := t2) (t3 := t3) (t4 := t4) (cap := cap') O' (up (.head _)) (up (.tail _ (.head _))) (up (.tail _ (.tail _ (.head _)))) (up (.tail _ (.tail _ (.tail _ (.head _))))) (up (.tail _ (.tail _ (.tail _ (.tail _ (.head _)))))) fun vb => ?_
    rw [pick_tx]
    have hl1 := hlen i (by omega)
    refine s_add (by rw [ab_len, ab_len, ← List.length_append]; exact sz (by omega)) fun vj => ?_
    rw [ab_app]
    walk_at "st"
    -- table[_law_spelled(numbers, k, letter)] = joined
    refine r_cons (r_assignS (by kernel_rfl!) ?_)
    walk_at "nm"
    walk_at "nm"
    refine r_call (by kernel_rfl!) (r_glob O' (by kernel_rfl!) (by kernel_rfl!) (by rfl) (r_cwK O' (by kernel_rfl!) (by kernel_rfl!) (by kernel_rfl!) (r_scons (by kernel_rfl!) ?_)))
    walk_at "nm"
    refine r_scons (by kernel_rfl!) ?_
    walk_at "nm"
    refine r_scons (by kernel_rfl!) ?_
    walk_at "nm"
    refine r_snil (spelled_run O' (up (.tail _ (.tail _ (.tail _ (.tail _ (.tail _ hm)))))) hi hn0 hn (by omega) fun vs' => ?_)
    refine r_setItemI O' (up (.head _)) (up (.tail _ (.head _))) (by kernel_rfl!) (by rfl) (by kernel_rfl!) ?_
    refine set_run (f := fun oo => (T, tupO [.int i tu, .str (ab [c]) tv]) :: (e, enO it ((i : Int) + 1) (.str (ab [c]) tv)) :: (it, o2) :: (x, instObj 192 dx) :: (dx, hdD hs tk H) :: (H, oo) :: (q1, entAt ns cs i (fstL cs i) t1 t2) :: (q2, entAt ns cs i (!fstL cs i) t3 t4) :: N) (u1 := bit ns cs i (fstL cs i)) (c1 := fstL cs i) (y1 := ab (tx cs i (fstL cs i))) (u2 := bit ns cs i (!fstL cs i)) (y2 := ab (tx cs i (!fstL cs i))) (p1 := q1) (p2 := q2) (t1 := t1) (t2 := t2) (t3 := t3) (t4 := t4) (cap := cap') O' (fun _ _ => .tail (.tail (.tail (.tail (.tail .head))))) (fun _ => up (.head _)) (fun _ => up (.tail _ (.head _))) (fun _ => up (.tail _ (.tail _ (.tail _ (.head _))))) (fun _ => up (.tail _ (.tail _ (.tail _ (.tail _ (.head _)))))) (good_ab hl1) fun q cap2 tx1 tx2 => ?_
    dsimp only
    obtain ⟨s1, s2, s3, s4, s5⟩ := bit_same (ns := ns) hcx
    refine Run.perm (List.perm_middle (l₁ := [(T, tupO [.int i tu, .str (ab [c]) tv]), (e, enO it ((i : Int) + 1) (.str (ab [c]) tv)), (it, o2), (x, instObj 192 dx), (dx, hdD hs tk H), (H, lstO [.ref (if c = fstL cs i then q2 else q1), .ref q] cap2), (q1, entAt ns cs i (fstL cs i) t1 t2), (q2, entAt ns cs i (!fstL cs i) t3 t4)]) (l₂ := N)).symm (r_nil ?_)
    have eq2 : ent (nm (upb ns i) c) (ab (tx cs i false ++ tx cs i true)) tx1 tx2 = entAt ns cs (i + 1) (!fstL cs (i + 1)) tx1 tx2 := by
      unfold entAt; rw [s5, Bool.not_not, s1, s2]
    have eI : ((i : Int) + 1) = ((i + 1 : Nat) : Int) := by push_cast; rfl
    rw [eq2, eI]
    by_cases hcf : c = fstL cs i
    · have eq1 : entAt ns cs i (!fstL cs i) t3 t4 = entAt ns cs (i + 1) (fstL cs (i + 1)) t3 t4 := by
        unfold entAt; rw [s5, ← hcf, s3, s4]
      rw [if_pos hcf, eq1]
      exact ⟨_, _, ⟨m - 1, by omega, i + 1, o2, _, q2, q, t3, t4, tx1, tx2, cap2, hsi2, by omega, rfl, rfl⟩, by walk_at "sub", by kernel_rfl!, .cons _ (.cons_cons _ (.cons_cons _ (.cons_cons _ (.cons_cons _ (.cons_cons _ (.cons _ (.refl _)))))))⟩
    · have hcf' : fstL cs i = !c := by cases h1 : c <;> cases h2 : fstL cs i <;> simp_all
      have eq1 : entAt ns cs i (fstL cs i) t1 t2 = entAt ns cs (i + 1) (fstL cs (i + 1)) t1 t2 := by
        unfold entAt; rw [s5, hcf', s3, s4]
      rw [if_neg hcf, eq1]
      exact ⟨_, _, ⟨m - 1, by omega, i + 1, o2, _, q1, q, t1, t2, tx1, tx2, cap2, hsi2, by omega, rfl, rfl⟩, by walk_at "sub", by kernel_rfl!, .cons _ (.cons_cons _ (.cons_cons _ (.cons_cons _ (.cons_cons _ (.cons_cons _ (.cons_cons _ (.cons _ (.refl _))))))))⟩
end Mine

end
section
open PySem PySem.W PyProof.Rows PySem.Calls
set_option maxHeartbeats 8000000
namespace Mine
local macro_rules | `(tactic| walk_at "in") => `(tactic| with_reducible repeat' (first | exact List.mem_cons_self | refine List.mem_cons_of_mem _ ?_))
local macro_rules | `(tactic| walk_at "up") => `(tactic| with_reducible repeat' (first | exact UpB.head | apply UpB.tail))
local macro_rules | `(tactic| walk_at "upo") => `(tactic| with_reducible repeat' (first | exact Up.head | apply Up.tail))
local macro_rules | `(tactic| walk_at "nm") => `(tactic| refine r_local rfl rfl (by kernel_rfl!) (by kernel_rfl!) (by walk_at "in") ?_)
local macro_rules | `(tactic| walk_at "st") => `(tactic| refine r_storeN rfl rfl (by kernel_rfl!) (by kernel_rfl!) ?_)
local macro_rules | `(tactic| walk_at "re") => `(tactic| refine r_storeO rfl rfl (by kernel_rfl!) (by walk_at "up") ?_)
local macro_rules | `(tactic| walk_at "as") => `(tactic| refine r_cons (r_assign (by kernel_rfl!) ?_))
local macro_rules | `(tactic| walk_at "sub") => `(tactic| repeat' (first | exact SubB.nil | refine SubB.cons (by walk_at "in") ?_))
local macro_rules | `(tactic| walk_at "sl") => `(tactic| repeat' (first | exact List.Sublist.refl _ | exact List.nil_sublist _ | refine List.Sublist.cons_cons _ ?_ | refine List.Sublist.cons _ ?_))
section
variable {prog : Program} {w : World} {A : Around} {env : Env} {g : Heap} {L : Addr} {b : Bd} {N : Lg} {n : Nat}
theorem r_dict2 {k1 k2 v1 v2 : Str} {i1 i2 i3 i4 : Nat} {a1 a2 a3 a4 pos : Pos} {K : Value → Bd → Lg → Prop} (hk : k1 ≠ k2)
    (k : ∀ d o t1 t2, o.IsDictOf (strKind prog w) [(k1, .str v1 t1), (k2, .str v2 t2)] → K (.ref d) b ((d, o) :: N)) :
    Run prog w A g L (eval (.Dict [some (.Constant (.str k1) i1 a1), some (.Constant (.str k2) i2 a2)] [.Constant (.str v1) i3 a3, .Constant (.str v2) i4 a4] pos) env) K b N := .mk fun s St => by
  refine wpAny_Dict_walk (knd := strKind prog w) rfl rfl (by simp) (by simp) ?_
  refine evalPairs_cons (Calls.Constant_str (wpAny_bind (Calls.Constant_str (wpAny_bind (wpAny_standAt (wpAny_pure ?_))))))
  refine evalPairs_cons (Calls.Constant_str (wpAny_bind (Calls.Constant_str (wpAny_bind (wpAny_standAt (wpAny_pure (evalPairs_nil ?_)))))))
  refine ⟨[(k1, _), (k2, _)], ⟨strKind_is _ _ _ _, rfl, strKind_is _ _ _ _, rfl, trivial⟩, Heap.DictOf.new _, fun h' hd hs => ?_⟩
  obtain ⟨o, ho, hd'⟩ := Heap.dictOf_iff.mp hd
  have em : ∀ (x y : Value), merged [] [(k1, x), (k2, y)] = [(k1, x), (k2, y)] := fun x y => by simp [merged, stored, hk]
  rw [em] at hd'
  exact ⟨h', _, _, _, rfl, (St.st.push { cls := .type "dict", data := .dict #[] }).sameBut Up.head hs ho, k _ o _ _ hd'⟩
theorem r_dictSet {d : Addr} {o : Obj} {x : Str} {t : Tok} {v : Value} {kvs : List (Str × Value)} {f : Obj → Lg} {K : Unit → Bd → Lg → Prop} (hz : ∀ o o', Up d o o' (f o) (f o')) (hd : o.IsDictOf (strKind prog w) kvs) (hl : kvs.length ≤ 100)
    (k : ∀ o', o'.IsDictOf (strKind prog w) (stored kvs x v) → K () b (f o')) : Run prog w A g L (setItem (.ref d) (.str x t) v) K b (f o) := .mk fun s St => by
  refine wpAny_setItem_pairs (hsz := sz (by omega)) (strKind_is prog w x t) (Heap.dictOf_iff.mpr ⟨o, St.get (hz o o).mem, hd⟩) fun h' hd' hs => ?_
  obtain ⟨o', ho', hd''⟩ := Heap.dictOf_iff.mp hd'
  exact ⟨h', _, _, _, rfl, St.st.sameBut (hz o o') hs ho', k o' hd''⟩
theorem r_dictGet {d : Addr} {o : Obj} {x : Str} {t : Tok} {v : Value} {kvs : List (Str × Value)} {value slice : Expr} {K : Value → Bd → Lg → Prop} (hm : (d, o) ∈ N) (hd : o.IsDictOf (strKind prog w) kvs) (hv : valueAt kvs x = some v)
    (hs : subscripted slice false (.ref d) (.str x t) = operate [.ref d, .str x t] (getItem (.ref d) (.str x t))) (k : K v b N) : Run prog w A g L (subscriptTail value slice (.ref d) (.str x t)) K b N :=
  .still (fun _ => v) (fun _ => k) fun s Q St h => by
    have hD : s.heap.DictOf (strKind prog w) d kvs := Heap.dictOf_iff.mpr ⟨o, St.get hm, hd⟩
    exact tail_any hD.typeIs slot_dict_getitem.lookup (wpAny_getItem_of (strKind_is prog w x t) hD.mapOf hv (h s.toks _)) hs
end
def kv2 (ns : List Int) (cs : List Bool) (i : Nat) (t u : Tok) : List (Str × Value) := [(ab [false], .str (nm (bit ns cs i false) false) t), (ab [true], .str (nm (bit ns cs i true) true) u)]
theorem kv2_get (ns : List Int) (cs : List Bool) (i : Nat) (t u : Tok) (c : Bool) : valueAt (kv2 ns cs i t u) (ab [c]) = some (.str (nm (bit ns cs i c) c) (if c then u else t)) := by
  cases c <;> rfl
theorem ab_ne : ab [false] ≠ ab [true] := by decide
theorem kv2_set {ns : List Int} {cs : List Bool} {i : Nat} {c : Bool} (t u v : Tok) (h : cs[i]? = some c) : ∃ t' u', stored (kv2 ns cs i t u) (ab [c]) (.str (nm (upb ns i) c) v) = kv2 ns cs (i + 1) t' u' := by
  obtain ⟨s1, s2, s3, s4, s5⟩ := bit_same (ns := ns) h
  cases c
  · refine ⟨v, u, ?_⟩
    rw [Bool.not_false] at s3
    simp [stored, kv2, ab_ne, ab_ne.symm, s1, s3]
  · refine ⟨t, v, ?_⟩
    rw [Bool.not_true] at s3
    simp [stored, kv2, ab_ne, ab_ne.symm, s1, s3]
theorem r_neg {prog : Program} {w : World} {A : Around} {env : Env} {g : Heap} {L : Addr} {b : Bd} {N : Lg} {i : Int} {k : Nat} {p pos : Pos} {K : Value → Bd → Lg → Prop} (kk : ∀ u, K (.int (-i) u) b N) : Run prog w A g L (eval (.UnaryOp .USub (.Constant (.int i) k p) pos) env) K b N := by
  rw [arm_eval_UnaryOp]
  exact Run.bind (r_cint fun _ => Run.bind (r_stand (Run.holding (.still (fun u => .int (-i) u) kk fun _ _ _ h => PyProof.Rows.neg_int (h _ _)))))
variable {w : World} {A : Around} {env : Env} {g : Heap} {L : Addr} {b : Bd} {N : Lg} {n : Nat}
theorem due_run {ns : List Int} {cs : List Bool} {vs : List Value} {l : Addr} {cap : Nat} {t th tt : Tok} {xh xt : Str} {K : Value → Bd → Lg → Prop} (O : Okay (Mine.hd.heap_39 w.params) (n+2) A env g L)
    (hm : (l, lstO vs cap) ∈ N) (hi : IntsAre vs ns) (hn0 : 0 < ns.length) (hn : ns.length ≤ 100) (hc : cs.length ≤ 100) (hc0 : 0 < cs.length)
    (k : ∀ d p1 p2 t1 t2 t3 t4, K (.ref d) b ((d, lstO [.ref p1, .ref p2] 0) :: (p2, ent (nm (bit ns cs cs.length (!fstL cs cs.length)) (!fstL cs cs.length)) (if fstL cs cs.length then xh else xt) t3 t4) :: (p1, ent (nm (bit ns cs cs.length (fstL cs cs.length)) (fstL cs cs.length)) (if fstL cs cs.length then xt else xh) t1 t2) :: N)) :
    Run PySem.Challenge.rw_pk0110_01.row.prog w A g L (call (.ref 231) [.ref l, .str (ab cs) t, .str xh th, .str xt tt]) K b N := by
  refine Run.drop (r_enter [(Str.ofString "numbers", .ref l), (Str.ofString "steps", .str (ab cs) t), (Str.ofString "head", .str xh th), (Str.ofString "tail", .str xt tt)] O (by rfl) (by rfl) (fun s _ => BindsTo.of_eq (by rfl)) (locs (by rfl)) (by rfl) (by rfl) (by rfl) (by decide) (by kernel_rfl!) ?_)
  rintro g' L' A' env' rfl O'
  walk_at "as"
  refine r_dict2 (by decide) fun d o ta tb hd => ?_
  walk_at "st"
  have hd0 : o.IsDictOf (strKind PySem.Challenge.rw_pk0110_01.row.prog w) (kv2 ns cs 0 ta tb) := by
    have e : kv2 ns cs 0 ta tb = [(Str.ofString "a", .str (Str.ofString "a") ta), (Str.ofString "b", .str (Str.ofString "b") tb)] := by rw [ab_a1, ab_b1]; rfl
    rw [e]; exact hd
  refine r_cons (r_for (by intro _; rfl) (r_call (by kernel_rfl!) (r_blt O' (by kernel_rfl!) (by kernel_rfl!) (by kernel_rfl!) rfl (by decide) (r_cwT (by kernel_rfl!) (by kernel_rfl!) (r_scons (by kernel_rfl!) ?_)))))
  walk_at "nm"
  refine r_snil (r_enumS fun e it o2 hsi => r_enumSelf List.mem_cons_self ?_)
  refine ⟨fun m b' N' => ∃ i o' old od tc td, SI (ab cs) t i o' ∧ m + i = cs.length ∧ od.IsDictOf (strKind PySem.Challenge.rw_pk0110_01.row.prog w) (kv2 ns cs i tc td) ∧ b' = [(Str.ofString "numbers", .ref l), (Str.ofString "steps", .str (ab cs) t), (Str.ofString "head", .str xh th), (Str.ofString "tail", .str xt tt), (Str.ofString "names", .ref d)] ∧ N' = (e, enO it i old) :: (it, o') :: (d, od) :: N, cs.length, ⟨_, _, ⟨0, o2, .none, o, ta, tb, hsi, by omega, hd0, rfl, rfl⟩, by walk_at "sub", by kernel_rfl!, .refl _⟩, ?_⟩
  rintro m b' N' ⟨i, o', old, od, tc, td, hsi', hmi, hdd, rfl, rfl⟩
  by_cases hend : i = cs.length
  · subst hend
    refine r_enumEndS O'.hh (by have : (ab cs).cps.size = cs.length := ab_len cs; rw [this]; exact hsi') ?_
    dsimp only
    obtain ⟨m0, hm0⟩ : ∃ m0, cs.length = m0 + 1 := ⟨cs.length - 1, by omega⟩
    obtain ⟨c, hcx⟩ : ∃ c, cs[m0]? = some c := ⟨cs[m0]'(by omega), by simp⟩
    have s5 : fstL cs cs.length = !c := by rw [hm0]; exact (bit_same (ns := ns) hcx).2.2.2.2
    refine r_cons (r_if (r_tcmp (by kernel_rfl!) (r_sub ?_)))
    walk_at "nm"
    refine r_neg fun _ => r_strIt (c := code c) (by omega) ?_ (by kernel_rfl!) fun _ => r_cstr fun _ => s_eq (r_tbool ?_)
    · have el : (ab cs).length = m0 + 1 := by rw [ab_len, hm0]
      have : seqIndex? (-1) (ab cs).length = some m0 := by
        unfold seqIndex?; rw [el]; simp; omega
      rw [this]; exact ab_get hcx
    rw [ab_a1, ← ab_one, nm_eq]
    rw [s5] at k
    cases c
    · rw [if_pos (by rfl)]
      simp only [Bool.not_false, Bool.not_true, if_true] at k
      refine r_cons (r_ret (r_list (r_scons (by kernel_rfl!) (r_tuple (r_scons (by kernel_rfl!) (r_sub ?_))))))
      walk_at "nm"
      refine r_cstr fun _ => ?_
      rw [ab_b1]
      refine r_dictGet (.head _) hdd (kv2_get ns cs _ tc td true) (by kernel_rfl!) (r_scons (by kernel_rfl!) ?_)
      walk_at "nm"
      refine r_snil (r_ntup (sz (by simp)) fun p1 => r_scons (by kernel_rfl!) (r_tuple (r_scons (by kernel_rfl!) (r_sub ?_))))
      walk_at "nm"
      refine r_cstr fun _ => ?_
      refine r_dictGet (.tail _ (.head _)) hdd (kv2_get ns cs _ tc td false) (by kernel_rfl!) (r_scons (by kernel_rfl!) ?_)
      walk_at "nm"
      refine r_snil (r_ntup (sz (by simp)) fun p2 => r_snil (r_nlist (sz (by simp)) fun dd => ?_))
      exact ⟨_, k dd p1 p2 _ _ _ _, .cons_cons _ (.cons_cons _ (.cons_cons _ (.cons _ (.refl _))))⟩
    · rw [if_neg (by simp)]
      simp only [Bool.not_false, Bool.not_true, Bool.false_eq_true, if_false] at k
      refine r_nil ?_
      dsimp only
      refine r_cons (r_ret (r_list (r_scons (by kernel_rfl!) (r_tuple (r_scons (by kernel_rfl!) (r_sub ?_))))))
      walk_at "nm"
      refine r_cstr fun _ => ?_
      refine r_dictGet (.head _) hdd (kv2_get ns cs _ tc td false) (by kernel_rfl!) (r_scons (by kernel_rfl!) ?_)
      walk_at "nm"
      refine r_snil (r_ntup (sz (by simp)) fun p1 => r_scons (by kernel_rfl!) (r_tuple (r_scons (by kernel_rfl!) (r_sub ?_))))
      walk_at "nm"
      refine r_cstr fun _ => ?_
      rw [ab_b1]
      refine r_dictGet (.tail _ (.head _)) hdd (kv2_get ns cs _ tc td true) (by kernel_rfl!) (r_scons (by kernel_rfl!) ?_)
      walk_at "nm"
      refine r_snil (r_ntup (sz (by simp)) fun p2 => r_snil (r_nlist (sz (by simp)) fun dd => ?_))
      exact ⟨_, k dd p1 p2 _ _ _ _, .cons_cons _ (.cons_cons _ (.cons_cons _ (.cons _ (.refl _))))⟩
  · obtain ⟨c, hcx⟩ : ∃ c, cs[i]? = some c := ⟨cs[i]'(by omega), by simp⟩
    refine r_enumNextS O'.hh hsi' (ab_get hcx) fun T o2 tu tv hsi2 => ?_
    dsimp only
    refine r_goEnum (r_asTuple O'.hh List.mem_cons_self (by rfl) (by rfl) (r_aioCons (r_asName ?_)))
    walk_at "st"
    refine r_aioCons (r_asName ?_)
    walk_at "st"
    refine r_aioNil ?_
    have hone : (⟨#[code c]⟩ : Str) = ab [c] := (ab_one c).symm
    rw [hone]
    refine r_cons (r_assignS (by kernel_rfl!) (r_call (by kernel_rfl!) (r_glob O' (by kernel_rfl!) (by kernel_rfl!) (by rfl) (r_cwK O' (by kernel_rfl!) (by kernel_rfl!) (by kernel_rfl!) (r_scons (by kernel_rfl!) ?_)))))
    walk_at "nm"
    refine r_scons (by kernel_rfl!) ?_
    walk_at "nm"
    refine r_scons (by kernel_rfl!) ?_
    walk_at "nm"
    refine r_snil (spelled_run O' (.tail _ (.tail _ (.tail _ (.tail _ hm)))) hi hn0 hn (by omega) fun vs' => ?_)
    walk_at "nm"
    walk_at "nm"
    refine r_dictSet (f := fun oo => (T, tupO [.int i tu, .str (ab [c]) tv]) :: (e, enO it ((i : Int) + 1) (.str (ab [c]) tv)) :: (it, o2) :: (d, oo) :: N) (fun _ _ => .tail (.tail (.tail .head))) hdd (by simp [kv2]) fun od2 hdd2 => r_nil ?_
    obtain ⟨t', u', es⟩ := kv2_set (ns := ns) tc td vs' hcx
    rw [es] at hdd2
    have eI : ((i : Int) + 1) = ((i + 1 : Nat) : Int) := by push_cast; rfl
    rw [eI]
    exact ⟨_, _, ⟨m - 1, by omega, i + 1, o2, _, od2, t', u', hsi2, by omega, hdd2, rfl, rfl⟩, by walk_at "sub", by kernel_rfl!, .cons _ (.refl _)⟩
end Mine

end
section
open PySem PySem.W PyProof.Rows PySem.Calls
set_option maxHeartbeats 4000000
namespace Mine
section
variable {prog : Program} {w : World} {F : Frag} {n : Nat} {A : Around} {g : Heap} {L : Addr} {b : Bd} {N N' : Lg} {env : Env} {s : Shared} {K : Value → Bd → Lg → Prop}
theorem r_lstAdd {l c : Addr} {vs ws : List Value} {ns ms : List Int} {c1 c2 : Nat} (h1 : (l, lstO vs c1) ∈ N) (h2 : (c, lstO ws c2) ∈ N) (hi : IntsAre vs ns) (hj : IntsAre ws ms) (hz : ns.length + ms.length ≤ 1000)
    (k : ∀ d, IntsAre (vs ++ ws) (ns ++ ms) → K (.ref d) b ((d, lstO (vs ++ ws) 0) :: N)) : Run prog w A g L (binaryOp .Add (.ref l) (.ref c)) K b N := .mk fun s St => by
  obtain ⟨m, Fm, hb⟩ := id St.st.fr
  exact add_lists_ints (hsz := sz (by omega)) Fm St.st.news ⟨_, St.get h1, rfl, c1, rfl⟩ ⟨_, St.get h2, rfl, c2, rfl⟩ hi hj fun h' F' N' hij => ⟨h', s.toks, _, _, rfl, St.st.newAt hb F' N', k _ hij⟩
theorem r_index {l : Addr} {vs : List Value} {ns : List Int} {c : Nat} {x : Int} {t : Tok} (hm : (l, lstO vs c) ∈ N) (hi : IntsAre vs ns) (hlay : PyData.layable0 (.list (ns.map .int)) = true) (hk : x ∈ ns) (k : ∀ u, K (.int (ns.idxOf x : Nat) u) b N) :
    Run prog w A g L (call (.builtin "list.index") [.ref l, .int x t]) K b N :=
  .still (fun u => .int (ns.idxOf x : Nat) u) k fun s _ St h => index_list_ints ⟨_, St.get hm, rfl, c, rfl⟩ hi hlay hk (h _ _)
theorem TextsAre.strs : ∀ {vs : List Value} {xs : List Str}, TextsAre vs xs → StrsAre vs xs
  | _, _, .nil => .nil
  | _, _, .cons x t h => .cons x t h.strs
theorem TextsAre.ofStrs : ∀ {vs : List Value} {xs : List Str}, StrsAre vs xs → TextsAre vs xs
  | _, _, .nil => .nil
  | _, _, .cons x t h => .cons x t (TextsAre.ofStrs h)
theorem r_sorted {l : Addr} {vs : List Value} {ss : List Str} {c : Nat} (hm : (l, lstO vs c) ∈ N) (hS : TextsAre vs ss) (h64 : vs.length < 64)
    (k : ∀ d vs' ss' c', TextsAre vs' ss' → ss'.Perm ss → sortedS ss' = true → K (.ref d) b ((d, lstO vs' c') :: N)) : Run prog w A g L (call (.builtin "sorted") [.ref l]) K b N := .mk fun s St => by
  refine sorted_strs ⟨_, St.get hm, rfl, c, rfl⟩ hS.strs h64 fun out ss' a1 a2 a3 => ?_
  obtain ⟨e, he⟩ := sortedAll_at s.heap vs out
  obtain ⟨m, Fm, _⟩ := id St.st.fr
  have hLz : L < s.heap.objs.size := by obtain ⟨oL, _, _, hL, _⟩ := Fm.ns; exact Heap.lt_size hL
  have hgz : g.objs.size ≤ s.heap.objs.size := Nat.le_trans Fm.above (Nat.le_of_lt hLz)
  have S1 := (St.st.grow fun _ _ => sortedAll_old).fresh (T := s.heap.objs.size + 1) (o := lstO out.toList e) (fun p hp => Nat.ne_of_lt (Nat.lt_succ_of_lt (Heap.lt_size (St.st.news p hp).1))) (Nat.ne_of_gt (Nat.lt_succ_of_lt hLz)) (Heap.get?_none_of_le (Nat.le_succ_of_le hgz)) (by rw [he]; simp [lstO, seqObj])
  exact ⟨_, s.toks, _, _, rfl, S1, k _ _ ss' e (TextsAre.ofStrs a1) a2 a3⟩
theorem r_star {e : Expr} {pos p : Pos} {vs : List Value} {a : Addr} {c : Nat} {K : List Value → Bd → Lg → Prop} (he : starEach [.Starred e p] env = (true, eval e env) :: starEach [] env)
    (h : Run prog w A g L (eval e env) (fun v b' N' => v = .ref a ∧ (a, lstO vs c) ∈ N' ∧ K vs b' N') b N) (hz : vs.length ≤ 1000) : Run prog w A g L (spliced (backTo pos (starEach [.Starred e p] env))) K b N := .mk fun s St => by
  refine items_star (h.use St fun v h1 t1 b1 N1 S1 k => ?_) he
  obtain ⟨rfl, hm, k⟩ := k
  obtain ⟨m, Fm, hb⟩ := id S1.st.fr
  refine star_seq (ws := vs) Fm S1.st.news hm rfl rfl (.inl rfl) rfl (by rw [List.size_toArray]; exact sz (by omega)) fun h' F' N' => ?_
  refine spliced_none ?_
  rw [List.append_nil]
  exact ⟨h', t1, _, _, rfl, ⟨⟨m, F', hb⟩, N', S1.st.nd, S1.st.bn⟩, k⟩
theorem r_cwS {pos : Pos} {f : Value} {first : List Value} {e : Expr} {rest : List Expr} (O : Okay F n A env g L) (hk : keepIn F f = true) (he : starEach (e :: rest) env = (false, eval e env) :: starEach rest env) (hp : (backTo pos (starEach rest env)).any (·.1) = true)
    (h : Run prog w A g L (spliced (backTo pos (starEach (e :: rest) env))) (fun vs => Run prog w A g L (call f (first ++ vs)) K) b N) : Run prog w A g L (callWith pos f first (backTo pos (starEach (e :: rest) env)) []) K b N :=
  .mk fun _ St => callWith_S2 O.X hk (h.use St fun _ _ _ _ _ S1 r1 => ⟨O.X.keeps S1.keep, r1.use S1 fun v h' tk b' N' S' k => done' v h' tk b' N' S' k⟩) he hp
theorem eqEnt {p q : Addr} {x y : Str} {t1 t2 u1 u2 : Tok} (hu : A.units < cLine) (hp : s.heap.get? p = some (ent x y t1 t2)) (hq : s.heap.get? q = some (ent x y u1 u2)) : SeqAt.EqAt A s (.ref p) (.ref q) true := by
  by_cases e : p = q
  · subst e; exact SeqAt.EqAt.same _
  refine SeqAt.EqAt.of_refs e ?_
  have r := SeqAt.RcAt.tuples (A := A) (s := s) (e := fun _ => true) (items := #[.str x t1, .str y t2]) (items2 := #[.str x u1, .str y u2]) ⟨_, hp, rfl, 0, rfl⟩ ⟨_, hq, rfl, 0, rfl⟩ hu (fun j h1 h2 => ?_)
  · exact r
  · match j with
    | 0 => have := SeqAt.EqAt.str_str (A := A.in1) (s := s) x t1 x u1; rwa [beq_self_eq_true] at this
    | 1 => have := SeqAt.EqAt.str_str (A := A.in1) (s := s) y t2 y u2; rwa [beq_self_eq_true] at this
    | j + 2 => exact absurd h1 (by simp)
theorem r_eqEnts {d e p1 p2 q1 q2 : Addr} {c1 c2 : Nat} {x1 y1 x2 y2 : Str} {t1 t2 t3 t4 u1 u2 u3 u4 : Tok} (hu : A.units + 4 < cLine) (hd : (d, lstO [.ref p1, .ref p2] c1) ∈ N) (he : (e, lstO [.ref q1, .ref q2] c2) ∈ N)
    (h1 : (p1, ent x1 y1 t1 t2) ∈ N) (h2 : (p2, ent x2 y2 t3 t4) ∈ N) (h3 : (q1, ent x1 y1 u1 u2) ∈ N) (h4 : (q2, ent x2 y2 u3 u4) ∈ N)
    (k : K (.bool true) b N) : Run prog w A g L (compareOp .Eq (.ref d) (.ref e)) K b N :=
  .still (fun _ => .bool true) (fun _ => k) fun s Q St h => by
    have r := SeqAt.RcAt.lists (A := A) (s := s) (l := d) (b := e) (e := fun _ => true) (items := #[.ref p1, .ref p2]) (items2 := #[.ref q1, .ref q2]) ⟨_, St.get hd, rfl, c1, rfl⟩ ⟨_, St.get he, rfl, c2, rfl⟩ rfl (by omega) (fun j a1 a2 => ?_)
    · exact cmp_ofEq (r prog w _ Q (h s.toks s.toks))
    · match j with
      | 0 => exact eqEnt (by show A.units + 1 < cLine; omega) (St.get h1) (St.get h3)
      | 1 => exact eqEnt (by show A.units + 1 < cLine; omega) (St.get h2) (St.get h4)
      | j + 2 => exact absurd a1 (by simp)
end
end Mine

end
section
open PySem PySem.W PyProof.Rows PySem.Calls
set_option maxHeartbeats 4000000
namespace Mine
open Builtin Builtin.Str
theorem pick_run {α : Type} (l : List α) (a : Nat) : ∀ c, a + c ≤ l.length → ((List.range c).map (a + ·)).filterMap (l[·]?) = (l.drop a).take c := by
  intro c
  induction c with
  | zero => intro _; simp
  | succ c ih =>
    intro h
    rw [List.range_succ, List.map_append, List.filterMap_append, ih (by omega), List.take_add_one]
    have hlt : a + c < l.length := by omega
    simp [List.getElem?_eq_getElem hlt]
theorem arr_get (x : Str) : (fun i : Nat => x.cps[i]?) = (fun i : Nat => x.cps.toList[i]?) := by funext i; simp
theorem sl_hi {l : List Bool} {k : Nat} {u : Tok} (h : k ≤ l.length) : slTxt (ab l) none (some ((k : Int), u)) none = ab (l.take k) := by
  unfold slTxt
  have e : slicePicked (ab l) none (some ((k : Int), u)) none = (List.range k).map (0 + ·) := by
    unfold slicePicked strSliceIndices
    simp only [Option.map_none, Option.map_some, Option.getD_none]
    have hm : max 0 (min (k : Int) ((ab l).length : Int)) = (k : Int) := by rw [ab_len]; omega
    simp only [show ¬ ((k : Int) < 0) by omega, if_false, show (1 : Int) > 0 by decide, if_true, hm]
    have := sliceRange_one 0 k
    simpa using this
  rw [e]
  split
  · rename_i hc
    simp [ab_len] at hc
    rw [List.take_of_length_le (by omega)]
  · refine str_ext ?_
    rw [arr_get, pick_run _ _ _ (by rw [ab_list]; simp; omega), ab_list, ab_list]
    simp [List.map_take]
theorem sl_lo {l : List Bool} {k : Nat} {u : Tok} (h : k ≤ l.length) : slTxt (ab l) (some ((k : Int), u)) none none = ab (l.drop k) := by
  unfold slTxt
  have e : slicePicked (ab l) (some ((k : Int), u)) none none = (List.range (l.length - k)).map (k + ·) := by
    unfold slicePicked strSliceIndices
    simp only [Option.map_none, Option.map_some, Option.getD_none]
    have hm : max 0 (min (k : Int) ((ab l).length : Int)) = (k : Int) := by rw [ab_len]; omega
    simp only [show ¬ ((k : Int) < 0) by omega, if_false, show (1 : Int) > 0 by decide, if_true, hm]
    rw [ab_len]
    exact sliceRange_one k l.length
  rw [e]
  split
  · rename_i hc
    simp [ab_len] at hc
    have : k = 0 ∨ l.length = 0 := by omega
    rcases this with rfl | h0
    · rfl
    · have : l = [] := by simpa using h0
      subst this; simp
  · refine str_ext ?_
    rw [arr_get, pick_run _ _ _ (by rw [ab_list]; simp; omega), ab_list, ab_list]
    rw [List.take_of_length_le (by simp), List.map_drop]
theorem pick_take (vs : List Value) (k : Nat) : slicePick vs.toArray none (some (k : Int)) none = (vs.take k).toArray := by
  unfold slicePick
  have e : sliceBounds none (some (k : Int)) none vs.toArray.size = (0, ((min k vs.length : Nat) : Int), 1) := by
    unfold sliceBounds
    simp only [Option.getD_none, show (1 : Int) > 0 by decide, if_true, show ¬ ((k : Int) < 0) by omega, if_false, List.size_toArray]
    have : max 0 (min (k : Int) (vs.length : Int)) = ((min k vs.length : Nat) : Int) := by omega
    rw [this]
  rw [e]
  dsimp only
  have h2 := sliceRange_one 0 (min k vs.length)
  have h3 := pick_run vs 0 (min k vs.length) (by omega)
  have h4 : (fun i : Nat => vs.toArray[i]?) = (fun i : Nat => vs[i]?) := by funext i; simp
  simp only [Nat.sub_zero, Int.natCast_zero] at h2
  rw [h4]
  have h2' : sliceRange 0 ((min k vs.length : Nat) : Int) 1 = (List.range (min k vs.length)).map (0 + ·) := h2
  rw [h2', h3, List.drop_zero]
  congr 1
  by_cases h : k ≤ vs.length
  · rw [Nat.min_eq_left h]
  · rw [Nat.min_eq_right (by omega), List.take_of_length_le (by omega), List.take_of_length_le (by omega)]
theorem sl_rev {l : List Bool} {u : Tok} : slTxt (ab l) none none (some (-1, u)) = ab l.reverse := by
  refine str_ext ?_
  have h := step_rev_list (ab l) u
  have e : slTxt (ab l) none none (some (-1, u)) = Txt.sliceBy (ab l) none none (-1, u) := rfl
  rw [e, h, ab_list, ab_len]
  refine List.ext_getElem (by simp) fun i h1 h2 => ?_
  simp at h1
  have hl : l.length - 1 - i < l.length := by omega
  have e2 : (ab l).cps.getD (l.length - 1 - i) 0 = code l[l.length - 1 - i] := by
    have := ab_get (cs := l) (i := l.length - 1 - i) (c := l[l.length - 1 - i]) (by simp)
    rw [Array.getD_eq_getD_getElem?, this]; rfl
  simp only [List.getElem_map, List.getElem_range, e2, List.getElem_reverse]
end Mine

end
section
open PySem PySem.W PyProof.Rows PySem.Calls
set_option maxHeartbeats 16000000
namespace Mine
local macro_rules | `(tactic| walk_at "in") => `(tactic| with_reducible repeat' (first | exact List.mem_cons_self | refine List.mem_cons_of_mem _ ?_))
local macro_rules | `(tactic| walk_at "up") => `(tactic| with_reducible repeat' (first | exact UpB.head | apply UpB.tail))
local macro_rules | `(tactic| walk_at "upo") => `(tactic| with_reducible repeat' (first | exact Up.head | apply Up.tail))
local macro_rules | `(tactic| walk_at "nm") => `(tactic| refine r_local rfl rfl (by kernel_rfl!) (by kernel_rfl!) (by walk_at "in") ?_)
local macro_rules | `(tactic| walk_at "st") => `(tactic| refine r_storeN rfl rfl (by kernel_rfl!) (by kernel_rfl!) ?_)
local macro_rules | `(tactic| walk_at "re") => `(tactic| refine r_storeO rfl rfl (by kernel_rfl!) (by walk_at "up") ?_)
local macro_rules | `(tactic| walk_at "as") => `(tactic| refine r_cons (r_assign (by kernel_rfl!) ?_))
local macro_rules | `(tactic| walk_at "sub") => `(tactic| repeat' (first | exact SubB.nil | refine SubB.cons (by walk_at "in") ?_))
local macro_rules | `(tactic| walk_at "sl") => `(tactic| repeat' (first | exact List.Sublist.refl _ | exact List.nil_sublist _ | refine List.Sublist.cons_cons _ ?_ | refine List.Sublist.cons _ ?_))
theorem fn_of {F : Frag} {f : Addr} {o o' : Obj} (h : F.lookup f = some o) (h' : F.lookup f = some o') : o = o' := Option.some.inj (h.symm.trans h')
def pP (n0 : Int) : Nat := 4 * 2 ^ (n0.fmod 4).toNat
def pQ (n0 : Int) : Nat := ((n0.fdiv 4).fmod ((pP n0 / 2 : Nat) : Int)).toNat
def pL (n0 : Int) : Nat := 1 + pQ n0 * 2
def pS (n0 : Int) : Nat := ((n0.fdiv 64).fmod (pP n0 : Int)).toNat
theorem pP_parts (n0 : Int) : Fl.Parts (pP n0) := by
  have h1 : 0 ≤ n0.fmod 4 := by rw [Int.fmod_eq_emod_of_nonneg _ (by omega)]; omega
  have h2 : n0.fmod 4 < 4 := by rw [Int.fmod_eq_emod_of_nonneg _ (by omega)]; omega
  have : (n0.fmod 4).toNat = 0 ∨ (n0.fmod 4).toNat = 1 ∨ (n0.fmod 4).toNat = 2 ∨ (n0.fmod 4).toNat = 3 := by omega
  unfold pP Fl.Parts
  rcases this with h | h | h | h <;> rw [h] <;> simp
theorem pQ_lt (n0 : Int) : pQ n0 < pP n0 / 2 ∧ (n0.fdiv 4).fmod ((pP n0 / 2 : Nat) : Int) = (pQ n0 : Int) := by
  have hP := pP_parts n0
  have hp : (0 : Int) < ((pP n0 / 2 : Nat) : Int) := by rcases hP with h | h | h | h <;> rw [h] <;> decide
  have e := Int.fmod_eq_emod_of_nonneg (n0.fdiv 4) (Int.le_of_lt hp)
  unfold pQ
  rw [e]
  have h1 := Int.emod_nonneg (n0.fdiv 4) (b := ((pP n0 / 2 : Nat) : Int)) (by omega)
  have h2 := Int.emod_lt_of_pos (n0.fdiv 4) hp
  omega
theorem pS_lt (n0 : Int) : pS n0 < pP n0 ∧ (n0.fdiv 64).fmod (pP n0 : Int) = (pS n0 : Int) := by
  have hP := pP_parts n0
  have hp : (0 : Int) < (pP n0 : Int) := by rcases hP with h | h | h | h <;> rw [h] <;> decide
  have e := Int.fmod_eq_emod_of_nonneg (n0.fdiv 64) (Int.le_of_lt hp)
  unfold pS
  rw [e]
  have h1 := Int.emod_nonneg (n0.fdiv 64) (b := (pP n0 : Int)) (by omega)
  have h2 := Int.emod_lt_of_pos (n0.fdiv 64) hp
  omega
theorem app_nil_str (x : Str) : x ++ ab [] = x := str_ext (by rw [app_list, ab_list]; simp)
theorem join_ab : ∀ ls : List (List Bool), Str.join (Str.ofString "") (ls.map ab) = ab ls.flatten
  | [] => by rw [ab_nil]; rfl
  | [p] => by simp [Str.join]
  | p :: q :: r => by
    have ih := join_ab (q :: r)
    rw [List.map_cons] at ih
    show ab p ++ Str.ofString "" ++ Str.join (Str.ofString "") (ab q :: r.map ab) = _
    rw [ih, ab_nil, app_nil_str, ab_app]; rfl
theorem len_ab : ∀ ls : List (List Bool), ((ls.map ab).map (·.length)).sum = ls.flatten.length
  | [] => rfl
  | p :: r => by simp only [List.map_cons, List.sum_cons, len_ab r, ab_len, List.flatten_cons, List.length_append]
theorem joinOk_ab {ls : List (List Bool)} (h : ls.flatten.length ≤ 2000) : JoinOk (Str.ofString "") (ls.map ab) = true := by
  refine joinOk_of ?_
  have e : (Str.ofString "").length = 0 := by decide
  rw [e, len_ab]; omega
def wb (P leap h : Nat) : Bool := decide (P - leap ≤ h)
def wl (P leap start i : Nat) : List (List Bool) := (List.range i).map fun k => [wb P leap ((start + k * leap) % P)]
theorem wl_succ (P leap start i : Nat) : wl P leap start (i + 1) = wl P leap start i ++ [[wb P leap ((start + i * leap) % P)]] := by simp [wl, List.range_succ]
theorem wl_len (P leap start i : Nat) : (wl P leap start i).length = i := by simp [wl]
theorem wl_flat (P leap start i : Nat) : (wl P leap start i).flatten = (List.range i).map fun k => wb P leap ((start + k * leap) % P) := by
  induction i with
  | zero => rfl
  | succ i ih => rw [wl_succ, List.flatten_append, ih, List.range_succ, List.map_append]; rfl
theorem TextsAre.snoc {vs : List Value} {ls : List (List Bool)} {p : List Bool} {u : Tok} (h : TextsAre vs (ls.map ab)) : TextsAre (vs ++ [.str (ab p) u]) ((ls ++ [p]).map ab) := by
  rw [List.map_append]; exact h.append (.cons _ _ .nil)
end Mine

end
section
open PySem PySem.W PyProof.Rows PySem.Calls
set_option maxHeartbeats 4000000
namespace Mine
theorem rep_app (c : Bool) (l r : List Bool) : rep c (l ++ r) = rep c l ++ rep c r := by simp [rep]
theorem repAll_app : ∀ (cs l r : List Bool), repAll cs (l ++ r) = repAll cs l ++ repAll cs r
  | [], _, _ => rfl
  | c :: cs, l, r => by show repAll cs (rep c (l ++ r)) = _; rw [rep_app, repAll_app]; rfl
theorem repAll_nil : ∀ cs : List Bool, repAll cs [] = []
  | [] => rfl
  | c :: cs => repAll_nil cs
theorem repAll_flat (cs : List Bool) : ∀ l : List Bool, repAll cs l = l.flatMap fun c => repAll cs [c]
  | [] => repAll_nil cs
  | c :: l => by
    have : c :: l = [c] ++ l := rfl
    rw [this, repAll_app, repAll_flat cs l]; rfl
def csP (P leap : Nat) : List Bool := eu 64 ((P : Int) - leap) leap
def phi (P leap : Nat) (c : Bool) : List Bool := repAll (csP P leap).reverse [c]
/-- the word begun at the hue h -/
def rot (P leap h : Nat) : List Bool := (List.range P).map fun j => wb P leap ((h + j * leap) % P)
def le2 : List Bool → List Bool → Bool
  | [], _ => true
  | _ :: _, [] => false
  | a :: l, b :: r => if a = b then le2 l r else (!a && b)
def rising : List (List Bool) → Bool
  | a :: b :: r => le2 a b && rising (b :: r)
  | _ => true
def okP (P leap : Nat) : Bool :=
  (phi P leap false ++ phi P leap true == rot P leap 0) && (tx (csP P leap) (csP P leap).length false == phi P leap false) && (tx (csP P leap) (csP P leap).length true == phi P leap true)
  && (List.range ((csP P leap).length + 1)).all (fun i => decide ((tx (csP P leap) i false ++ tx (csP P leap) i true).length ≤ 1000)) && decide (0 < (csP P leap).length) && decide ((csP P leap).length ≤ 64)
  && ((List.range P).map (fun p => p * leap % P)).isPerm (List.range P) && rising ((List.range P).map (rot P leap)) && ((phi P leap false).length * leap % P == 1) && decide (0 < (phi P leap false).length) && decide (0 < (phi P leap true).length)
def pairsP : List (Nat × Nat) := [4, 8, 16, 32].flatMap fun P => (List.range (P / 2)).map fun q => (P, 1 + q * 2)
theorem ok_all : (pairsP.all fun p => okP p.1 p.2) = true := by decide +kernel
theorem rot_len (P leap h : Nat) : (rot P leap h).length = P := by simp [rot]
theorem rot_get {P leap h j : Nat} (hj : j < P) : (rot P leap h)[j]? = some (wb P leap ((h + j * leap) % P)) := by simp [rot, hj]
theorem rot_rot {P leap h k : Nat} (hk : k ≤ P) (hP : 0 < P) : (rot P leap h).drop k ++ (rot P leap h).take k = rot P leap ((h + k * leap) % P) := by
  refine List.ext_getElem? fun j => ?_
  by_cases hj : j < P
  · rw [rot_get hj]
    have em : ∀ a, (h + k * leap) % P + j * leap = a → (a) % P = (h + (k + j) * leap) % P := by
      rintro _ rfl
      rw [Nat.add_mod, Nat.mod_mod, ← Nat.add_mod, Nat.add_mul, Nat.add_assoc]
    rw [em _ rfl]
    by_cases h1 : j < P - k
    · rw [List.getElem?_append_left (by rw [List.length_drop, rot_len]; exact h1), List.getElem?_drop, rot_get (by omega)]
    · rw [List.getElem?_append_right (by rw [List.length_drop, rot_len]; omega), List.length_drop, rot_len, List.getElem?_take, if_pos (by omega), rot_get (by omega)]
      have e2 : (k + j) * leap = (j - (P - k)) * leap + P * leap := by rw [← Nat.add_mul]; congr 1; omega
      rw [e2, ← Nat.add_assoc, Nat.add_mul_mod_self_left]
  · rw [List.getElem?_eq_none_iff.mpr (by rw [List.length_append, List.length_drop, List.length_take, rot_len]; omega), List.getElem?_eq_none_iff.mpr (by rw [rot_len]; omega)]
theorem in_pairs {P q : Nat} (hP : Fl.Parts P) (hq : q < P / 2) : okP P (1 + q * 2) = true := by
  have h := List.all_eq_true.mp ok_all (P, 1 + q * 2) (by
    unfold pairsP
    refine List.mem_flatMap.mpr ⟨P, ?_, List.mem_map.mpr ⟨q, List.mem_range.mpr hq, rfl⟩⟩
    rcases hP with rfl | rfl | rfl | rfl <;> simp)
  exact h
/-- the plain facts of a pair -/
structure Pair (P leap : Nat) : Prop where
  home : phi P leap false ++ phi P leap true = rot P leap 0
  txa : ∀ c, tx (csP P leap) (csP P leap).length c = phi P leap c
  short : ∀ i, i ≤ (csP P leap).length → (tx (csP P leap) i false ++ tx (csP P leap) i true).length ≤ 1000
  pos : 0 < (csP P leap).length
  len : (csP P leap).length ≤ 64
  perm : ((List.range P).map (fun p => p * leap % P)).Perm (List.range P)
  ris : rising ((List.range P).map (rot P leap)) = true
  inv : (phi P leap false).length * leap % P = 1
theorem pair_of {P leap : Nat} (h : okP P leap = true) : Pair P leap := by
  unfold okP at h
  simp only [Bool.and_eq_true, beq_iff_eq, decide_eq_true_eq, List.all_eq_true] at h
  obtain ⟨⟨⟨⟨⟨⟨⟨⟨⟨⟨h1, h2⟩, h3⟩, h4⟩, h5⟩, h6⟩, h7⟩, h8⟩, h9⟩, h10⟩, h11⟩ := h
  refine ⟨h1, fun c => by cases c; exact h2; exact h3, fun i hi => h4 i (List.mem_range.mpr (by omega)), h5, h6, List.isPerm_iff.mp h7, h8, h9⟩
end Mine

end
section
open PySem PySem.W PyProof.Rows PySem.Calls
set_option maxHeartbeats 4000000
namespace Mine
theorem sorted_unique {α : Type} (le : α → α → Prop) (anti : ∀ a b, le a b → le b a → a = b) : ∀ l r : List α, l.Pairwise le → r.Pairwise le → l.Perm r → l = r
  | [], r, _, _, hp => (List.nil_perm.mp hp).symm
  | a :: l, [], _, _, hp => absurd hp.length_eq (by simp)
  | a :: l, b :: r, hl, hr, hp => by
    have ha : a ∈ b :: r := hp.mem_iff.mp List.mem_cons_self
    have hb : b ∈ a :: l := hp.mem_iff.mpr List.mem_cons_self
    have hl' := List.pairwise_cons.mp hl
    have hr' := List.pairwise_cons.mp hr
    have e : a = b := by
      rcases List.mem_cons.mp ha with e | ha
      · exact e
      rcases List.mem_cons.mp hb with e | hb
      · exact e.symm
      exact anti a b (hl'.1 b hb) (hr'.1 a ha)
    subst e
    rw [sorted_unique le anti l r hl'.2 hr'.2 ((List.perm_cons a).mp hp)]
def leS (x y : Str) : Prop := x.cps.toList ≤ y.cps.toList
theorem leS_trans {x y z : Str} (h1 : leS x y) (h2 : leS y z) : leS x z := List.le_trans h1 h2
theorem leS_anti (x y : Str) (h1 : leS x y) (h2 : leS y x) : x = y := str_ext (List.le_antisymm h1 h2)
open PySem.Spec in
theorem rise_pw : ∀ (p : Str) (l : List Str), risingS p l = true → (p :: l).Pairwise leS
  | p, [], _ => by simp
  | p, x :: r, h => by
    have h' : (!ltCps x.cps.toList p.cps.toList && risingS x r) = true := h
    rw [Bool.and_eq_true] at h'
    have ih := rise_pw x r h'.2
    have hpx : leS p x := by
      have h1 := h'.1
      rw [ltCps_eq] at h1
      simp only [Bool.not_eq_true', decide_eq_false_iff_not] at h1
      exact List.not_lt.mp h1
    refine List.pairwise_cons.mpr ⟨fun y hy => ?_, ih⟩
    rcases List.mem_cons.mp hy with rfl | hy
    · exact hpx
    · exact leS_trans hpx ((List.pairwise_cons.mp ih).1 y hy)
theorem sorted_pw : ∀ l : List Str, sortedS l = true → l.Pairwise leS
  | [], _ => .nil
  | p :: l, h => rise_pw p l h
theorem le2_le : ∀ l r : List Bool, le2 l r = true → leS (ab l) (ab r)
  | [], r, _ => by unfold leS; rw [ab_list, ab_list]; exact List.nil_le _
  | a :: l, [], h => by cases h
  | a :: l, b :: r, h => by
    unfold leS
    rw [ab_list, ab_list, List.map_cons, List.map_cons]
    unfold le2 at h
    by_cases e : a = b
    · rw [if_pos e] at h
      have ih := le2_le l r h
      unfold leS at ih
      rw [ab_list, ab_list] at ih
      subst e
      exact List.cons_le_cons_iff.mpr (.inr ⟨rfl, ih⟩)
    · rw [if_neg e] at h
      cases a <;> cases b <;> simp at h e
      exact List.le_of_lt (List.Lex.rel (by decide))
theorem rising_pw : ∀ l : List (List Bool), rising l = true → (l.map ab).Pairwise leS
  | [], _ => .nil
  | [a], _ => by simp
  | a :: b :: r, h => by
    have h' : (le2 a b && rising (b :: r)) = true := h
    rw [Bool.and_eq_true] at h'
    have ih := rising_pw (b :: r) h'.2
    have hab := le2_le a b h'.1
    rw [List.map_cons]
    refine List.pairwise_cons.mpr ⟨fun y hy => ?_, ih⟩
    rw [List.map_cons] at hy ih
    rcases List.mem_cons.mp hy with rfl | hy
    · exact hab
    · exact leS_trans hab ((List.pairwise_cons.mp ih).1 y hy)
theorem turns_eq {P leap : Nat} (hp : Pair P leap) {ss : List Str} (h1 : ss.Perm (((List.range P).map fun p => rot P leap (p * leap % P)).map ab)) (h2 : sortedS ss = true) : ss = ((List.range P).map (rot P leap)).map ab := by
  refine sorted_unique leS leS_anti _ _ (sorted_pw _ h2) (rising_pw _ hp.ris) (h1.trans ?_)
  have : ((List.range P).map fun p => rot P leap (p * leap % P)) = ((List.range P).map (fun p => p * leap % P)).map (rot P leap) := by rw [List.map_map]; rfl
  rw [this]
  exact ((hp.perm.map _).map _)
end Mine

end
section
open PySem PySem.W PyProof.Rows PySem.Calls
set_option maxHeartbeats 4000000
namespace Mine
theorem hue_in {P leap start t : Nat} (hp : Pair P leap) (hs : start < P) (ht : t < P) : (t : Int) ∈ hueL P leap start P := by
  have hm : (t + P - start) % P ∈ (List.range P).map (fun p => p * leap % P) := hp.perm.mem_iff.mpr (List.mem_range.mpr (Nat.mod_lt _ (by omega)))
  obtain ⟨p, hpr, he⟩ := List.mem_map.mp hm
  refine List.mem_map.mpr ⟨p, hpr, ?_⟩
  have : (start + p * leap) % P = t := by
    rw [Nat.add_mod, he, ← Nat.add_mod]
    have : start + (t + P - start) = t + P := by omega
    rw [this, Nat.add_mod_right, Nat.mod_eq_of_lt ht]
  rw [this]
theorem hue_idx {P leap start t : Nat} (hp : Pair P leap) (hs : start < P) (ht : t < P) : (hueL P leap start P).idxOf (t : Int) < P ∧ (start + (hueL P leap start P).idxOf (t : Int) * leap) % P = t := by
  have hm := hue_in hp hs ht
  have h1 : (hueL P leap start P).idxOf (t : Int) < (hueL P leap start P).length := List.idxOf_lt_length_iff.mpr hm
  have h2 := List.getElem_idxOf h1
  rw [hueL_len] at h1
  refine ⟨h1, ?_⟩
  generalize (hueL P leap start P).idxOf (t : Int) = i at *
  have h3 : (hueL P leap start P)[i]? = some (((start + i * leap) % P : Nat) : Int) := by simp [hueL, h1]
  have h4 : (hueL P leap start P)[i]? = some (t : Int) := by rw [List.getElem?_eq_getElem (by rw [hueL_len]; exact h1), h2]
  rw [h3] at h4
  have := Option.some.inj h4
  exact_mod_cast this
theorem phi_lt {P leap : Nat} (hp : Pair P leap) (hP : 4 ≤ P) : (phi P leap false).length < P ∧ (phi P leap false).length + (phi P leap true).length = P := by
  have h1 := congrArg List.length hp.home
  rw [List.length_append, rot_len] at h1
  refine ⟨?_, h1⟩
  by_cases h : (phi P leap false).length = P
  · have := hp.inv; rw [h, Nat.mul_mod_right] at this; omega
  · omega
theorem mul_inj {P leap s z : Nat} (hp : Pair P leap) (hs : s < P) (hz : z < P) (h : s * leap % P = z * leap % P) : s = z := by
  have nd : ((List.range P).map (fun p => p * leap % P)).Nodup := hp.perm.nodup_iff.mpr List.nodup_range
  have hi := (List.pairwise_map.mp nd)
  by_cases hlt : s < z
  · have := List.pairwise_iff_getElem.mp hi s z (by simpa using hs) (by simpa using hz) hlt
    simp at this; exact absurd h this
  · by_cases hgt : z < s
    · have := List.pairwise_iff_getElem.mp hi z s (by simpa using hz) (by simpa using hs) hgt
      simp at this; exact absurd h.symm this
    · omega
theorem size_eq {P leap start i j : Nat} (hp : Pair P leap) (hP : 4 ≤ P) (hj : j < P) (h0 : (start + j * leap) % P = 0) (h1 : (start + i * leap) % P = 1) : ((i : Int) - (j : Int)).fmod (P : Int) = ((phi P leap false).length : Int) := by
  have hlt := (phi_lt hp hP).1
  have e : (i + P - j) % P = (phi P leap false).length := by
    refine mul_inj hp (Nat.mod_lt _ (by omega)) hlt ?_
    rw [hp.inv]
    have e1 : (i + P - j) % P * leap % P = (i + P - j) * leap % P := by rw [Nat.mul_mod, Nat.mod_mod, ← Nat.mul_mod]
    rw [e1]
    have e2 : (i + P - j) * leap + (start + j * leap) = (start + i * leap) + P * leap := by
      have : (i + P - j) * leap + j * leap = i * leap + P * leap := by rw [← Nat.add_mul, ← Nat.add_mul]; congr 1; omega
      omega
    have e3 : ((i + P - j) * leap + (start + j * leap)) % P = 1 := by rw [e2, Nat.add_mul_mod_self_left, h1]
    rw [Nat.add_mod, h0, Nat.add_zero, Nat.mod_mod] at e3
    exact e3
  rw [Int.fmod_eq_emod_of_nonneg _ (by omega), ← e]
  have e4 : ((i : Int) - j) = ((i + P - j : Nat) : Int) + (P : Int) * (-1) := by omega
  rw [e4, Int.add_mul_emod_self_left]
  exact (Int.natCast_emod _ _).symm
end Mine

end
section
open PySem PySem.W PyProof.Rows PySem.Calls
set_option maxHeartbeats 16000000
namespace Mine
local macro_rules | `(tactic| walk_at "in") => `(tactic| with_reducible repeat' (first | exact List.mem_cons_self | refine List.mem_cons_of_mem _ ?_))
local macro_rules | `(tactic| walk_at "up") => `(tactic| with_reducible repeat' (first | exact UpB.head | apply UpB.tail))
local macro_rules | `(tactic| walk_at "upo") => `(tactic| with_reducible repeat' (first | exact Up.head | apply Up.tail))
local macro_rules | `(tactic| walk_at "nm") => `(tactic| refine r_local rfl rfl (by kernel_rfl!) (by kernel_rfl!) (by walk_at "in") ?_)
local macro_rules | `(tactic| walk_at "st") => `(tactic| refine r_storeN rfl rfl (by kernel_rfl!) (by kernel_rfl!) ?_)
local macro_rules | `(tactic| walk_at "re") => `(tactic| refine r_storeO rfl rfl (by kernel_rfl!) (by walk_at "up") ?_)
local macro_rules | `(tactic| walk_at "as") => `(tactic| refine r_cons (r_assign (by kernel_rfl!) ?_))
local macro_rules | `(tactic| walk_at "sub") => `(tactic| repeat' (first | exact SubB.nil | refine SubB.cons (by walk_at "in") ?_))
local macro_rules | `(tactic| walk_at "sl") => `(tactic| repeat' (first | exact List.Sublist.refl _ | exact List.nil_sublist _ | refine List.Sublist.cons_cons _ ?_ | refine List.Sublist.cons _ ?_))
section
variable {prog : Program} {w : World} {A : Around} {g : Heap} {L : Addr} {b : Bd} {N : Lg}
theorem r_gmIndex {l : Addr} {vs : List Value} {c : Nat} {pl : Sem Bool} {K : Value × List Value → Bd → Lg → Prop} (hm : (l, lstO vs c) ∈ N) (k : K (.builtin "list.index", [.ref l]) b N) : Run prog w A g L (getMethod (.ref l) "index" pl) K b N :=
  .still (fun _ => (.builtin "list.index", [.ref l])) (fun _ => k) fun s Q St h =>
    getMethod_builtin (v := .ref l) ⟨_, St.get hm, rfl⟩ F.plainAttrs_list F.slot_list_index F.type_list_index (fun a e => by cases e; exact ⟨_, St.get hm, rfl⟩) (h s.toks s.toks)
end
variable {w : World} {A : Around} {g : Heap} {L : Addr} {n : Nat}
theorem lay_small : ∀ ns : List Int, (∀ x ∈ ns, 0 ≤ x ∧ x < 32) → PyData.canLayAll0 (ns.map .int) = true ∧ PyData.depthAll (ns.map .int) ≤ 8 ∧ PyData.weightAll (ns.map .int) ≤ 50 * ns.length
  | [], _ => by simp [PyData.canLayAll0, PyData.depthAll, PyData.weightAll]
  | x :: r, h => by
    obtain ⟨h1, h2, h3⟩ := lay_small r fun y hy => h y (List.mem_cons_of_mem _ hy)
    have hx := h x List.mem_cons_self
    have hb : Builtin.Int.intBits x ≤ 30 := by
      obtain ⟨k, rfl⟩ := Int.eq_ofNat_of_zero_le hx.1
      have : k < 32 := by omega
      have hall : ∀ k : Nat, k < 32 → Builtin.Int.intBits (Int.ofNat k) ≤ 30 := by decide +kernel
      exact hall k this
    have hw : PyData.weight (.int x) ≤ 40 := by
      simp only [PyData.weight, Builtin.Int.intBits] at hb ⊢
      omega
    simp only [List.map_cons, PyData.canLayAll0, PyData.depthAll, PyData.weightAll, PyData.canLay0, PyData.depth, List.length_cons]
    refine ⟨by simpa using h1, by omega, by omega⟩
theorem hue_lay {P leap start : Nat} (hP : P ≤ 32) : PyData.layable0 (.list ((hueL P leap start P).map .int)) = true := by
  obtain ⟨h1, h2, h3⟩ := lay_small (hueL P leap start P) fun x hx => by
    obtain ⟨k, hk, rfl⟩ := List.mem_map.mp hx
    have hk' := List.mem_range.mp hk
    have := Nat.mod_lt (start + k * leap) (show 0 < P by omega)
    omega
  rw [hueL_len] at h3
  unfold PyData.layable0
  have ed : PyData.depth (.list ((hueL P leap start P).map .int)) = PyData.depthAll ((hueL P leap start P).map .int) + 1 := by rw [PyData.depth]
  have ew : PyData.weight (.list ((hueL P leap start P).map .int)) = PyData.weightAll ((hueL P leap start P).map .int) := by rw [PyData.weight]
  have ec : PyData.canLay0 (.list ((hueL P leap start P).map .int)) = PyData.canLayAll0 ((hueL P leap start P).map .int) := by rw [PyData.canLay0]
  rw [ed, ew, ec, h1]
  simp only [Bool.true_and, Bool.and_eq_true, decide_eq_true_eq]
  refine ⟨by omega, by omega⟩
theorem law_run4 {name qual : Str} {params : Arguments} {body : List Stmt} {scope : Scope} {dV kV doc pm cdv ct oc : Value} {an od : Option Addr} {osl : Array (Option Value)} {fa D H : Addr} {cv : Value} {vs us : List Value} {ns : List Int} {cap cH P leap start : Nat} {oP oL oH oS : Obj} {tP tL tw tm tt tst th : Tok} {bits : List Bool}
    (ho : (Mine.hd.heap_39 w.params).lookup 236 = some ⟨oc, od, .func (fnOf name qual params body scope dV kV doc pm an cdv ct), osl⟩)
    (O : Okay (Mine.hd.heap_39 w.params) (n+8) A (envOfC qual scope L fa cv) g L) (hi : IntsAre vs ns) (hn0 : 0 < ns.length) (hn : ns.length ≤ 21) (hP : Fl.Parts P) (hl : leap < P ∧ 1 ≤ leap) (hs : start < P) (hus : IntsAre us (hueL P leap start P)) (hp : Pair P leap) (hb : bits.length ≤ 6)
    (dP : oP.data = .cell (some (.int (P : Int) tP))) (dH : oH.data = .cell (some (.str (ab (rot P leap 0)) th))) (dS : oS.data = .cell none) :
    Run PySem.Challenge.rw_pk0110_01.row.prog w A g L (execs (body.drop 14) (envOfC qual scope L fa cv)) (fun fl _ _ => fl = .ret (.bool true)) [(Str.ofString "made", .str (ab (([false, true] ++ bits).flatMap (phi P leap))) tm), (Str.ofString "text", .str (ab ([false, true] ++ bits)) tt), (Str.ofString "steps", .str (ab (csP P leap)) tst), (Str.ofString "word", .str (ab (rot P leap start)) tw), (Str.ofString "hues", .ref H), (Str.ofString "numbers", .ref D)] [(H, lstO us cH), (D, lstO vs cap), (L + 1 + 1 + 1 + 1, oS), (L + 1 + 1 + 1, oH), (L + 1 + 1, oL), (L + 1, oP)] := by
  have h := fn_of ho (o' := ⟨_, _, .func (fnOf _ _ _ _ _ _ _ _ _ _ _ _), _⟩) (by rfl)
  have h1 := congrArg (fun o : Obj => match o.data with | .func f => (f.qualname, f.scope, f.body) | _ => (qual, scope, .stmts body)) h
  obtain ⟨e1, h2⟩ := Prod.mk.inj h1
  obtain ⟨e2, h3⟩ := Prod.mk.inj h2
  have e3 := FuncBody.stmts.inj h3
  dsimp only at e1 e2
  clear h1 h2 h3 h ho
  subst e1 e2 e3
  dsimp only [List.drop]
  have hP32 : P ≤ 32 ∧ 4 ≤ P := by rcases hP with rfl | rfl | rfl | rfl <;> omega
  have hph := phi_lt hp hP32.2
  have hwo := rot_len P leap start
  have hho := rot_len P leap 0
  obtain ⟨hr1, hr2⟩ := hue_idx hp hs (t := 0) (by omega)
  obtain ⟨hq1, hq2⟩ := hue_idx hp hs (t := 1) (by omega)
  have hin0 := hue_in hp hs (t := 0) (by omega)
  have hin1 := hue_in hp hs (t := 1) (by omega)
  -- red = hues.index(0)
  walk_at "as"
  refine r_mcall (by rfl) ?_
  walk_at "nm"
  refine r_gmIndex List.mem_cons_self (r_cwB (by kernel_rfl!) (by kernel_rfl!) (r_scons (by kernel_rfl!) (r_cint fun _ => r_snil (r_index List.mem_cons_self hus (hue_lay hP32.1) hin0 fun tr => ?_))))
  have ex0 : ((0 : Nat) : Int) = 0 := rfl
  have ex1 : ((1 : Nat) : Int) = 1 := rfl
  generalize hj : (hueL P leap start P).idxOf ((0 : Nat) : Int) = j at *
  generalize hq : (hueL P leap start P).idxOf ((1 : Nat) : Int) = q at *
  have hj' : (hueL P leap start P).idxOf (0 : Int) = j := hj
  walk_at "st"
  -- if home != word[red:] + word[:red]
  refine r_cons (r_if (r_tcmp (by kernel_rfl!) ?_))
  refine r_cell rfl (by rfl) (by kernel_rfl!) (by rfl) (by walk_at "in") dH ?_
  refine r_bin (r_sub ?_)
  walk_at "nm"
  refine r_slice (r_psome ?_)
  walk_at "nm"
  refine r_pnone (r_pnone fun as1 => ?_)
  refine r_strSl (lo := some ((j : Int), tr)) (hi := none) (st := none) List.mem_cons_self (by rfl) (sl_lo (by omega)) (by rw [ab_len, List.length_drop]; exact sz (by omega)) rfl fun _ => r_sub ?_
  walk_at "nm"
  refine r_slice (r_pnone (r_psome ?_))
  walk_at "nm"
  refine r_pnone fun as2 => ?_
  refine r_strSl (lo := none) (hi := some ((j : Int), tr)) (st := none) List.mem_cons_self (by rfl) (sl_hi (by omega)) (by rw [ab_len, List.length_take]; exact sz (by omega)) rfl fun _ => ?_
  refine s_add (by rw [ab_len, ab_len, List.length_drop, List.length_take]; exact sz (by omega)) fun _ => ?_
  rw [ab_app, rot_rot (by omega) (by omega), hr2]
  refine s_ne (r_tbool ?_)
  rw [if_neg (by simp)]
  refine r_nil ?_
  dsimp only
  -- size = (hues.index(1) - red) % parts
  walk_at "as"
  refine r_bin (r_bin (r_mcall (by rfl) ?_))
  walk_at "nm"
  refine r_gmIndex (vs := us) (c := cH) (.tail _ (.tail _ (.head _))) (r_cwB (by kernel_rfl!) (by kernel_rfl!) (r_scons (by kernel_rfl!) (r_cint fun _ => r_snil (r_index (vs := us) (c := cH) (.tail _ (.tail _ (.head _))) hus (hue_lay hP32.1) hin1 fun tr1 => ?_))))
  have hq' : (hueL P leap start P).idxOf (1 : Int) = q := hq
  first | rw [hq'] | rw [hq]
  walk_at "nm"
  refine i_sub fun _ => ?_
  refine r_cell rfl (by rfl) (by kernel_rfl!) (by rfl) (by walk_at "in") dP ?_
  refine i_mod (by omega) fun tz => ?_
  rw [size_eq hp hP32.2 hr1 hr2 hq2]
  generalize hz : (phi P leap false).length = z at *
  refine r_storeC rfl (by rfl) (by rfl) dS (by walk_at "in") fun oS' dS' => ⟨_, .tail (.tail (.tail (.tail .head))), ?_⟩
  dsimp only
  have etk : (rot P leap 0).take z = phi P leap false := by rw [← hp.home, List.take_left' hz]
  have edr : (rot P leap 0).drop z = phi P leap true := by rw [← hp.home, List.drop_left' hz]
  have hphl : ∀ c, (phi P leap c).length ≤ 32 := fun c => by cases c <;> omega
  refine Run.forget (N' := [(H, lstO us cH), (D, lstO vs cap), (L + 1 + 1 + 1 + 1, oS'), (L + 1 + 1 + 1, oH), (L + 1 + 1, oL), (L + 1, oP)]) ?_ (b' := [(Str.ofString "made", .str (ab (([false, true] ++ bits).flatMap (phi P leap))) tm), (Str.ofString "text", .str (ab ([false, true] ++ bits)) tt), (Str.ofString "steps", .str (ab (csP P leap)) tst), (Str.ofString "numbers", .ref D)]) (by walk_at "sub") (by kernel_rfl!) (.cons _ (.cons _ (.refl _)))
  have htb : ([false, true] ++ bits).length ≤ 8 := by simp; omega
  generalize ([false, true] ++ bits) = tb at *
  have hml : ∀ l : List Bool, (l.flatMap (phi P leap)).length ≤ 32 * l.length := fun l => by
    induction l with
    | nil => simp
    | cons c r ih =>
      rw [List.flatMap_cons, List.length_append, List.length_cons]
      have := hphl c
      omega
  -- if made != ''.join([...])
  refine r_cons (r_if (r_tcmp (by kernel_rfl!) ?_))
  walk_at "nm"
  refine r_mcall (by rfl) (r_cstr fun _ => t_gmJoin (r_cwB (by kernel_rfl!) (by kernel_rfl!) (r_scons (by kernel_rfl!) (r_listcomp (by intro _; rfl) (by rfl) (by decide) (by rfl) (by decide) ?_))))
  walk_at "nm"
  refine r_strIter fun it oI hsi C Dj oF => RunC.perm perm3 (rc_startS rfl rfl (fun K' k' => r_strSelf O.hh hsi List.mem_cons_self k') ?_)
  refine rc_loop (fun m b' N' => ∃ i oI' ws cap', SI (ab tb) tt i oI' ∧ m + i = tb.length ∧ TextsAre ws (((tb.take i).map (phi P leap)).map ab) ∧ b' = [] ∧ N' = (it, oI') :: (L, oF) :: (Dj, lstO ws cap') :: [(H, lstO us cH), (D, lstO vs cap), (L + 1 + 1 + 1 + 1, oS'), (L + 1 + 1 + 1, oH), (L + 1 + 1, oL), (L + 1, oP)]) tb.length ⟨_, _, ⟨0, oI, [], 0, hsi, by omega, .nil, rfl, rfl⟩, by walk_at "sub", by kernel_rfl!, .refl _⟩ ?_
  rintro m b' N' ⟨i, oI', ws, cap', hsi', hmi, hws, rfl, rfl⟩
  refine r_turn ?_
  have hwl : ws.length ≤ 8 := by rw [hws.length, List.length_map, List.length_map, List.length_take]; omega
  by_cases hend : i = tb.length
  · refine r_strEnd O.hh (by have : (ab tb).cps.size = tb.length := ab_len _
                             rw [this, ← hend]; exact hsi') ?_
    dsimp only
    refine ⟨_, ?_, .refl _⟩
    rw [hend, List.take_of_length_le (Nat.le_refl _)] at hws
    have hfl : (tb.map (phi P leap)).flatten = tb.flatMap (phi P leap) := rfl
    refine r_snil (t_join List.mem_cons_self hws (joinOk_ab (by rw [hfl]; have := hml tb; omega)) fun tj => ?_)
    rw [join_ab, hfl]
    refine s_ne (r_tbool ?_)
    rw [if_neg (by simp)]
    refine r_nil ?_
    dsimp only
    -- return _law_table(numbers, steps) == _law_due(numbers, steps, home[:size], home[size:])
    refine r_cons (r_ret (r_cmp (by kernel_rfl!) (r_call (by kernel_rfl!) (r_glob O (by kernel_rfl!) (by kernel_rfl!) (by rfl) (r_cwK O (by kernel_rfl!) (by kernel_rfl!) (by kernel_rfl!) (r_scons (by kernel_rfl!) ?_))))))
    walk_at "nm"
    refine r_scons (by kernel_rfl!) ?_
    walk_at "nm"
    refine r_snil (table_run O (vs := vs) (cap := cap) (.tail _ (.tail _ (.head _))) hi hn0 (by omega) (by have := hp.len; omega) hp.short fun d p1 p2 t1 t2 t3 t4 => ?_)
    refine r_call (by kernel_rfl!) (r_glob O (by kernel_rfl!) (by kernel_rfl!) (by rfl) (r_cwK O (by kernel_rfl!) (by kernel_rfl!) (by kernel_rfl!) (r_scons (by kernel_rfl!) ?_)))
    walk_at "nm"
    refine r_scons (by kernel_rfl!) ?_
    walk_at "nm"
    refine r_scons (by kernel_rfl!) (r_sub ?_)
    refine r_cell rfl (by rfl) (by kernel_rfl!) (by rfl) (by walk_at "in") dH ?_
    refine r_slice (r_pnone (r_psome ?_))
    refine r_cell rfl (by rfl) (by kernel_rfl!) (by rfl) (by walk_at "in") dS' ?_
    refine r_pnone fun as1 => ?_
    refine r_strSl (lo := none) (hi := some ((z : Int), tz)) (st := none) List.mem_cons_self (by rfl) (sl_hi (by omega)) (by rw [ab_len, List.length_take]; exact sz (by omega)) rfl fun _ => r_scons (by kernel_rfl!) (r_sub ?_)
    refine r_cell rfl (by rfl) (by kernel_rfl!) (by rfl) (by walk_at "in") dH ?_
    refine r_slice (r_psome ?_)
    refine r_cell rfl (by rfl) (by kernel_rfl!) (by rfl) (by walk_at "in") dS' ?_
    refine r_pnone (r_pnone fun as2 => ?_)
    refine r_strSl (lo := some ((z : Int), tz)) (hi := none) (st := none) List.mem_cons_self (by rfl) (sl_lo (by omega)) (by rw [ab_len, List.length_drop]; exact sz (by omega)) rfl fun _ => ?_
    rw [etk, edr]
    refine r_snil (due_run O (vs := vs) (cap := cap) (.tail _ (.tail _ (.tail _ (.tail _ (.tail _ (.tail _ (.tail _ (.head _)))))))) hi hn0 (by omega) (by have := hp.len; omega) hp.pos fun d2 q1 q2 v1 v2 v3 v4 => ?_)
    have hu := O.hu
    have en1 : ∀ c a b, entAt ns (csP P leap) (csP P leap).length c a b = ent (nm (bit ns (csP P leap) (csP P leap).length c) c) (ab (phi P leap c)) a b := fun c a b => by unfold entAt; rw [hp.txa]
    rw [en1, en1]
    have ep1 : (if fstL (csP P leap) (csP P leap).length = true then ab (phi P leap true) else ab (phi P leap false)) = ab (phi P leap (fstL (csP P leap) (csP P leap).length)) := by cases fstL (csP P leap) (csP P leap).length <;> rfl
    have ep2 : (if fstL (csP P leap) (csP P leap).length = true then ab (phi P leap false) else ab (phi P leap true)) = ab (phi P leap (!fstL (csP P leap) (csP P leap).length)) := by cases fstL (csP P leap) (csP P leap).length <;> rfl
    rw [ep1, ep2]
    refine r_eqEnts (by omega) (.tail _ (.tail _ (.tail _ (.tail _ (.tail _ (.head _)))))) (.head _) (.tail _ (.tail _ (.tail _ (.tail _ (.tail _ (.tail _ (.head _))))))) (.tail _ (.tail _ (.tail _ (.tail _ (.tail _ (.tail _ (.tail _ (.head _)))))))) (.tail _ (.tail _ (.head _))) (.tail _ (.head _)) rfl
  · obtain ⟨c, hcx⟩ : ∃ c, tb[i]? = some c := ⟨_, List.getElem?_eq_getElem (by omega)⟩
    refine r_strNext O.hh hsi' (ab_get hcx) fun oI2 tu hsi2 => ?_
    dsimp only
    have hone : (⟨#[code c]⟩ : Str) = ab [c] := (ab_one c).symm
    rw [hone]
    refine r_goName (r_asName ?_)
    walk_at "st"
    refine r_tests0 ?_
    rw [if_pos rfl]
    refine r_ifexp (r_tcmp (by kernel_rfl!) ?_)
    walk_at "nm"
    refine r_cstr fun _ => s_eq (r_tbool ?_)
    rw [ab_a1, nm_eq]
    have hnx : ((tb.take (i + 1)).map (phi P leap)) = (tb.take i).map (phi P leap) ++ [phi P leap c] := by rw [List.take_add_one, hcx]; simp
    cases c
    · rw [if_pos (by simp)]
      refine r_sub ?_
      refine r_cell rfl (by kernel_rfl!) (by kernel_rfl!) (by rfl) (by walk_at "in") dH ?_
      refine r_slice (r_pnone (r_psome ?_))
      refine r_cell rfl (by kernel_rfl!) (by kernel_rfl!) (by rfl) (by walk_at "in") dS' ?_
      refine r_pnone fun as1 => ?_
      refine r_strSl (lo := none) (hi := some ((z : Int), tz)) (st := none) List.mem_cons_self (by rfl) (sl_hi (by omega)) (by rw [ab_len, List.length_take]; exact sz (by omega)) rfl fun _ => ?_
      rw [etk]
      refine r_append (.tail (.tail (.tail .head))) (sz (by omega)) ?_
      exact ⟨_, _, ⟨m - 1, by omega, i + 1, oI2, _, _, hsi2, by omega, by rw [hnx]; exact hws.snoc, rfl, rfl⟩, by walk_at "sub", by kernel_rfl!, .cons _ (.refl _)⟩
    · rw [if_neg (by simp)]
      refine r_sub ?_
      refine r_cell rfl (by kernel_rfl!) (by kernel_rfl!) (by rfl) (by walk_at "in") dH ?_
      refine r_slice (r_psome ?_)
      refine r_cell rfl (by kernel_rfl!) (by kernel_rfl!) (by rfl) (by walk_at "in") dS' ?_
      refine r_pnone (r_pnone fun as1 => ?_)
      refine r_strSl (lo := some ((z : Int), tz)) (hi := none) (st := none) List.mem_cons_self (by rfl) (sl_lo (by omega)) (by rw [ab_len, List.length_drop]; exact sz (by omega)) rfl fun _ => ?_
      rw [edr]
      refine r_append (.tail (.tail (.tail .head))) (sz (by omega)) ?_
      exact ⟨_, _, ⟨m - 1, by omega, i + 1, oI2, _, _, hsi2, by omega, by rw [hnx]; exact hws.snoc, rfl, rfl⟩, by walk_at "sub", by kernel_rfl!, .cons _ (.refl _)⟩
end Mine

end
section
open PySem PySem.W PyProof.Rows PySem.Calls
set_option maxHeartbeats 16000000
namespace Mine
local macro_rules | `(tactic| walk_at "in") => `(tactic| with_reducible repeat' (first | exact List.mem_cons_self | refine List.mem_cons_of_mem _ ?_))
local macro_rules | `(tactic| walk_at "up") => `(tactic| with_reducible repeat' (first | exact UpB.head | apply UpB.tail))
local macro_rules | `(tactic| walk_at "upo") => `(tactic| with_reducible repeat' (first | exact Up.head | apply Up.tail))
local macro_rules | `(tactic| walk_at "nm") => `(tactic| refine r_local rfl rfl (by kernel_rfl!) (by kernel_rfl!) (by walk_at "in") ?_)
local macro_rules | `(tactic| walk_at "st") => `(tactic| refine r_storeN rfl rfl (by kernel_rfl!) (by kernel_rfl!) ?_)
local macro_rules | `(tactic| walk_at "re") => `(tactic| refine r_storeO rfl rfl (by kernel_rfl!) (by walk_at "up") ?_)
local macro_rules | `(tactic| walk_at "as") => `(tactic| refine r_cons (r_assign (by kernel_rfl!) ?_))
local macro_rules | `(tactic| walk_at "sub") => `(tactic| repeat' (first | exact SubB.nil | refine SubB.cons (by walk_at "in") ?_))
local macro_rules | `(tactic| walk_at "sl") => `(tactic| repeat' (first | exact List.Sublist.refl _ | exact List.nil_sublist _ | refine List.Sublist.cons_cons _ ?_ | refine List.Sublist.cons _ ?_))
variable {w : World} {A : Around} {g : Heap} {L : Addr} {n : Nat}
def tl (P leap i : Nat) : List (List Bool) := (List.range i).map fun p => rot P leap (p * leap % P)
theorem tl_succ (P leap i : Nat) : tl P leap (i + 1) = tl P leap i ++ [rot P leap (i * leap % P)] := by simp [tl, List.range_succ]
theorem law_run3 {name qual : Str} {params : Arguments} {body : List Stmt} {scope : Scope} {dV kV doc pm cdv ct oc : Value} {an od : Option Addr} {osl : Array (Option Value)} {fa D H : Addr} {cv : Value} {vs us : List Value} {ns : List Int} {cap cH P leap start : Nat} {oP oL oH oS : Obj} {tP tL tw tm tt tst : Tok} {bits : List Bool}
    (ho : (Mine.hd.heap_39 w.params).lookup 236 = some ⟨oc, od, .func (fnOf name qual params body scope dV kV doc pm an cdv ct), osl⟩)
    (O : Okay (Mine.hd.heap_39 w.params) (n+8) A (envOfC qual scope L fa cv) g L) (hi : IntsAre vs ns) (hn0 : 0 < ns.length) (hn : ns.length ≤ 21) (hP : Fl.Parts P) (hl : leap < P ∧ 1 ≤ leap) (hs : start < P) (hus : IntsAre us (hueL P leap start P)) (hp : Pair P leap) (hb : bits.length ≤ 6)
    (dP : oP.data = .cell (some (.int (P : Int) tP))) (dL : oL.data = .cell (some (.int (leap : Int) tL))) (dH : oH.data = .cell none) (dS : oS.data = .cell none) :
    Run PySem.Challenge.rw_pk0110_01.row.prog w A g L (execs (body.drop 11) (envOfC qual scope L fa cv)) (fun fl _ _ => fl = .ret (.bool true)) [(Str.ofString "made", .str (ab (([false, true] ++ bits).flatMap (phi P leap))) tm), (Str.ofString "text", .str (ab ([false, true] ++ bits)) tt), (Str.ofString "steps", .str (ab (csP P leap)) tst), (Str.ofString "word", .str (ab (rot P leap start)) tw), (Str.ofString "hues", .ref H), (Str.ofString "numbers", .ref D)] [(H, lstO us cH), (D, lstO vs cap), (L + 1 + 1 + 1 + 1, oS), (L + 1 + 1 + 1, oH), (L + 1 + 1, oL), (L + 1, oP)] := by
  have h := fn_of ho (o' := ⟨_, _, .func (fnOf _ _ _ _ _ _ _ _ _ _ _ _), _⟩) (by rfl)
  have h1 := congrArg (fun o : Obj => match o.data with | .func f => (f.qualname, f.scope, f.body) | _ => (qual, scope, .stmts body)) h
  obtain ⟨e1, h2⟩ := Prod.mk.inj h1
  obtain ⟨e2, h3⟩ := Prod.mk.inj h2
  have e3 := FuncBody.stmts.inj h3
  dsimp only at e1 e2
  clear h1 h2 h3 h ho
  subst e1 e2 e3
  dsimp only [List.drop]
  have hP32 : P ≤ 32 ∧ 4 ≤ P := by rcases hP with rfl | rfl | rfl | rfl <;> omega
  have hph := phi_lt hp hP32.2
  have hmd : ([false, true] ++ bits).flatMap (phi P leap) = rot P leap 0 ++ bits.flatMap (phi P leap) := by
    show phi P leap false ++ (phi P leap true ++ bits.flatMap (phi P leap)) = _
    rw [← List.append_assoc, hp.home]
  have hml : ∀ l : List Bool, (l.flatMap (phi P leap)).length ≤ 32 * l.length := fun l => by
    induction l with
    | nil => simp
    | cons c r ih =>
      rw [List.flatMap_cons, List.length_append, List.length_cons]
      have : (phi P leap c).length ≤ 32 := by cases c <;> omega
      omega
  have hm2 := hml ([false, true] ++ bits)
  have hrl := rot_len P leap 0
  -- home = made[:parts]
  walk_at "as"
  refine r_sub ?_
  walk_at "nm"
  refine r_slice (r_pnone (r_psome ?_))
  refine r_cell rfl (by rfl) (by kernel_rfl!) (by rfl) (by walk_at "in") dP ?_
  refine r_pnone fun a1 => ?_
  refine r_strSl (lo := none) (hi := some ((P : Int), tP)) (st := none) List.mem_cons_self (by rfl) (sl_hi (by rw [hmd, List.length_append, hrl]; omega)) (by rw [ab_len, List.length_take]; exact sz (by omega)) rfl fun th => ?_
  have ehome : (([false, true] ++ bits).flatMap (phi P leap)).take P = rot P leap 0 := by rw [hmd, List.take_left' hrl]
  rw [ehome]
  refine r_storeC rfl (by rfl) (by rfl) dH (by walk_at "in") fun oH' dH' => ⟨_, .tail (.tail (.tail (.tail .head))), ?_⟩
  dsimp only
  -- turns = sorted([...])
  walk_at "as"
  refine r_call (by kernel_rfl!) (r_blt O (by kernel_rfl!) (by kernel_rfl!) (by kernel_rfl!) rfl (by decide) (r_cwB (by kernel_rfl!) (by kernel_rfl!) (r_scons (by kernel_rfl!) (r_listcomp (by intro _; rfl) (by rfl) (by decide) (by rfl) (by decide) (r_call (by kernel_rfl!) (r_blt O (by kernel_rfl!) (by kernel_rfl!) (by kernel_rfl!) rfl (by decide) (r_cwT (by kernel_rfl!) (by kernel_rfl!) (r_scons (by kernel_rfl!) ?_))))))))
  refine r_cell rfl (by rfl) (by kernel_rfl!) (by rfl) (by walk_at "in") dP ?_
  refine r_snil (r_range fun ra _ _ _ => r_rangeIter (by omega) (by omega) List.mem_cons_self fun it C Dt oF => RunC.perm perm3 (rc_startS rfl rfl (fun K' k' => r_rangeSelf List.mem_cons_self k') ?_))
  refine rc_loop (fun m b' N' => ∃ i ws cap', m + i = P ∧ TextsAre ws ((tl P leap i).map ab) ∧ b' = [] ∧ N' = (it, rngI (i : Int) ((P : Int) - i)) :: (L, oF) :: (Dt, lstO ws cap') :: [(H, lstO us cH), (D, lstO vs cap), (L + 1 + 1 + 1 + 1, oS), (L + 1 + 1 + 1, oH'), (L + 1 + 1, oL), (L + 1, oP)]) P ⟨_, _, ⟨0, [], 0, by omega, .nil, rfl, rfl⟩, by walk_at "sub", by kernel_rfl!, by
    have e0 : ((P : Int) - ((0 : Nat) : Int)) = P := by omega
    rw [e0]; exact .cons_cons _ (.cons_cons _ (.cons_cons _ (.cons _ (.cons _ (.refl _)))))⟩ ?_
  rintro m b' N' ⟨i, ws, cap', hmi, hws, rfl, rfl⟩
  refine r_turn ?_
  have hwl : ws.length = i := by rw [hws.length, List.length_map]; simp [tl]
  by_cases hend : i = P
  · rw [hend] at hws hwl
    refine r_rangeEnd O.hh (by omega) ?_
    dsimp only
    refine ⟨_, ?_, .refl _⟩
    refine r_snil (r_sorted List.mem_cons_self hws (by omega) fun Dn vs' ss' c' ht hperm hsrt => ?_)
    have ess := turns_eq hp hperm hsrt
    walk_at "st"
    refine Run.forget (N' := [(Dn, lstO vs' c'), (H, lstO us cH), (D, lstO vs cap), (L + 1 + 1 + 1 + 1, oS), (L + 1 + 1 + 1, oH'), (L + 1 + 1, oL), (L + 1, oP)]) ?_ (b' := [(Str.ofString "turns", .ref Dn), (Str.ofString "made", .str (ab (([false, true] ++ bits).flatMap (phi P leap))) tm), (Str.ofString "text", .str (ab ([false, true] ++ bits)) tt), (Str.ofString "steps", .str (ab (csP P leap)) tst), (Str.ofString "word", .str (ab (rot P leap start)) tw), (Str.ofString "hues", .ref H), (Str.ofString "numbers", .ref D)]) (by walk_at "sub") (by kernel_rfl!) (.cons_cons _ (.cons _ (.refl _)))
    subst ess
    have hul : us.length = P := by rw [hus.length, hueL_len]
    have hwo := rot_len P leap start
    -- for k, spot in enumerate(hues)
    refine r_cons (r_for (by intro _; rfl) (r_call (by kernel_rfl!) (r_blt O (by kernel_rfl!) (by kernel_rfl!) (by kernel_rfl!) rfl (by decide) (r_cwT (by kernel_rfl!) (by kernel_rfl!) (r_scons (by kernel_rfl!) ?_)))))
    walk_at "nm"
    refine r_snil (r_enumL (vs := us) (c := cH) (.tail _ (.head _)) fun e it2 o2 hle => r_enumSelf List.mem_cons_self ?_)
    refine ⟨fun m b' N' => ∃ i o' old, LI H i o' ∧ m + i = P ∧ b' = [(Str.ofString "turns", .ref Dn), (Str.ofString "made", .str (ab (([false, true] ++ bits).flatMap (phi P leap))) tm), (Str.ofString "text", .str (ab ([false, true] ++ bits)) tt), (Str.ofString "steps", .str (ab (csP P leap)) tst), (Str.ofString "word", .str (ab (rot P leap start)) tw), (Str.ofString "hues", .ref H), (Str.ofString "numbers", .ref D)] ∧ N' = (e, enO it2 i old) :: (it2, o') :: [(Dn, lstO vs' c'), (H, lstO us cH), (D, lstO vs cap), (L + 1 + 1 + 1 + 1, oS), (L + 1 + 1 + 1, oH'), (L + 1 + 1, oL), (L + 1, oP)], P, ⟨_, _, ⟨0, o2, .none, hle, by omega, rfl, rfl⟩, by walk_at "sub", by kernel_rfl!, .refl _⟩, ?_⟩
    rintro m2 b' N' ⟨i2, o', old, hl', hmi2, rfl, rfl⟩
    by_cases hend2 : i2 = P
    · refine r_enumEndL O.hh hl' (vs := us) (c := cH) (.tail _ (.head _)) (by rw [List.getElem?_eq_none_iff]; omega) ?_
      dsimp only
      have r := law_run4 (ho := by rfl) O hi hn0 hn hP hl hs hus hp hb dP dH' dS (tL := tL) (cH := cH) (cap := cap) (oL := oL) (tm := tm) (tt := tt) (tst := tst) (tw := tw) (H := H) (D := D)
      dsimp only [List.drop] at r
      exact Run.forget r (by walk_at "sub") (by kernel_rfl!) (.cons _ (.refl _))
    · have hiP : i2 < P := by omega
      have hsp : (start + i2 * leap) % P < P := Nat.mod_lt _ (by omega)
      obtain ⟨ti, hti⟩ := hus.get i2 (((start + i2 * leap) % P : Nat) : Int) (by simp [hueL, hiP])
      obtain ⟨tr, htr⟩ := ht.get ((start + i2 * leap) % P) (ab (rot P leap ((start + i2 * leap) % P))) (by simp [hsp])
      refine r_enumNextL hl' (vs := us) (c := cH) (.tail _ (.head _)) hti fun T o3 tu hl3 => ?_
      dsimp only
      refine r_goEnum (r_asTuple O.hh List.mem_cons_self (by rfl) (by rfl) (r_aioCons (r_asName ?_)))
      walk_at "st"
      refine r_aioCons (r_asName ?_)
      walk_at "st"
      refine r_aioNil (r_cons (r_if (r_tcmp (by kernel_rfl!) (r_sub ?_))))
      walk_at "nm"
      walk_at "nm"
      refine r_item (vs := vs') (c := c') (.tail _ (.tail _ (.tail _ (.head _)))) (by omega) (by omega) (by rw [Int.toNat_natCast]; exact htr) (by kernel_rfl!) (r_bin (r_sub ?_))
      walk_at "nm"
      refine r_slice (r_psome ?_)
      walk_at "nm"
      refine r_pnone (r_pnone fun as1 => ?_)
      refine r_strSl (lo := some ((i2 : Int), tu)) (hi := none) (st := none) List.mem_cons_self (by rfl) (sl_lo (by omega)) (by rw [ab_len, List.length_drop]; exact sz (by omega)) rfl fun _ => r_sub ?_
      walk_at "nm"
      refine r_slice (r_pnone (r_psome ?_))
      walk_at "nm"
      refine r_pnone fun as2 => ?_
      refine r_strSl (lo := none) (hi := some ((i2 : Int), tu)) (st := none) List.mem_cons_self (by rfl) (sl_hi (by omega)) (by rw [ab_len, List.length_take]; exact sz (by omega)) rfl fun _ => ?_
      refine s_add (by rw [ab_len, ab_len, List.length_drop, List.length_take]; exact sz (by omega)) fun _ => ?_
      rw [ab_app, rot_rot (by omega) (by omega)]
      refine s_ne (r_tbool ?_)
      rw [if_neg (by simp)]
      refine r_nil (r_nil ?_)
      have eI : ((i2 : Int) + 1) = ((i2 + 1 : Nat) : Int) := by push_cast; rfl
      rw [eI]
      exact ⟨_, _, ⟨m2 - 1, by omega, i2 + 1, o3, _, hl3, by omega, rfl, rfl⟩, by walk_at "sub", by kernel_rfl!, .cons _ (.cons _ (.cons _ (.refl _)))⟩
  · have hiP : i < P := by omega
    refine r_rangeNext (by omega) fun u => ?_
    dsimp only
    refine r_goName (r_asName ?_)
    walk_at "st"
    refine r_tests0 ?_
    rw [if_pos rfl]
    refine r_bin (r_sub ?_)
    refine r_cell rfl (by kernel_rfl!) (by kernel_rfl!) (by rfl) (by walk_at "in") dH' ?_
    refine r_slice (r_psome ?_)
    walk_at "nm"
    refine r_pnone (r_pnone fun as1 => ?_)
    refine r_strSl (lo := some ((i : Int), u)) (hi := none) (st := none) List.mem_cons_self (by rfl) (sl_lo (by omega)) (by rw [ab_len, List.length_drop]; exact sz (by omega)) rfl fun _ => r_sub ?_
    refine r_cell rfl (by kernel_rfl!) (by kernel_rfl!) (by rfl) (by walk_at "in") dH' ?_
    refine r_slice (r_pnone (r_psome ?_))
    walk_at "nm"
    refine r_pnone fun as2 => ?_
    refine r_strSl (lo := none) (hi := some ((i : Int), u)) (st := none) List.mem_cons_self (by rfl) (sl_hi (by omega)) (by rw [ab_len, List.length_take]; exact sz (by omega)) rfl fun _ => ?_
    refine s_add (by rw [ab_len, ab_len, List.length_drop, List.length_take]; exact sz (by omega)) fun _ => ?_
    rw [ab_app, rot_rot (by omega) (by omega), Nat.zero_add]
    refine r_append (.tail (.tail (.tail (.tail .head)))) (sz (by omega)) ?_
    have e1 : (i : Int) + 1 = ((i + 1 : Nat) : Int) := by push_cast; rfl
    have e2 : (P : Int) - i - 1 = (P : Int) - ((i + 1 : Nat) : Int) := by push_cast; omega
    rw [e1, e2]
    exact ⟨_, _, ⟨m - 1, by omega, i + 1, _, _, by omega, by rw [tl_succ]; exact hws.snoc, rfl, rfl⟩, by walk_at "sub", by kernel_rfl!, .cons _ (.cons _ (.refl _))⟩
end Mine

end
section
open PySem PySem.W PyProof.Rows PySem.Calls
set_option maxHeartbeats 16000000
namespace Mine
local macro_rules | `(tactic| walk_at "in") => `(tactic| with_reducible repeat' (first | exact List.mem_cons_self | refine List.mem_cons_of_mem _ ?_))
local macro_rules | `(tactic| walk_at "up") => `(tactic| with_reducible repeat' (first | exact UpB.head | apply UpB.tail))
local macro_rules | `(tactic| walk_at "upo") => `(tactic| with_reducible repeat' (first | exact Up.head | apply Up.tail))
local macro_rules | `(tactic| walk_at "nm") => `(tactic| refine r_local rfl rfl (by kernel_rfl!) (by kernel_rfl!) (by walk_at "in") ?_)
local macro_rules | `(tactic| walk_at "st") => `(tactic| refine r_storeN rfl rfl (by kernel_rfl!) (by kernel_rfl!) ?_)
local macro_rules | `(tactic| walk_at "re") => `(tactic| refine r_storeO rfl rfl (by kernel_rfl!) (by walk_at "up") ?_)
local macro_rules | `(tactic| walk_at "as") => `(tactic| refine r_cons (r_assign (by kernel_rfl!) ?_))
local macro_rules | `(tactic| walk_at "sub") => `(tactic| repeat' (first | exact SubB.nil | refine SubB.cons (by walk_at "in") ?_))
local macro_rules | `(tactic| walk_at "sl") => `(tactic| repeat' (first | exact List.Sublist.refl _ | exact List.nil_sublist _ | refine List.Sublist.cons_cons _ ?_ | refine List.Sublist.cons _ ?_))
def bitsT (ns : List Int) : List Bool := (ns.take 6).map fun x => (x.fdiv 2).fmod 2 == 1
def bl (ns : List Int) (i : Nat) : List (List Bool) := ((bitsT ns).take i).map fun c => [c]
theorem bl_flat (ns : List Int) (i : Nat) : (bl ns i).flatten = (bitsT ns).take i := by
  unfold bl
  induction (bitsT ns).take i with
  | nil => rfl
  | cons c r ih => rw [List.map_cons, List.flatten_cons, ih]; rfl
theorem bl_succ {ns : List Int} {i : Nat} {c : Bool} (h : (bitsT ns)[i]? = some c) : bl ns (i + 1) = bl ns i ++ [[c]] := by
  unfold bl; rw [List.take_add_one, h]; simp
theorem sel_ab (c : Bool) : (seqIndex? (if c then 1 else 0) (Str.ofString "ab").length).bind ((Str.ofString "ab").cps[·]?) = some (code c) := by cases c <;> decide
theorem pairsS_snoc (l : List Bool) (c : Bool) : pairsS (l ++ [c]) = pairsS l ++ [ab [c], Str.ofString "ab"] := by simp [pairsS]
theorem take_snoc {l : List Bool} {i : Nat} {c : Bool} (h : l[i]? = some c) : l.take (i + 1) = l.take i ++ [c] := by rw [List.take_add_one, h]; rfl
variable {w : World} {A : Around} {g : Heap} {L : Addr} {n : Nat}
theorem law_run2 {name qual : Str} {params : Arguments} {body : List Stmt} {scope : Scope} {dV kV doc pm cdv ct oc : Value} {an od : Option Addr} {osl : Array (Option Value)} {fa D H : Addr} {cv : Value} {vs us : List Value} {ns : List Int} {cap cH P leap start : Nat} {oP oL oH oS : Obj} {tP tL tS tw : Tok}
    (ho : (Mine.hd.heap_39 w.params).lookup 236 = some ⟨oc, od, .func (fnOf name qual params body scope dV kV doc pm an cdv ct), osl⟩)
    (O : Okay (Mine.hd.heap_39 w.params) (n+8) A (envOfC qual scope L fa cv) g L) (hi : IntsAre vs ns) (hn0 : 0 < ns.length) (hn : ns.length ≤ 21) (hP : Fl.Parts P) (hl : leap < P ∧ 1 ≤ leap) (hs : start < P) (hus : IntsAre us (hueL P leap start P)) (hp : Pair P leap)
    (dP : oP.data = .cell (some (.int (P : Int) tP))) (dL : oL.data = .cell (some (.int (leap : Int) tL))) (dH : oH.data = .cell none) (dS : oS.data = .cell none) :
    Run PySem.Challenge.rw_pk0110_01.row.prog w A g L (execs (body.drop 7) (envOfC qual scope L fa cv)) (fun fl _ _ => fl = .ret (.bool true)) [(Str.ofString "word", .str (ab (rot P leap start)) tw), (Str.ofString "hues", .ref H), (Str.ofString "start", .int (start : Int) tS), (Str.ofString "numbers", .ref D)] [(H, lstO us cH), (D, lstO vs cap), (L + 1 + 1 + 1 + 1, oS), (L + 1 + 1 + 1, oH), (L + 1 + 1, oL), (L + 1, oP)] := by
  have h := fn_of ho (o' := ⟨_, _, .func (fnOf _ _ _ _ _ _ _ _ _ _ _ _), _⟩) (by rfl)
  have h1 := congrArg (fun o : Obj => match o.data with | .func f => (f.qualname, f.scope, f.body) | _ => (qual, scope, .stmts body)) h
  obtain ⟨e1, h2⟩ := Prod.mk.inj h1
  obtain ⟨e2, h3⟩ := Prod.mk.inj h2
  have e3 := FuncBody.stmts.inj h3
  dsimp only at e1 e2
  clear h1 h2 h3 h ho
  subst e1 e2 e3
  dsimp only [List.drop]
  have hP32 : P ≤ 32 ∧ 4 ≤ P := by rcases hP with rfl | rfl | rfl | rfl <;> omega
  -- steps = _law_steps(parts - leap, leap)
  walk_at "as"
  refine r_call (by kernel_rfl!) (r_glob O (by kernel_rfl!) (by kernel_rfl!) (by rfl) (r_cwK O (by kernel_rfl!) (by kernel_rfl!) (by kernel_rfl!) (r_scons (by kernel_rfl!) (r_bin ?_))))
  refine r_cell rfl (by rfl) (by kernel_rfl!) (by rfl) (by walk_at "in") dP ?_
  refine r_cell rfl (by rfl) (by kernel_rfl!) (by rfl) (by walk_at "in") dL ?_
  refine i_sub fun _ => r_scons (by kernel_rfl!) ?_
  refine r_cell rfl (by rfl) (by kernel_rfl!) (by rfl) (by walk_at "in") dL ?_
  refine r_snil (steps_run O (by omega) (by omega) (by omega) fun tst => ?_)
  have hcl : (eu 64 ((P : Int) - leap) leap).length ≤ 64 := eu_len _ _ _
  generalize hcs : eu 64 ((P : Int) - leap) leap = cs at *
  walk_at "st"
  -- pairs
  refine r_cons (r_assignComp (by rfl) (by intro _; rfl) (by rfl) (by decide) (by rfl) (by decide) (r_sub ?_))
  walk_at "nm"
  refine r_slice (r_pnone (r_pnone (r_psome (r_neg fun um asl => ?_))))
  refine r_strSl (lo := none) (hi := none) (st := some (-1, um)) List.mem_cons_self (by rfl) sl_rev (by rw [ab_len, List.length_reverse]; exact sz (by omega)) rfl fun tr => ?_
  refine r_strIter fun it oI hsi C Dp oF => RunC.perm perm3 (rc_startS rfl rfl (fun K' k' => r_strSelf O.hh hsi List.mem_cons_self k') ?_)
  refine rc_loop (fun m b' N' => ∃ i oI' ws cap', SI (ab cs.reverse) tr i oI' ∧ m + i = cs.length ∧ TextsAre ws (pairsS (cs.reverse.take i)) ∧ b' = [] ∧ N' = (it, oI') :: (L, oF) :: (Dp, lstO ws cap') :: (asl, slcO .none .none (.int (-1) um)) :: [(H, lstO us cH), (D, lstO vs cap), (L + 1 + 1 + 1 + 1, oS), (L + 1 + 1 + 1, oH), (L + 1 + 1, oL), (L + 1, oP)]) cs.length ⟨_, _, ⟨0, oI, [], 0, hsi, by omega, .nil, rfl, rfl⟩, by walk_at "sub", by kernel_rfl!, .refl _⟩ ?_
  rintro m b' N' ⟨i, oI', ws, cap', hsi', hmi, hws, rfl, rfl⟩
  refine r_turn2 (by intro _; rfl) ?_
  have hwl : ws.length = 2 * (cs.reverse.take i).length := by rw [hws.length, pairsS_len]
  rw [List.length_take, List.length_reverse] at hwl
  by_cases hend : i = cs.length
  · refine r_strEnd O.hh (by have : (ab cs.reverse).cps.size = cs.length := by rw [← List.length_reverse]; exact ab_len _
                             rw [this, ← hend]; exact hsi') ?_
    dsimp only
    refine ⟨_, .cons_cons _ (.cons_cons _ (.cons _ (.refl _))), fun oC => ?_⟩
    walk_at "st"
    refine ⟨_, ?_, .refl _⟩
    rw [hend, List.take_of_length_le (by simp)] at hws
    -- text = 'ab' + ''.join(['ab'[x // 2 % 2] for x in numbers[:6]])
    walk_at "as"
    refine r_bin (r_cstr fun t0 => r_mcall (by rfl) (r_cstr fun _ => t_gmJoin (r_cwB (by kernel_rfl!) (by kernel_rfl!) (r_scons (by kernel_rfl!) (r_listcomp (by intro _; rfl) (by rfl) (by decide) (by rfl) (by decide) (r_sub ?_))))))
    walk_at "nm"
    refine r_slice (r_pnone (r_psome (r_cint fun u6 => r_pnone fun as6 => ?_)))
    have hvl : vs.length = ns.length := hi.length
    refine r_lstSl' (vs := vs) (cap := cap) (.tail _ (.tail _ (.tail _ (.head _)))) List.mem_cons_self .none (.int 6 u6) (pick_take vs 6) (sz (by omega)) rfl fun D6 => ?_
    have hi6 : IntsAre (vs.take 6) (ns.take 6) := hi.take 6
    refine r_listIter List.mem_cons_self fun it6 oI6 hl6 C6 Dx oF6 => RunC.perm perm3 (rc_startS rfl rfl (fun K' k' => r_listSelf hl6 List.mem_cons_self k') ?_)
    refine rc_loop (fun m b' N' => ∃ i oI' wx capx, LI D6 i oI' ∧ m + i = (ns.take 6).length ∧ TextsAre wx ((bl ns i).map ab) ∧ b' = [] ∧ N' = (it6, oI') :: (L, oF6) :: (Dx, lstO wx capx) :: (D6, lstO (vs.take 6) 0) :: (as6, slcO .none (.int 6 u6) .none) :: (Dp, lstO ws cap') :: [(H, lstO us cH), (D, lstO vs cap), (L + 1 + 1 + 1 + 1, oS), (L + 1 + 1 + 1, oH), (L + 1 + 1, oL), (L + 1, oP)]) (ns.take 6).length ⟨_, _, ⟨0, oI6, [], 0, hl6, by omega, .nil, rfl, rfl⟩, by walk_at "sub", by kernel_rfl!, .refl _⟩ ?_
    rintro m6 b' N' ⟨i6, oI', wx, capx, hl', hmi6, hwx, rfl, rfl⟩
    refine r_turn ?_
    have hbl : (bitsT ns).length = (ns.take 6).length := by unfold bitsT; rw [List.length_map]
    have hb6 : (ns.take 6).length ≤ 6 := by rw [List.length_take]; omega
    have hwxl : wx.length ≤ 6 := by rw [hwx.length, List.length_map]; unfold bl; rw [List.length_map, List.length_take]; omega
    by_cases hend6 : i6 = (ns.take 6).length
    · refine r_listEnd O.hh hl' (by walk_at "in") (by rw [List.getElem?_eq_none_iff, hi6.length]; omega) ?_
      dsimp only
      refine ⟨_, ?_, .refl _⟩
      have hfl : (bl ns i6).flatten = bitsT ns := by rw [bl_flat, List.take_of_length_le (by omega)]
      refine r_snil (t_join List.mem_cons_self hwx (joinOk_ab (by rw [hfl]; omega)) fun tj => ?_)
      rw [join_ab, hfl, ab_ab]
      refine s_add (by rw [ab_len, ab_len]; exact sz (by simp; omega)) fun tt => ?_
      rw [ab_app]
      walk_at "st"
      refine Run.forget (N' := [(Dp, lstO ws cap'), (H, lstO us cH), (D, lstO vs cap), (L + 1 + 1 + 1 + 1, oS), (L + 1 + 1 + 1, oH), (L + 1 + 1, oL), (L + 1, oP)]) ?_ (b' := [(Str.ofString "text", .str (ab ([false, true] ++ bitsT ns)) tt), (Str.ofString "pairs", .ref Dp), (Str.ofString "steps", .str (ab cs) tst), (Str.ofString "word", .str (ab (rot P leap start)) tw), (Str.ofString "hues", .ref H), (Str.ofString "numbers", .ref D)]) (by walk_at "sub") (by kernel_rfl!) (.cons _ (.cons _ (.cons _ (.refl _))))
      -- made = replace(text, *pairs)
      walk_at "as"
      refine r_call (by kernel_rfl!) (r_glob O (by kernel_rfl!) (by kernel_rfl!) (by rfl) (r_cwS O (by kernel_rfl!) (by kernel_rfl!) (by kernel_rfl!) (r_scons (by kernel_rfl!) ?_)))
      walk_at "nm"
      refine r_star (vs := ws) (a := Dp) (c := cap') (by kernel_rfl!) ?_ (by omega)
      walk_at "nm"
      refine ⟨rfl, List.mem_cons_self, ?_⟩
      have hcs' : cs = csP P leap := hcs.symm
      have hfm : repAll cs.reverse ([false, true] ++ bitsT ns) = ([false, true] ++ bitsT ns).flatMap (phi P leap) := by rw [repAll_flat, hcs']; rfl
      have hph := phi_lt hp hP32.2
      have hml : ∀ l : List Bool, (l.flatMap (phi P leap)).length ≤ 32 * l.length := fun l => by
        induction l with
        | nil => simp
        | cons c r ih =>
          rw [List.flatMap_cons, List.length_append, List.length_cons]
          have : (phi P leap c).length ≤ 32 := by cases c <;> omega
          omega
      have hm2 := hml ([false, true] ++ bitsT ns)
      have hl2 : ([false, true] ++ bitsT ns).length ≤ 8 := by simp; omega
      refine replace_run O hws (by rw [hfm]; omega) (by rw [List.length_reverse]; omega) fun tm => ?_
      rw [hfm]
      walk_at "st"
      have r := law_run3 (ho := by rfl) O hi hn0 hn hP hl hs hus hp (bits := bitsT ns) (by omega) dP dL dH dS (cH := cH) (cap := cap) (tm := tm) (tt := tt) (tst := tst) (tw := tw) (H := H) (D := D)
      dsimp only [List.drop] at r
      rw [← hcs'] at r
      exact Run.forget r (by walk_at "sub") (by kernel_rfl!) (.cons _ (.refl _))
    · obtain ⟨x, hx⟩ : ∃ x, (ns.take 6)[i6]? = some x := ⟨_, List.getElem?_eq_getElem (by omega)⟩
      obtain ⟨tx6, htx⟩ := hi6.get i6 x hx
      have hc6 : (bitsT ns)[i6]? = some ((x.fdiv 2).fmod 2 == 1) := by unfold bitsT; rw [List.getElem?_map, hx]; rfl
      refine r_listNext hl' (by walk_at "in") htx fun oI2 hl2 => ?_
      dsimp only
      refine r_goName (r_asName ?_)
      walk_at "st"
      refine r_tests0 ?_
      rw [if_pos rfl]
      refine r_sub (r_cstr fun _ => r_bin (r_bin ?_))
      walk_at "nm"
      refine r_cint fun _ => i_div (by decide) (PyProof.noPylong_small (by decide)) fun _ => r_cint fun _ => i_mod (by decide) fun _ => ?_
      have ex : (x.fdiv 2).fmod 2 = if ((x.fdiv 2).fmod 2 == 1) then 1 else 0 := by
        have h1 : 0 ≤ (x.fdiv 2).fmod 2 := by rw [Int.fmod_eq_emod_of_nonneg _ (by omega)]; omega
        have h2 : (x.fdiv 2).fmod 2 < 2 := by rw [Int.fmod_eq_emod_of_nonneg _ (by omega)]; omega
        by_cases h3 : (x.fdiv 2).fmod 2 = 1
        · rw [h3]; rfl
        · have h4 : (x.fdiv 2).fmod 2 = 0 := by omega
          rw [h4]; rfl
      generalize hcc : ((x.fdiv 2).fmod 2 == 1) = c6 at *
      rw [ex]
      refine r_strIt (c := code c6) (by cases c6 <;> decide) (sel_ab c6) (by cases c6 <;> rfl) fun ts => ?_
      have hone6 : (⟨#[code c6]⟩ : Str) = ab [c6] := (ab_one c6).symm
      rw [hone6]
      refine r_append (.tail (.tail .head)) (sz (by omega)) ?_
      exact ⟨_, _, ⟨m6 - 1, by omega, i6 + 1, oI2, _, _, hl2, by omega, by rw [bl_succ hc6]; exact hwx.snoc, rfl, rfl⟩, by walk_at "sub", by kernel_rfl!, .refl _⟩
  · obtain ⟨c, hcx⟩ : ∃ c, cs.reverse[i]? = some c := ⟨_, List.getElem?_eq_getElem (by rw [List.length_reverse]; omega)⟩
    refine r_strNext O.hh hsi' (ab_get hcx) fun oI2 tu hsi2 => ?_
    dsimp only
    have hone : (⟨#[code c]⟩ : Str) = ab [c] := (ab_one c).symm
    rw [hone]
    refine r_goName (r_asName ?_)
    walk_at "st"
    refine r_tuple (r_scons (by kernel_rfl!) ?_)
    walk_at "nm"
    refine r_scons (by kernel_rfl!) (r_cstr fun tab => r_snil (r_ntup (sz (by simp)) fun T => r_tupIter List.mem_cons_self fun it2 oT hti => ?_))
    refine rc_startS rfl rfl (fun K' k' => r_tupSelf hti List.mem_cons_self k') ?_
    refine rc_loop (fun m2 b' N' => ∃ j oT' ws' cap'', TI T j oT' ∧ m2 + j = 2 ∧ TextsAre ws' (pairsS (cs.reverse.take i) ++ [ab [c], Str.ofString "ab"].take j) ∧ b' = [] ∧ N' = (it2, oT') :: (T, tupO [.str (ab [c]) tu, .str (Str.ofString "ab") tab]) :: (it, oI2) :: (L, oF) :: (Dp, lstO ws' cap'') :: (asl, slcO .none .none (.int (-1) um)) :: [(H, lstO us cH), (D, lstO vs cap), (L + 1 + 1 + 1 + 1, oS), (L + 1 + 1 + 1, oH), (L + 1 + 1, oL), (L + 1, oP)]) 2 ⟨_, _, ⟨0, oT, ws, cap', hti, by omega, by simpa using hws, rfl, rfl⟩, by walk_at "sub", by kernel_rfl!, .refl _⟩ ?_
    rintro m2 b' N' ⟨j, oT', ws', cap'', hti', hmj, hws', rfl, rfl⟩
    refine r_turn2i ?_
    have hwl' : ws'.length ≤ 200 := by rw [hws'.length, List.length_append, pairsS_len, List.length_take, List.length_take, List.length_reverse]; simp; omega
    have h3 : j = 2 ∨ ∃ x tx', [Value.str (ab [c]) tu, .str (Str.ofString "ab") tab][j]? = some (.str x tx') ∧ j < 2 ∧ [ab [c], Str.ofString "ab"].take (j + 1) = [ab [c], Str.ofString "ab"].take j ++ [x] := by
      match j with
      | 0 => exact .inr ⟨_, _, rfl, by omega, rfl⟩
      | 1 => exact .inr ⟨_, _, rfl, by omega, rfl⟩
      | 2 => exact .inl rfl
      | j + 3 => omega
    rcases h3 with rfl | ⟨x, tx', hv, hj2, hcat⟩
    · refine r_tupEnd O.hh hti' List.mem_cons_self rfl ?_
      dsimp only
      exact ⟨_, _, ⟨m - 1, by omega, i + 1, oI2, ws', cap'', hsi2, by omega, by rw [take_snoc hcx, pairsS_snoc]; exact hws', rfl, rfl⟩, by walk_at "sub", by kernel_rfl!, .cons _ (.refl _)⟩
    · refine r_tupNext hti' List.mem_cons_self hv fun oT2 hti2 => ?_
      dsimp only
      refine r_goName (r_asName ?_)
      walk_at "st"
      walk_at "nm"
      refine r_append (.tail (.tail (.tail (.tail .head)))) (sz (by omega)) ?_
      exact ⟨_, _, ⟨m2 - 1, by omega, j + 1, oT2, ws' ++ [.str x tx'], cap'' + 1, hti2, by omega, by rw [hcat, ← List.append_assoc]; exact hws'.append (.cons _ _ .nil), rfl, rfl⟩, by walk_at "sub", by kernel_rfl!, .refl _⟩
end Mine

end
section
open PySem PySem.W PyProof.Rows PySem.Calls
set_option maxHeartbeats 16000000
namespace Mine
local macro_rules | `(tactic| walk_at "in") => `(tactic| with_reducible repeat' (first | exact List.mem_cons_self | refine List.mem_cons_of_mem _ ?_))
local macro_rules | `(tactic| walk_at "up") => `(tactic| with_reducible repeat' (first | exact UpB.head | apply UpB.tail))
local macro_rules | `(tactic| walk_at "upo") => `(tactic| with_reducible repeat' (first | exact Up.head | apply Up.tail))
local macro_rules | `(tactic| walk_at "nm") => `(tactic| refine r_local rfl rfl (by kernel_rfl!) (by kernel_rfl!) (by walk_at "in") ?_)
local macro_rules | `(tactic| walk_at "st") => `(tactic| refine r_storeN rfl rfl (by kernel_rfl!) (by kernel_rfl!) ?_)
local macro_rules | `(tactic| walk_at "re") => `(tactic| refine r_storeO rfl rfl (by kernel_rfl!) (by walk_at "up") ?_)
local macro_rules | `(tactic| walk_at "as") => `(tactic| refine r_cons (r_assign (by kernel_rfl!) ?_))
local macro_rules | `(tactic| walk_at "sub") => `(tactic| repeat' (first | exact SubB.nil | refine SubB.cons (by walk_at "in") ?_))
local macro_rules | `(tactic| walk_at "sl") => `(tactic| repeat' (first | exact List.Sublist.refl _ | exact List.nil_sublist _ | refine List.Sublist.cons_cons _ ?_ | refine List.Sublist.cons _ ?_))
variable {w : World} {A : Around} {g : Heap} {L : Addr} {n : Nat}
theorem law_run {name qual : Str} {params : Arguments} {body : List Stmt} {scope : Scope} {dV kV doc pm cdv ct oc : Value} {an od : Option Addr} {osl : Array (Option Value)} {fa D : Addr} {cv : Value} {vs : List Value} {ns : List Int} {n0 : Int} {cap : Nat} {oP oL oH oS : Obj}
    (ho : (Mine.hd.heap_39 w.params).lookup 236 = some ⟨oc, od, .func (fnOf name qual params body scope dV kV doc pm an cdv ct), osl⟩)
    (O : Okay (Mine.hd.heap_39 w.params) (n+8) A (envOfC qual scope L fa cv) g L) (hi : IntsAre vs (n0 :: ns)) (hn : ns.length ≤ 20)
    (dP : oP.data = .cell none) (dL : oL.data = .cell none) (dH : oH.data = .cell none) (dS : oS.data = .cell none) :
    Run PySem.Challenge.rw_pk0110_01.row.prog w A g L (execs body.tail (envOfC qual scope L fa cv)) (fun fl _ _ => fl = .ret (.bool true)) [(Str.ofString "numbers", .ref D)] [(D, lstO vs cap), (L + 1 + 1 + 1 + 1, oS), (L + 1 + 1 + 1, oH), (L + 1 + 1, oL), (L + 1, oP)] := by
  have h := fn_of ho (o' := ⟨_, _, .func (fnOf _ _ _ _ _ _ _ _ _ _ _ _), _⟩) (by rfl)
  have h1 := congrArg (fun o : Obj => match o.data with | .func f => (f.qualname, f.scope, f.body) | _ => (qual, scope, .stmts body)) h
  obtain ⟨e1, h2⟩ := Prod.mk.inj h1
  obtain ⟨e2, h3⟩ := Prod.mk.inj h2
  have e3 := FuncBody.stmts.inj h3
  dsimp only at e1 e2
  clear h1 h2 h3 h ho
  subst e1 e2 e3
  dsimp only [List.tail]
  -- parts = 4 * 2 ** (numbers[0] % 4)
  walk_at "as"
  refine r_bin (r_cint fun _ => r_bin (r_cint fun _ => r_bin (r_sub ?_)))
  walk_at "nm"
  obtain ⟨t0, ht0⟩ := hi.get 0 n0 rfl
  refine r_cint fun _ => r_item List.mem_cons_self (by decide) (by decide) (by exact ht0) (by kernel_rfl!) (r_cint fun _ => i_mod (by decide) fun _ => ?_)
  have hf1 : 0 ≤ n0.fmod 4 := by rw [Int.fmod_eq_emod_of_nonneg _ (by omega)]; omega
  have hf2 : n0.fmod 4 < 4 := by rw [Int.fmod_eq_emod_of_nonneg _ (by omega)]; omega
  refine i_pow hf1 (by omega) (by decide) fun _ => i_mul (IntMulOk.of_left (intBits_le_64 (by decide) (by decide))) fun tP => ?_
  have eP : (4 : Int) * 2 ^ (n0.fmod 4).toNat = (pP n0 : Int) := by unfold pP; push_cast; rfl
  rw [eP]
  have hP := pP_parts n0
  generalize hPP : pP n0 = P at *
  refine r_storeC rfl (by rfl) (by rfl) dP (by walk_at "in") fun oP' dP' => ⟨_, .tail (.tail (.tail (.tail .head))), ?_⟩
  dsimp only
  have hP32 : P ≤ 32 ∧ 4 ≤ P := by rcases hP with rfl | rfl | rfl | rfl <;> omega
  -- leap = 1 + numbers[0] // 4 % (parts // 2) * 2
  walk_at "as"
  refine r_bin (r_cint fun _ => r_bin (r_bin (r_bin (r_sub ?_))))
  walk_at "nm"
  refine r_cint fun _ => r_item List.mem_cons_self (by decide) (by decide) (by exact ht0) (by kernel_rfl!) (r_cint fun _ => i_div (by decide) (PyProof.noPylong_small (by decide)) fun _ => r_bin ?_)
  refine r_cell rfl (by rfl) (by kernel_rfl!) (by rfl) (by walk_at "in") dP' ?_
  refine r_cint fun _ => i_div (by decide) (PyProof.noPylong_small (by decide)) fun _ => ?_
  have e2 : (P : Int).fdiv 2 = ((P / 2 : Nat) : Int) := by rw [Int.fdiv_eq_ediv_of_nonneg _ (by omega)]; omega
  rw [e2]
  refine i_mod (by omega) fun _ => ?_
  have hq := pQ_lt n0
  rw [hPP] at hq
  rw [hq.2]
  refine r_cint fun _ => i_mul (IntMulOk.of_left (intBits_le_64 (by omega) (by omega))) fun _ => i_add fun tL => ?_
  have eL : (1 : Int) + (pQ n0 : Int) * 2 = (pL n0 : Int) := by unfold pL; push_cast; rfl
  rw [eL]
  have hl1 : pL n0 = 1 + pQ n0 * 2 := rfl
  have hs1 := pS_lt n0
  rw [hPP] at hs1
  generalize hLL : pL n0 = leap at *
  have hlP : leap < P ∧ 1 ≤ leap := by omega
  refine r_storeC rfl (by rfl) (by rfl) dL (by walk_at "in") fun oL' dL' => ⟨_, .tail (.tail (.tail .head)), ?_⟩
  dsimp only
  -- start = numbers[0] // 64 % parts
  walk_at "as"
  refine r_bin (r_bin (r_sub ?_))
  walk_at "nm"
  refine r_cint fun _ => r_item List.mem_cons_self (by decide) (by decide) (by exact ht0) (by kernel_rfl!) (r_cint fun _ => i_div (by decide) (PyProof.noPylong_small (by decide)) fun _ => ?_)
  refine r_cell rfl (by rfl) (by kernel_rfl!) (by rfl) (by walk_at "in") dP' ?_
  refine i_mod (by omega) fun tS => ?_
  rw [hs1.2]
  generalize hSS : pS n0 = start at *
  walk_at "st"
  -- hues = _law_hues(numbers, parts, leap, start)
  walk_at "as"
  refine r_call (by kernel_rfl!) (r_glob O (by kernel_rfl!) (by kernel_rfl!) (by rfl) (r_cwK O (by kernel_rfl!) (by kernel_rfl!) (by kernel_rfl!) (r_scons (by kernel_rfl!) ?_)))
  walk_at "nm"
  refine r_scons (by kernel_rfl!) ?_
  refine r_cell rfl (by rfl) (by kernel_rfl!) (by rfl) (by walk_at "in") dP' ?_
  refine r_scons (by kernel_rfl!) ?_
  refine r_cell rfl (by rfl) (by kernel_rfl!) (by rfl) (by walk_at "in") dL' ?_
  refine r_scons (by kernel_rfl!) ?_
  walk_at "nm"
  refine r_snil (hues_run O hP hlP.1 hs1.1 List.mem_cons_self hi (by simp) (by simp; omega) fun H us cH hus => ?_)
  walk_at "st"
  -- if len(hues) != parts
  refine r_cons (r_if (r_tcmp (by kernel_rfl!) (r_call (by kernel_rfl!) (r_blt O (by kernel_rfl!) (by kernel_rfl!) (by kernel_rfl!) rfl (by decide) (r_cwB (by kernel_rfl!) (by kernel_rfl!) (r_scons (by kernel_rfl!) ?_))))))
  walk_at "nm"
  have hul : us.length = P := by rw [hus.length, hueL_len]
  refine r_snil (r_len (t := (P : Int)) List.mem_cons_self (by rw [hul]) (by omega) fun _ => ?_)
  refine r_cell rfl (by rfl) (by kernel_rfl!) (by rfl) (by walk_at "in") dP' ?_
  refine i_ne (r_tbool ?_)
  rw [if_neg (by simp)]
  refine r_nil ?_
  dsimp only
  -- word = ''.join(['b' if hue >= parts - leap else 'a' for hue in hues])
  walk_at "as"
  refine r_mcall (by rfl) (r_cstr fun _ => t_gmJoin (r_cwB (by kernel_rfl!) (by kernel_rfl!) (r_scons (by kernel_rfl!) ?_)))
  refine r_listcomp (by intro _; rfl) (by rfl) (by decide) (by rfl) (by decide) ?_
  walk_at "nm"
  refine r_listIter List.mem_cons_self fun it oI hl C Dw oF => RunC.perm perm3 (rc_startS rfl rfl (fun K' k' => r_listSelf hl List.mem_cons_self k') ?_)
  refine rc_loop (fun m b' N' => ∃ i oI' ws cap', LI H i oI' ∧ m + i = P ∧ TextsAre ws ((wl P leap start i).map ab) ∧ b' = [] ∧ N' = (it, oI') :: (L, oF) :: (Dw, lstO ws cap') :: [(H, lstO us cH), (D, lstO vs cap), (L + 1 + 1 + 1 + 1, oS), (L + 1 + 1 + 1, oH), (L + 1 + 1, oL'), (L + 1, oP')]) P ⟨_, _, ⟨0, oI, [], 0, hl, by omega, .nil, rfl, rfl⟩, by walk_at "sub", by kernel_rfl!, .refl _⟩ ?_
  rintro m b' N' ⟨i, oI', ws, cap', hl', hmi, hws, rfl, rfl⟩
  refine r_turn ?_
  have hwl : ws.length = i := by rw [hws.length, List.length_map, wl_len]
  by_cases hend : i = P
  · rw [hend] at hl' hws hwl
    refine r_listEnd O.hh hl' (by walk_at "in") (by rw [List.getElem?_eq_none_iff]; omega) ?_
    dsimp only
    refine ⟨_, ?_, .refl _⟩
    refine r_snil (t_join List.mem_cons_self hws (joinOk_ab (by rw [wl_flat, List.length_map, List.length_range]; omega)) fun tw => ?_)
    rw [join_ab, wl_flat]
    have erot : ((List.range P).map fun k => wb P leap ((start + k * leap) % P)) = rot P leap start := rfl
    rw [erot]
    walk_at "st"
    have hpair : Pair P leap := pair_of (by have := in_pairs hP hq.1; rw [← hl1] at this; exact this)
    have r := law_run2 (ho := by rfl) O hi (by simp) (by simp; omega) hP hlP hs1.1 hus hpair dP' dL' dH dS (cH := cH) (cap := cap) (tw := tw) (tS := tS) (H := H) (D := D)
    dsimp only [List.drop] at r
    exact Run.forget r (by walk_at "sub") (by kernel_rfl!) (.cons _ (.refl _))
  · have hiP : i < P := by omega
    obtain ⟨ti, hti⟩ := hus.get i (((start + i * leap) % P : Nat) : Int) (by simp [hueL, hiP])
    refine r_listNext hl' (by walk_at "in") hti fun oI2 hl2 => ?_
    dsimp only
    refine r_goName (r_asName ?_)
    walk_at "st"
    refine r_tests0 ?_
    rw [if_pos rfl]
    refine r_ifexp (r_tcmp (by kernel_rfl!) ?_)
    walk_at "nm"
    refine r_bin (r_cell rfl (by kernel_rfl!) (by kernel_rfl!) (by rfl) (by walk_at "in") dP' ?_)
    refine r_cell rfl (by kernel_rfl!) (by kernel_rfl!) (by rfl) (by walk_at "in") dL' ?_
    refine i_sub fun _ => i_ge (r_tbool ?_)
    have ew : decide ((P : Int) - (leap : Int) ≤ (((start + i * leap) % P : Nat) : Int)) = wb P leap ((start + i * leap) % P) := by
      unfold wb; apply decide_eq_decide.mpr; omega
    rw [ew]
    cases hwb : wb P leap ((start + i * leap) % P)
    · rw [if_neg Bool.false_ne_true]
      refine r_cstr fun tc => ?_
      rw [ab_a1]
      refine r_append (.tail (.tail .head)) (sz (by omega)) ?_
      exact ⟨_, _, ⟨m - 1, by omega, i + 1, oI2, _, _, hl2, by omega, by rw [wl_succ, hwb]; exact hws.snoc, rfl, rfl⟩, by walk_at "sub", by kernel_rfl!, .refl _⟩
    · rw [if_pos rfl]
      refine r_cstr fun tc => ?_
      rw [ab_b1]
      refine r_append (.tail (.tail .head)) (sz (by omega)) ?_
      exact ⟨_, _, ⟨m - 1, by omega, i + 1, oI2, _, _, hl2, by omega, by rw [wl_succ, hwb]; exact hws.snoc, rfl, rfl⟩, by walk_at "sub", by kernel_rfl!, .refl _⟩
end Mine

end
section
open PySem PySem.W PyProof.Rows PySem.Calls
set_option maxHeartbeats 8000000
namespace Mine
/-- tokens are made by a constant: from there on the walk is a Run -/
theorem start_run {prog : Program} {w : World} {A : Around} {g : Heap} {L : Addr} {env : Env} {b : Bd} {N : Lg} {s : Shared} {x y : Str} {i : Int} {k : Nat} {p1 p2 p3 p4 p5 p6 pos : Pos} {e2 : Expr} {rest : List Stmt} {S : Value} {K : Flow → Bd → Lg → Prop} {Q : Flow → Shared → Prop} {E : Value → Shared → Prop}
    (St : Sta g L s.heap b N) (hL : env.locals = L) (hk : env.scope.kind = .function) (hl : env.kindOf y = some .local) (hd : (y == ("__debug__" : Str)) = false) (hv : (y, S) ∈ b)
    (hsw : swapsWith (.BinOp (.Subscript (.Name y p1) (.Slice none (some (.Constant (.int i) k p2)) none p3) p4) .Add e2 p5) (some (.Name x p6)) pos.line env = pure false)
    (r : ∀ u a, Run prog w A g L (subscriptTail (.Name y p1) (.Slice none (some (.Constant (.int i) k p2)) none p3) S (.ref a)) (fun l => Run prog w A g L (eval e2 env) (fun c => Run prog w A g L (binaryOp .Add l c) (fun v => Run prog w A g L (storeName env x v) (fun _ => Run prog w A g L (execs rest env) K)))) b ((a, slcO .none (.int i u) .none) :: N))
    (kk : ∀ fl h' tk b' N', Stp g L { s with heap := h', toks := tk } b' N' → K fl b' N' → Q fl { s with heap := h', toks := tk }) :
    wpAny (model prog w) A (execs (.Assign [.Name x p6] (.BinOp (.Subscript (.Name y p1) (.Slice none (some (.Constant (.int i) k p2)) none p3) p4) .Add e2 p5) pos :: rest) env) Q E s := by
  obtain ⟨m, F, hb⟩ := id St.fr
  subst hL
  refine wpAny_execs_cons (wpAny_Assign_Name (wpAny_BinOp (Subscript_ (wpAny_Name (wpAny_loadName_local hk hl F.ns (hb (y, S) hv) (wpAny_Slice (wpAny_pure (wpAny_Constant_int (k := k) (pos := p2) (wpAny_pure ?_))))) hd))) hsw)
  have S1 := St.push (slcO .none (.int i s.toks) .none)
  refine (r s.toks s.heap.objs.size).use (s := { s with heap := s.heap.push (slcO .none (.int i s.toks) .none), toks := s.toks + 1 }) ⟨S1, Nat.succ_pos _⟩ fun _ _ _ _ _ S2 r2 => r2.use S2 fun _ _ _ _ _ S3 r3 => r3.use S3 fun _ _ _ _ _ S4 r4 => r4.use S4 fun _ _ _ _ _ S5 r5 => ?_
  exact r5.use S5 fun fl h' tk b' N' S' k => kk fl h' tk b' N' S' k
local macro_rules | `(tactic| walk_at "in") => `(tactic| with_reducible repeat' (first | exact List.mem_cons_self | refine List.mem_cons_of_mem _ ?_))
local macro_rules | `(tactic| walk_at "up") => `(tactic| with_reducible repeat' (first | exact UpB.head | apply UpB.tail))
local macro_rules | `(tactic| walk_at "upo") => `(tactic| with_reducible repeat' (first | exact Up.head | apply Up.tail))
local macro_rules | `(tactic| walk_at "nm") => `(tactic| refine r_local rfl rfl (by kernel_rfl!) (by kernel_rfl!) (by walk_at "in") ?_)
local macro_rules | `(tactic| walk_at "st") => `(tactic| refine r_storeN rfl rfl (by kernel_rfl!) (by kernel_rfl!) ?_)
local macro_rules | `(tactic| walk_at "re") => `(tactic| refine r_storeO rfl rfl (by kernel_rfl!) (by walk_at "up") ?_)
local macro_rules | `(tactic| walk_at "as") => `(tactic| refine r_cons (r_assign (by kernel_rfl!) ?_))
local macro_rules | `(tactic| walk_at "sub") => `(tactic| repeat' (first | exact SubB.nil | refine SubB.cons (by walk_at "in") ?_))
local macro_rules | `(tactic| walk_at "sl") => `(tactic| repeat' (first | exact List.Sublist.refl _ | exact List.nil_sublist _ | refine List.Sublist.cons_cons _ ?_ | refine List.Sublist.cons _ ?_))
theorem law_enter {w : World} {A : Around} {g : Heap} {L : Addr} {n : Nat} {name qual : Str} {params : Arguments} {body : List Stmt} {scope : Scope} {dV kV doc pm cdv ct oc : Value} {an od : Option Addr} {osl : Array (Option Value)} {fa S : Addr} {cv : Value} {vs : List Value} {sc : List Int} {oP oL oH oS : Obj} {s : Shared} {Q : Flow → Shared → Prop} {E : Value → Shared → Prop}
    (ho : (Mine.hd.heap_39 w.params).lookup 236 = some ⟨oc, od, .func (fnOf name qual params body scope dV kV doc pm an cdv ct), osl⟩)
    (O : Okay (Mine.hd.heap_39 w.params) (n+8) A (envOfC qual scope L fa cv) g L) (hL : g.IsList S vs.toArray) (hi : IntsAre vs sc) (hn : sc.length ≤ 63)
    (dP : oP.data = .cell none) (dL : oL.data = .cell none) (dH : oH.data = .cell none) (dS : oS.data = .cell none)
    (St : Sta g L s.heap [(Str.ofString "script", .ref S)] [(L + 1 + 1 + 1 + 1, oS), (L + 1 + 1 + 1, oH), (L + 1 + 1, oL), (L + 1, oP)])
    (kk : ∀ h' tk m', Fr g L h' m' → Q (.ret (.bool true)) { s with heap := h', toks := tk }) :
    wpAny (model PySem.Challenge.rw_pk0110_01.row.prog w) A (execs body (envOfC qual scope L fa cv)) Q E s := by
  have h := fn_of ho (o' := ⟨_, _, .func (fnOf _ _ _ _ _ _ _ _ _ _ _ _), _⟩) (by rfl)
  have h1 := congrArg (fun o : Obj => match o.data with | .func f => (f.qualname, f.scope, f.body) | _ => (qual, scope, .stmts body)) h
  obtain ⟨e1, h2⟩ := Prod.mk.inj h1
  obtain ⟨e2, h3⟩ := Prod.mk.inj h2
  have e3 := FuncBody.stmts.inj h3
  dsimp only at e1 e2
  clear h1 h2 h3 h ho
  subst e1 e2 e3
  refine start_run (K := fun fl _ _ => fl = .ret (.bool true)) St rfl rfl (by kernel_rfl!) (by kernel_rfl!) List.mem_cons_self (by kernel_rfl!) (fun u a => ?_) fun fl h' tk b' N' S' k => ?_
  · refine r_lstSl (m := 0) (fun s' St' => let ⟨o, q, r⟩ := hL; ⟨o, St'.keep _ _ q, r⟩) List.mem_cons_self .none (.int 8 u) (pick_take vs 8) (sz (by rw [hi.length]; omega)) rfl (fun _ => rfl) fun d => ?_
    refine r_list (r_scons (by kernel_rfl!) (r_cint fun t1 => r_scons (by kernel_rfl!) (r_cint fun t2 => r_snil (r_nlist (sz (by simp)) fun c => ?_))))
    have hj : IntsAre [.int 90 t1, .int 7 t2] [90, 7] := .cons _ _ (.cons _ _ .nil)
    refine r_lstAdd (c1 := 0) (c2 := 0) (.tail _ (.head _)) (.head _) (hi.take 8) hj (by simp; omega) fun D hij => ?_
    walk_at "st"
    obtain ⟨n0, ns, ens⟩ : ∃ n0 ns, sc.take 8 ++ [90, 7] = n0 :: ns := by
      cases h : sc.take 8 ++ [90, 7] with
      | nil => simp at h
      | cons a l => exact ⟨a, l, rfl⟩
    have hln : ns.length ≤ 20 := by
      have := congrArg List.length ens
      simp at this; omega
    rw [ens] at hij
    have r := law_run (ho := by rfl) O hij hln dP dL dH dS (D := D) (cap := 0)
    dsimp only [List.tail] at r
    exact Run.forget r (by walk_at "sub") (by kernel_rfl!) (.cons_cons _ (.cons _ (.cons _ (.cons _ (.refl _)))))
  · subst k
    obtain ⟨m', F', _⟩ := S'.st.fr
    exact kk h' tk m' F'
end Mine

end
section
open PySem PySem.W PyProof.Rows PySem.Calls
set_option maxHeartbeats 8000000
namespace Mine
theorem nd4 (L : Nat) : ([L + 1 + 1 + 1 + 1, L + 1 + 1 + 1, L + 1 + 1, L + 1] : List Nat).Nodup := by
  refine List.nodup_cons.mpr ⟨?_, List.nodup_cons.mpr ⟨?_, List.nodup_cons.mpr ⟨?_, List.nodup_cons.mpr ⟨?_, .nil⟩⟩⟩⟩ <;> simp only [List.mem_cons, List.not_mem_nil, or_false] <;> first | omega | simp
theorem all_holds : PySem.Challenge.rw_pk0110_01.Holds := by
  refine Mine.hd ?_
  k_go0
  rename Fr _ _ _ _ => F
  rename Top _ _ _ _ _ _ => T
  rename Below _ _ _ _ => B
  rename Frag.In _ _ => KX
  rename News _ _ _ _ => N0
  rename IntsAre _ _ => hI
  rename Heap.IsList _ _ _ => hL
  rename CellsAre _ _ _ => X0
  refine law_enter (n := 10) (ho := by rfl) ⟨KX, ⟨_, _, _, _, _, T⟩, ⟨_, _, _, B, rfl⟩, rfl, rfl, rfl, rfl, rfl, rfl, by show callerA.depth + 1 + (10 + 8) < recursionLimit; decide, by show callerA.units + 3 + 8 * (10 + 8) < cLine; decide⟩ hL hI (by omega) (by assumption) (by assumption) (by assumption) (by assumption) ⟨⟨_, F, ?_⟩, N0, ?_, ?_⟩ ?_
  · intro p hp
    cases hp with
    | head => rfl
    | tail _ h => cases h
  · exact nd4 _
  · simp
  · intro h' tk m' F'
    clear F
    wrow_close
end Mine

end
theorem PySem.Challenge.cw_pk0110_01_holds : PySem.Challenge.rw_pk0110_01.Holds :=
  Mine.all_holds
