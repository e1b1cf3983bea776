import PyProof.Rows.All
import Wide.All
import OpenK.AllK
import Wide.FinOn
import Lean
import PySem.Challenge.RW_eh5018_01
set_option Elab.async false
section
open PySem PySem.W PySem.Calls PyProof.Rows
set_option Elab.async false
set_option maxRecDepth 100000
namespace Mine

abbrev PH := Addr → Option Obj
def Le (I J : PH) : Prop := ∀ a o, I a = some o → J a = some o
def PH.put (I : PH) (a : Addr) (o : Obj) : PH := fun b => if b = a then some o else I b
structure Hp (I : PH) (Mu : List (Addr × Obj)) (h : Heap) : Prop where
  imm : ∀ a o, I a = some o → h.get? a = some o
  mu : ∀ p ∈ Mu, h.get? p.1 = some p.2 ∧ I p.1 = none
  nd : (Mu.map (·.1)).Nodup

theorem Le.rfl {I : PH} : Le I I := fun _ _ e => e
theorem Le.trans {I J L : PH} (a : Le I J) (b : Le J L) : Le I L := fun _ _ e => b _ _ (a _ _ e)
section
variable {I J : PH} {Mu Mu' pre post : List (Addr × Obj)} {h h' : Heap} {a : Addr} {o o' : Obj} {f : Obj → Obj}
theorem Hp.get (S : Hp I Mu h) (m : (a, o) ∈ Mu) : h.get? a = some o := (S.mu _ m).1
theorem Hp.free (S : Hp I Mu h) : I h.objs.size = none := by
  cases q : I h.objs.size with
  | none => rfl
  | some o => exact absurd (Heap.lt_size (S.imm _ _ q)) (Nat.lt_irrefl _)
theorem Hp.lt (S : Hp I Mu h) {p : Addr × Obj} (m : p ∈ Mu) : p.1 < h.objs.size := Heap.lt_size (S.mu _ m).1
theorem Hp.push (S : Hp I Mu h) (o : Obj) (hf : o.isFreed = false := by rfl) : Hp I ((h.objs.size, o) :: Mu) (h.push o) := by
  refine ⟨fun b x e => Heap.get?_push_of_some _ (S.imm b x e), fun p m => ?_, ?_⟩
  · rcases List.mem_cons.mp m with rfl | m
    · exact ⟨Heap.get?_push_size _ hf, S.free⟩
    · exact ⟨Heap.get?_push_of_some _ (S.mu p m).1, (S.mu p m).2⟩
  · refine List.nodup_cons.mpr ⟨fun m => ?_, S.nd⟩
    obtain ⟨p, hp, e⟩ := List.mem_map.mp m
    exact absurd (e ▸ S.lt hp) (Nat.lt_irrefl _)
theorem Hp.keep (S : Hp I Mu h) (k : ∀ b x, h.get? b = some x → h'.get? b = some x) : Hp I Mu h' :=
  ⟨fun b x e => k _ _ (S.imm b x e), fun p m => ⟨k _ _ (S.mu p m).1, (S.mu p m).2⟩, S.nd⟩
theorem Hp.sub (S : Hp I Mu h) (hs : List.Sublist Mu' Mu) : Hp I Mu' h :=
  ⟨S.imm, fun p m => S.mu p (hs.subset m), (hs.map _).nodup S.nd⟩
theorem Hp.perm (S : Hp I Mu h) (hp : List.Perm Mu Mu') : Hp I Mu' h :=
  ⟨S.imm, fun p m => S.mu p (hp.mem_iff.mpr m), (hp.map _).nodup_iff.mp S.nd⟩
theorem Hp.le (S : Hp J Mu h) (k : Le I J) : Hp I Mu h :=
  ⟨fun b x e => S.imm b x (k _ _ e), fun p m => ⟨(S.mu p m).1, by
    cases q : I p.1 with
    | none => rfl
    | some x => have := k _ _ q; rw [(S.mu p m).2] at this; cases this⟩, S.nd⟩
theorem Hp.tail {p : Addr × Obj} (S : Hp I (p :: Mu) h) : Hp I Mu h := S.sub (List.sublist_cons_self _ _)
theorem nodup_mid {α : Type} {l r : List α} {x : α} (h : (l ++ x :: r).Nodup) : x ∉ l ∧ x ∉ r := by
  rw [List.nodup_append] at h
  obtain ⟨_, h2, h3⟩ := h
  exact ⟨fun m => h3 x m x (.head _) rfl, (List.nodup_cons.mp h2).1⟩
theorem Hp.ne (S : Hp I (pre ++ (a, o) :: post) h) : (∀ p ∈ pre, p.1 ≠ a) ∧ ∀ p ∈ post, p.1 ≠ a := by
  have := S.nd
  rw [List.map_append, List.map_cons] at this
  obtain ⟨h1, h2⟩ := nodup_mid this
  exact ⟨fun p m e => h1 (List.mem_map.mpr ⟨p, m, e⟩), fun p m e => h2 (List.mem_map.mpr ⟨p, m, e⟩)⟩
theorem Hp.at_ (S : Hp I (pre ++ (a, o) :: post) h) (hs : ∀ b, b ≠ a → h'.get? b = h.get? b) (ho : h'.get? a = some o') : Hp I (pre ++ (a, o') :: post) h' := by
  obtain ⟨n1, n2⟩ := S.ne
  have ha := (S.mu (a, o) (by simp)).2
  refine ⟨fun b x e => (hs b fun q => ?_).trans (S.imm b x e), fun p m => ?_, ?_⟩
  · subst q; rw [ha] at e; cases e
  · rcases List.mem_append.mp m with m | m
    · have P := S.mu p (List.mem_append_left _ m); exact ⟨(hs _ (n1 p m)).trans P.1, P.2⟩
    · rcases List.mem_cons.mp m with rfl | m
      · exact ⟨ho, ha⟩
      · have P := S.mu p (List.mem_append_right _ (.tail _ m)); exact ⟨(hs _ (n2 p m)).trans P.1, P.2⟩
  · have := S.nd
    simpa using this
theorem Hp.upd (S : Hp I (pre ++ (a, o) :: post) h) (e : f o = o') (hf : o'.isFreed = false := by rfl) : Hp I (pre ++ (a, o') :: post) (h.update a f) :=
  S.at_ (fun b hb => Heap.get?_update_ne _ _ _ _ hb) (e ▸ Heap.get?_update_self _ (S.get (by simp)) (e ▸ hf))
theorem Hp.freeze (S : Hp I (pre ++ (a, o) :: post) h) : Hp (I.put a o) (pre ++ post) h := by
  obtain ⟨n1, n2⟩ := S.ne
  refine ⟨fun b x e => ?_, fun p m => ?_, ?_⟩
  · unfold PH.put at e
    split at e
    · rename_i q; cases e; rw [q]; exact S.get (by simp)
    · exact S.imm _ _ e
  · have P : p ∈ pre ++ (a, o) :: post := by
      rcases List.mem_append.mp m with m | m
      · exact List.mem_append_left _ m
      · exact List.mem_append_right _ (.tail _ m)
    refine ⟨(S.mu p P).1, ?_⟩
    unfold PH.put
    rw [if_neg, (S.mu p P).2]
    rcases List.mem_append.mp m with m | m
    · exact n1 p m
    · exact n2 p m
  · have := S.nd
    rw [List.map_append, List.map_cons] at this
    rw [List.map_append]
    rw [List.nodup_append] at this ⊢
    obtain ⟨g1, g2, g3⟩ := this
    exact ⟨g1, (List.nodup_cons.mp g2).2, fun x hx y hy => g3 x hx y (.tail _ hy)⟩
theorem Hp.none_of (S : Hp I (pre ++ (a, o) :: post) h) : I a = none := (S.mu (a, o) (by simp)).2
theorem Le.put (hn : I a = none) : Le I (I.put a o) := fun b x e => by
  unfold PH.put
  rw [if_neg]
  · exact e
  · rintro rfl; rw [hn] at e; cases e
theorem put_self : (I.put a o) a = some o := by unfold PH.put; rw [if_pos rfl]
end

inductive Ud (a : Addr) (o o' : Obj) : List (Addr × Obj) → List (Addr × Obj) → Prop where
  | head {r : List (Addr × Obj)} : Ud a o o' ((a, o) :: r) ((a, o') :: r)
  | tail {p : Addr × Obj} {r r' : List (Addr × Obj)} : Ud a o o' r r' → Ud a o o' (p :: r) (p :: r')
theorem Ud.split {a : Addr} {o o' : Obj} {l l' : List (Addr × Obj)} (u : Ud a o o' l l') : ∃ pre post, l = pre ++ (a, o) :: post ∧ l' = pre ++ (a, o') :: post := by
  induction u with
  | head => exact ⟨[], _, rfl, rfl⟩
  | tail _ ih => obtain ⟨pre, post, rfl, rfl⟩ := ih; exact ⟨_ :: pre, post, rfl, rfl⟩
theorem Ud.mem {a : Addr} {o o' : Obj} {l l' : List (Addr × Obj)} (u : Ud a o o' l l') : (a, o) ∈ l := by
  obtain ⟨pre, post, rfl, _⟩ := u.split; simp
inductive Rm1 (a : Addr) (o : Obj) : List (Addr × Obj) → List (Addr × Obj) → Prop where
  | head {r : List (Addr × Obj)} : Rm1 a o ((a, o) :: r) r
  | tail {p : Addr × Obj} {r r' : List (Addr × Obj)} : Rm1 a o r r' → Rm1 a o (p :: r) (p :: r')
theorem Rm1.split {a : Addr} {o : Obj} {l l' : List (Addr × Obj)} (u : Rm1 a o l l') : ∃ pre post, l = pre ++ (a, o) :: post ∧ l' = pre ++ post := by
  induction u with
  | head => exact ⟨[], _, rfl, rfl⟩
  | tail _ ih => obtain ⟨pre, post, rfl, rfl⟩ := ih; exact ⟨_ :: pre, post, rfl, rfl⟩
theorem Rm1.perm {a : Addr} {o : Obj} {l l' : List (Addr × Obj)} (u : Rm1 a o l l') : List.Perm l ((a, o) :: l') := by
  obtain ⟨pre, post, rfl, rfl⟩ := u.split; exact List.perm_middle

abbrev Vs := List (Str × Option Value)
def FrO (o : Obj) (vs : Vs) : Prop := ∃ es ep, o.data = .dict es ep ∧ StrKeys es ∧ ∀ name, nsFind es name = (vs.lookup name).join
structure EnvF (env : Env) (lo : List Str) : Prop where
  fn : env.scope.kind = .function
  nd : lo.Nodup
  lo : ∀ x ∈ lo, env.kindOf x = some .local ∧ (x == ("__debug__" : Str)) = false
structure InF (I : PH) (env : Env) (vs : Vs) (Mu : List (Addr × Obj)) (h : Heap) : Prop where
  ef : EnvF env (vs.map (·.1))
  fr : ∃ oL, FrO oL vs ∧ Hp I ((env.locals, oL) :: Mu) h
theorem lookup_mem {α : Type} {x : Str} {v : α} : ∀ {vs : List (Str × α)}, (vs.map (·.1)).Nodup → (x, v) ∈ vs → vs.lookup x = some v
  | (y, u) :: r, nd, m => by
    rw [List.map_cons, List.nodup_cons] at nd
    rcases List.mem_cons.mp m with e | m2
    · cases e; rw [List.lookup_cons, beq_self_eq_true]
    · have : (x == y) = false := by
        rw [beq_eq_false_iff_ne]; intro q; exact nd.1 (List.mem_map.mpr ⟨_, m2, q⟩)
      rw [List.lookup_cons, this]; exact lookup_mem nd.2 m2
section
variable {I J : PH} {env : Env} {vs vs' : Vs} {Mu Mu' : List (Addr × Obj)} {h h' : Heap} {a : Addr} {o o' : Obj}
theorem InF.ns (S : InF I env vs Mu h) : h.Ns env.locals (fun x => (vs.lookup x).join) := by
  obtain ⟨oL, ⟨es, ep, hd, hk, hf⟩, H⟩ := S.fr
  exact ⟨oL, es, ep, H.get (.head _), hd, hk, hf⟩
theorem InF.val (S : InF I env vs Mu h) {x : Str} {v : Option Value} (m : (x, v) ∈ vs) : (vs.lookup x).join = v := by
  rw [lookup_mem S.ef.nd m]; rfl
theorem InF.hp (S : InF I env vs Mu h) : Hp I Mu h := let ⟨_, _, H⟩ := S.fr; H.tail
theorem InF.imm (S : InF I env vs Mu h) : ∀ a o, I a = some o → h.get? a = some o := S.hp.imm
theorem InF.get (S : InF I env vs Mu h) (m : List.Mem (a, o) Mu) : h.get? a = some o := S.hp.get m
theorem InF.le (S : InF J env vs Mu h) (k : Le I J) : InF I env vs Mu h := let ⟨oL, f, H⟩ := S.fr; ⟨S.ef, oL, f, H.le k⟩
theorem InF.sub (S : InF I env vs Mu h) (hs : List.Sublist Mu' Mu) : InF I env vs Mu' h := let ⟨oL, f, H⟩ := S.fr; ⟨S.ef, oL, f, H.sub (hs.cons_cons _)⟩
theorem InF.perm (S : InF I env vs Mu h) (hp : List.Perm Mu Mu') : InF I env vs Mu' h := let ⟨oL, f, H⟩ := S.fr; ⟨S.ef, oL, f, H.perm (hp.cons _)⟩
theorem InF.keep (S : InF I env vs Mu h) (k : ∀ b x, h.get? b = some x → h'.get? b = some x) : InF I env vs Mu h' := let ⟨oL, f, H⟩ := S.fr; ⟨S.ef, oL, f, H.keep k⟩
theorem InF.push (S : InF I env vs Mu h) (o : Obj) (hf : o.isFreed = false := by rfl) : InF I env vs ((h.objs.size, o) :: Mu) (h.push o) :=
  let ⟨oL, f, H⟩ := S.fr; ⟨S.ef, oL, f, (H.push o hf).perm (.swap _ _ _)⟩
theorem InF.upd {f : Obj → Obj} (S : InF I env vs Mu h) (u : Ud a o o' Mu Mu') (e : f o = o') (hf : o'.isFreed = false := by rfl) : InF I env vs Mu' (h.update a f) := by
  obtain ⟨pre, post, rfl, rfl⟩ := u.split
  obtain ⟨oL, fr, H⟩ := S.fr
  exact ⟨S.ef, oL, fr, Hp.upd (pre := (env.locals, oL) :: pre) H e hf⟩
theorem InF.at_ (S : InF I env vs Mu h) (u : Ud a o o' Mu Mu') (hs : ∀ b, b ≠ a → h'.get? b = h.get? b) (ho : h'.get? a = some o') : InF I env vs Mu' h' := by
  obtain ⟨pre, post, rfl, rfl⟩ := u.split
  obtain ⟨oL, fr, H⟩ := S.fr
  exact ⟨S.ef, oL, fr, Hp.at_ (pre := (env.locals, oL) :: pre) H hs ho⟩
theorem InF.freeze (S : InF I env vs Mu h) (u : Rm1 a o Mu Mu') : InF (I.put a o) env vs Mu' h ∧ Le I (I.put a o) := by
  obtain ⟨pre, post, rfl, rfl⟩ := u.split
  obtain ⟨oL, fr, H⟩ := S.fr
  exact ⟨⟨S.ef, oL, fr, Hp.freeze (pre := (env.locals, oL) :: pre) H⟩, Le.put (Hp.none_of (pre := (env.locals, oL) :: pre) H)⟩
inductive UV (x : Str) (v : Value) : Vs → Vs → Prop where
  | head {w : Option Value} {r : Vs} : UV x v ((x, w) :: r) ((x, some v) :: r)
  | tail {p : Str × Option Value} {r r' : Vs} : UV x v r r' → UV x v (p :: r) (p :: r')
theorem UV.keys {x : Str} {v : Value} (u : UV x v vs vs') : vs'.map (·.1) = vs.map (·.1) := by
  induction u with
  | head => rfl
  | tail _ ih => rw [List.map_cons, List.map_cons, ih]
theorem UV.mem {x : Str} {v : Value} (u : UV x v vs vs') : x ∈ vs.map (·.1) := by
  induction u with
  | head => exact .head _
  | tail _ ih => exact .tail _ ih
theorem UV.lookup {x : Str} {v : Value} (u : UV x v vs vs') : (vs.map (·.1)).Nodup → ∀ y, (vs'.lookup y).join = if y = x then some v else (vs.lookup y).join := by
  induction u with
  | @head w r =>
    intro _ y
    rw [List.lookup_cons, List.lookup_cons]
    by_cases q : y = x
    · subst q; simp
    · rw [if_neg q, beq_eq_false_iff_ne.mpr q]
  | @tail p r r' u ih =>
    intro nd y
    rw [List.map_cons, List.nodup_cons] at nd
    rw [List.lookup_cons, List.lookup_cons]
    by_cases q : y = p.1
    · subst q
      rw [beq_self_eq_true, if_neg]
      rintro e; exact nd.1 (e ▸ u.mem)
    · rw [beq_eq_false_iff_ne.mpr q]; exact ih nd.2 y
theorem InF.store {x : Str} {v : Value} (S : InF I env vs Mu h) (u : UV x v vs vs') (hn : h'.Ns env.locals (fun y => if y = x then some v else (vs.lookup y).join)) (hs : Heap.SameBut env.locals h h') : InF I env vs' Mu h' := by
  obtain ⟨oL, _, H⟩ := S.fr
  obtain ⟨oL', es, ep, ho, hd, hk, hf⟩ := hn
  refine ⟨u.keys ▸ S.ef, oL', ⟨es, ep, hd, hk, fun y => (hf y).trans (u.lookup S.ef.nd y).symm⟩, Hp.at_ (pre := []) H (fun b hb => hs.2 b hb) ho⟩
theorem InF.opn {front rest : List (Addr × Obj)} (S : InF I env vs Mu h) (p : List.Perm Mu (front ++ rest)) : ∃ oL, FrO oL vs ∧ Hp I (front ++ (env.locals, oL) :: rest) h := by
  obtain ⟨oL, f, H⟩ := S.fr
  exact ⟨oL, f, H.perm ((p.cons _).trans List.perm_middle.symm)⟩
theorem InF.cls {front rest : List (Addr × Obj)} {oL : Obj} (e : EnvF env (vs.map (·.1))) (f : FrO oL vs) (H : Hp I (front ++ (env.locals, oL) :: rest) h) : InF I env vs (front ++ rest) h :=
  ⟨e, oL, f, H.perm List.perm_middle⟩
end

structure Rm (A : Around) (n : Nat) : Prop where
  h : A.handled = none
  d : A.depth + 2 * n ≤ 900
  u : A.units + 10 * n ≤ 9000
section
variable {A : Around} {n m : Nat}
theorem Rm.deeper (R : Rm A (n + 1)) (env : Env) : Rm (A.deeper env) n := by
  obtain ⟨h, d, u⟩ := R
  refine ⟨h, ?_, ?_⟩
  · show A.depth + 1 + 2 * n ≤ 900; omega
  · show A.units + 3 + 10 * n ≤ 9000; omega
theorem Rm.in1 (R : Rm A (n + 1)) : Rm A.in1 n := by
  obtain ⟨h, d, u⟩ := R
  refine ⟨h, ?_, ?_⟩
  · show A.depth + 2 * n ≤ 900; omega
  · show A.units + 1 + 10 * n ≤ 9000; omega
theorem Rm.le (R : Rm A n) (hm : m ≤ n) : Rm A m := ⟨R.h, by have := R.d; omega, by have := R.u; omega⟩
theorem Rm.room (R : Rm A n) : A.depth < recursionLimit := by have := R.d; show A.depth < 1000; omega
theorem Rm.units (R : Rm A n) : A.units < cLine := by have := R.u; show A.units < 9900; omega
end

structure Gl (K : Frag) (mg mb : Str → Option Value) (I : PH) : Prop where
  k : ∀ a o, K.lookup a = some o → I a = some o
  ns : ∀ h : Heap, (∀ a o, I a = some o → h.get? a = some o) → h.Ns mainGlobals mg ∧ h.Ns builtinsNs mb ∧ h.NoLimit
  bui : ∀ x : Str, x ≠ "__name__" → mb x = bootBuiltins x
def Gv (K : Frag) (x : Str) (v : Value) : Prop := nsIn K mainGlobals x = some (some v) ∨ (nsIn K mainGlobals x = some none ∧ bootBuiltins x = some v ∧ x ≠ "__name__")
structure Kg (K : Frag) (env : Env) (gl : List (Str × Value)) : Prop where
  glo : env.globals = mainGlobals
  bui : env.builtins = builtinsNs
  gl : ∀ p ∈ gl, env.kindOf p.1 = some .globalImplicit ∧ (p.1 == ("__debug__" : Str)) = false ∧ Gv K p.1 p.2
section
variable {K : Frag} {mg mb : Str → Option Value} {I J : PH} {h : Heap}
theorem Gl.kin (G : Gl K mg mb I) (S : ∀ a o, I a = some o → h.get? a = some o) : K.In h := fun a o e => S a o (G.k a o e)
theorem Gl.le (G : Gl K mg mb I) (k : Le I J) : Gl K mg mb J := ⟨fun a o e => k _ _ (G.k a o e), fun h e => G.ns h fun a o q => e a o (k _ _ q), G.bui⟩
end
section
variable {M : Model} {A : Around} {E : Value → Shared → Prop} {s : Shared} {K : Frag} {mg mb : Str → Option Value} {I : PH} {env : Env} {vs vs' : Vs} {Mu : List (Addr × Obj)} {gl : List (Str × Value)} {x : Str} {v : Value} {pos : Pos}
theorem nm_L {Q : Value → Shared → Prop} (S : InF I env vs Mu s.heap) (m : List.Mem (x, some v) vs) (h : Q v s) : wpAny M A (eval (.Name x pos) env) Q E s :=
  have e := S.ef.lo x (List.mem_map.mpr ⟨_, m, rfl⟩)
  wpAny_Name (wpAny_loadName_local S.ef.fn e.1 S.ns (S.val m) h) e.2
theorem ln_L {Q : Value → Shared → Prop} (S : InF I env vs Mu s.heap) (m : List.Mem (x, some v) vs) (h : Q v s) : wpAny M A (loadName env x) Q E s :=
  have e := S.ef.lo x (List.mem_map.mpr ⟨_, m, rfl⟩)
  wpAny_loadName_local S.ef.fn e.1 S.ns (S.val m) h
theorem nm_G {Q : Value → Shared → Prop} (G : Gl K mg mb I) (S : InF I env vs Mu s.heap) (k : Kg K env gl) (m : List.Mem (x, v) gl) (h : Q v s) : wpAny M A (eval (.Name x pos) env) Q E s := by
  obtain ⟨e1, e2, e3⟩ := k.gl _ m
  obtain ⟨n1, n2, _⟩ := G.ns s.heap S.imm
  refine Name_function_global S.ef.fn e1 ?_ e2
  rcases e3 with e | ⟨e, b, ne⟩
  · exact loadGlobal_global (k.glo ▸ n1) (mg_of (G.kin S.imm) n1 e) h
  · exact loadGlobal_builtin (k.glo ▸ n1) (mg_none_of (G.kin S.imm) n1 e) (k.bui ▸ n2) ((G.bui x ne).trans b) h
theorem st_L {Q : Unit → Shared → Prop} (S : InF I env vs Mu s.heap) (u : UV x v vs vs') (h : ∀ h', InF I env vs' Mu h' → Q () { s with heap := h', toks := s.toks + 1 }) :
    wpAny M A (storeName env x v) Q E s :=
  have e := S.ef.lo x u.mem
  wpAny_storeName_local e.1 S.ns (fun h' hn hs => h h' (S.store u hn hs)) (by
    have := S.ef.fn
    show (env.scope.kind == .class || (env.scope.kind == .module && env.locals != env.globals)) = false
    rw [this]; rfl)
end

structure FnF (K : Frag) (f : Addr) (fd : FuncData) (body : List Stmt) (lo : List Str) (gl : List (Str × Value)) : Prop where
  at_ : ∃ oc od osl, K.lookup f = some ⟨oc, od, .func fd, osl⟩
  code : codeIn K fd.code fd.qualname = true
  body : fd.body = .stmts body
  co : fd.scope.isCoroutine = false
  gen : fd.scope.isGenerator = false
  kind : fd.scope.kind = .function
  nocell : ∀ x ∈ fd.scope.names, x.2 ≠ .cell
  glo : fd.globals = mainGlobals
  bui : fd.builtins = builtinsNs
  lond : lo.Nodup
  lok : ∀ x ∈ lo, fd.scope.names.lookup x = some .local ∧ (x == ("__debug__" : Str)) = false
  glk : ∀ p ∈ gl, fd.scope.names.lookup p.1 = some .globalImplicit ∧ (p.1 == ("__debug__" : Str)) = false ∧ Gv K p.1 p.2
theorem lookup_rev {α : Type} {l : List (Str × α)} (nd : (l.map (·.1)).Nodup) (x : Str) : l.reverse.lookup x = l.lookup x := by
  cases q : l.lookup x with
  | none =>
    rw [List.lookup_eq_none_iff] at q ⊢
    intro p hp; exact q p (List.mem_reverse.mp hp)
  | some v =>
    have hm : (x, v) ∈ l := by
      obtain ⟨l₁, l₂, e, _⟩ := List.lookup_eq_some_iff.mp q
      rw [e]; simp
    refine lookup_mem ?_ (List.mem_reverse.mpr hm)
    rw [List.map_reverse]; exact (List.reverse_perm _).nodup_iff.mpr nd
theorem lookup_binds (binds : List (Str × Value)) (unb : List Str) (x : Str) : (((binds.map fun p => (p.1, some p.2)) ++ unb.map fun y => (y, (none : Option Value))).lookup x).join = binds.lookup x := by
  induction binds with
  | nil =>
    rw [List.map_nil, List.nil_append, List.lookup_nil]
    induction unb with
    | nil => rfl
    | cons y r ih =>
      rw [List.map_cons, List.lookup_cons]
      split
      · rfl
      · exact ih
  | cons p r ih =>
    rw [List.map_cons, List.cons_append, List.lookup_cons, List.lookup_cons]
    split
    · rfl
    · exact ih
section
variable {prog : Program} {w : World} {A : Around} {R : Result → Shared → Prop} {s : Shared} {K : Frag} {mg mb : Str → Option Value} {I : PH} {Mu : List (Addr × Obj)} {f : Addr} {fd : FuncData} {body : List Stmt} {lo unb : List Str} {gl : List (Str × Value)} {args : Args} {binds : List (Str × Value)} {n : Nat}
theorem enter (F : FnF K f fd body lo gl) (G : Gl K mg mb I) (S : Hp I Mu s.heap) (hr : Rm A (n + 1)) (hb : BindsTo s fd args binds) (hlo : binds.map (·.1) ++ unb = lo)
    (h : ∀ env h', InF I env ((binds.map fun p => (p.1, some p.2)) ++ unb.map fun y => (y, none)) Mu h' → Kg K env gl → Rm (A.deeper env) n →
      wpAny (model prog w) (A.deeper env) (execs body env) (fun fl s' => R (.ok (.ret (match fl with | .ret v => v | _ => .none))) s') (fun _ _ => False) { s with heap := h', toks := s.toks + binds.length }) :
    codeAny (model prog w) A (.call (.ref f) args) R s := by
  obtain ⟨oc, od, osl, hK⟩ := F.at_
  obtain ⟨_, _, hlim⟩ := G.ns s.heap S.imm
  have hkeys : ((binds.map fun p => (p.1, some p.2)) ++ unb.map fun y => (y, (none : Option Value))).map (·.1) = lo := by
    rw [List.map_append, List.map_map, List.map_map, ← hlo]
    congr 1
    exact List.map_id _
  have hbl : ∀ x ∈ binds.map (·.1), x ∈ lo := fun x m => hlo ▸ List.mem_append_left _ m
  have hbnd : (binds.map (·.1)).Nodup := (List.nodup_append.mp (hlo ▸ F.lond)).1
  refine codeAny_call_def (fd := fd) (body := body) (binds := binds) hr.room (S.imm _ _ (G.k _ _ hK)) rfl hlim (codeRec_of (G.kin S.imm) F.code) F.body hb F.nocell
    (fun x m => (F.lok x.1 (hbl _ (List.mem_map_of_mem m))).1) (fun h₀ hns hk => ?_) F.co F.gen F.kind
  have E : EnvF (callEnv fd s.heap.objs.size f) lo := ⟨F.kind, F.lond, F.lok⟩
  obtain ⟨oL, es, ep, ho, hd, hks, hf⟩ := hns
  refine wpAny_mono (h (callEnv fd s.heap.objs.size f) h₀ ⟨hkeys ▸ E, oL, ⟨es, ep, hd, hks, fun y => ?_⟩, ?_⟩ ⟨F.glo, F.bui, fun p m => F.glk p m⟩ (hr.deeper _)) (fun _ _ z => z) fun _ _ z => z.elim
  · exact (hf y).trans ((lookup_rev hbnd y).trans (lookup_binds binds unb y).symm)
  · have P := S.keep hk
    refine ⟨P.imm, fun p m => ?_, ?_⟩
    · rcases List.mem_cons.mp m with rfl | m
      · exact ⟨ho, S.free⟩
      · exact P.mu p m
    · refine List.nodup_cons.mpr ⟨fun m => ?_, S.nd⟩
      obtain ⟨p, hp, e⟩ := List.mem_map.mp m
      exact absurd (e ▸ S.lt hp) (Nat.lt_irrefl _)
end
end Mine
end

section
open PySem PySem.W PySem.Calls PyProof.Rows
set_option Elab.async false
set_option maxRecDepth 100000
namespace Mine
structure SlotF (K : Frag) (C : Addr) (name : Str) (p : Addr) (i : Nat) : Prop where
  pg : plainGet K C name = true
  ic : isClsIn K C = true
  fi : findIn K (.ref C) name = some (some (.ref p))
  sg : specialIn K (.ref p) "__get__" = some (some (.builtin "member_descriptor.__get__"))
  ti : takesIn K (.ref p) = some true
  sl : slotIn K p C = some i
  sa : findIn K (.ref C) "__setattr__" = some (some (.builtin "object.__setattr__"))
  po : plainOver K C = true
  tk : takerIn K C name = some (some (.ref p))
  ty : typeIn K (.ref p) = some (.type "member_descriptor")
  lt : i < 1000
def slotChk (K : Frag) (C : Addr) (name : Str) (p i : Nat) : Bool :=
  plainGet K C name && isClsIn K C && (findIn K (.ref C) name == some (some (.ref p))) && (specialIn K (.ref p) "__get__" == some (some (.builtin "member_descriptor.__get__"))) && (takesIn K (.ref p) == some true) && (slotIn K p C == some i) &&
  (findIn K (.ref C) "__setattr__" == some (some (.builtin "object.__setattr__"))) && plainOver K C && (takerIn K C name == some (some (.ref p))) && (typeIn K (.ref p) == some (.type "member_descriptor")) && decide (i < 1000)
theorem SlotF.of {K : Frag} {C : Addr} {name : Str} {p i : Nat} (e : slotChk K C name p i = true) : SlotF K C name p i := by
  simp only [slotChk, Bool.and_eq_true, beq_iff_eq, decide_eq_true_eq] at e
  obtain ⟨⟨⟨⟨⟨⟨⟨⟨⟨⟨a, b⟩, c⟩, d⟩, e⟩, f⟩, g⟩, h⟩, i⟩, j⟩, k⟩ := e
  exact ⟨a, b, c, d, e, f, g, h, i, j, k⟩
structure MethF (K : Frag) (C : Addr) (name : Str) (f : Addr) : Prop where
  ga : findIn K (.ref C) "__getattribute__" = some (some (.builtin "object.__getattribute__"))
  gt : findIn K (.ref C) "__getattr__" = some none
  fi : findIn K (.ref C) name = some (some (.ref f))
  ty : typeIn K (.ref f) = some (.type "function")
  kp : keepIn K (.ref f) = true
def methChk (K : Frag) (C : Addr) (name : Str) (f : Addr) : Bool :=
  (findIn K (.ref C) "__getattribute__" == some (some (.builtin "object.__getattribute__"))) && (findIn K (.ref C) "__getattr__" == some none) && (findIn K (.ref C) name == some (some (.ref f))) && (typeIn K (.ref f) == some (.type "function")) && keepIn K (.ref f)
theorem MethF.of {K : Frag} {C : Addr} {name : Str} {f : Addr} (e : methChk K C name f = true) : MethF K C name f := by
  simp only [methChk, Bool.and_eq_true, beq_iff_eq] at e
  obtain ⟨⟨⟨⟨a, b⟩, c⟩, d⟩, e⟩ := e
  exact ⟨a, b, c, d, e⟩
structure ClsF (K : Frag) (C : Addr) (name : Str) (v : Value) : Prop where
  rd : readsIn K C (.type "type") = true
  fi : findCls K (.ref C) (.type "type") name = some (.val v)
  hd : handedIn v = true
theorem ClsF.of {K : Frag} {C : Addr} {name : Str} {v : Value} (a : readsIn K C (.type "type") = true) (b : findCls K (.ref C) (.type "type") name = some (.val v)) (c : handedIn v = true) : ClsF K C name v := ⟨a, b, c⟩

def InstO (C dx : Addr) (slots : List (Option Value)) : Obj := ⟨.ref C, some dx, .plain, slots.toArray⟩
section
variable {prog : Program} {w : World} {A : Around} {E : Value → Shared → Prop} {s : Shared} {K : Frag} {mg mb : Str → Option Value} {I : PH} {env : Env} {vs : Vs} {Mu Mu' : List (Addr × Obj)} {x C dx p f : Addr} {i : Nat} {slots slots' : List (Option Value)} {name : Str} {v : Value} {expr : Bool}
theorem instAt {h : Heap} (hx : h.get? x = some (InstO C dx slots)) (hd : h.get? dx = some (dictOf [] 0)) : InstAt h x (InstO C dx slots) C (some (dictOf [] 0)) := ⟨hx, rfl, rfl, hd⟩
theorem gs_slot {Q : Value → Shared → Prop} (G : Gl K mg mb I) (S : InF I env vs Mu s.heap) (F : SlotF K C name p i) (hx : s.heap.get? x = some (InstO C dx slots)) (hd : I dx = some (dictOf [] 0)) (hv : slots[i]? = some (some v)) (hh : handedIn v = true)
    (h : Q v { s with toks := s.toks + 1 }) : wpAny (model prog w) A (getAttr (.ref x) name expr) Q E s := by
  have I' := instAt hx (S.imm _ _ hd)
  have X := G.kin S.imm
  refine get_bind X I' (plainGet_of F.pg).1 (findObj_data F.ic F.fi F.sg F.ti) (plainGet_of F.pg).2 (wpAny_call (slot_get (s := { s with toks := s.toks + 1 }) X I' F.sl ?_ (handed_on hh h)))
  show (slots.toArray[i]?).join = some v
  rw [List.getElem?_toArray, hv]; rfl
theorem slot_setS {R : Result → Shared → Prop} {ox : Obj} {od : Option Obj} (X : K.In s.heap) (I : InstAt s.heap x ox C od)
    (hp : slotIn K p C = some i) (hi : i < 1000)
    (h : R (.ok (.ret .none)) { s with heap := s.heap.update x fun o => { o with slots := (o.slots ++ Array.replicate (i + 1 - o.slots.size) none).setIfInBounds i (some v) } }) :
    codeAny (model prog w) A (.call (.builtin "member_descriptor.__set__") ⟨[.ref p, .ref x, v], []⟩) R s := by
  obtain ⟨n, tn, owner, behind, tb, d, sl, cd, ho, hc, hm, hb, rfl⟩ := slot_of X hp
  obtain ⟨hh, g, dr, t, os⟩ := s
  have L0 := I.type (M := model prog w)
  have L1 := looks_mroIn (M := model prog w) X hm
  have L2 : Looks (model prog w) hh (Builtin.Slots.slotNamesOf (.ref C)) cd.slotNames := (looks_clsIn X hc).andThen .now
  have hx := I.at_
  dsimp only at ho hx L0 L1
  have f0 := looks_field (M := model prog w) ho 0 (v := .str n tn) rfl
  have f1 := looks_field (M := model prog w) ho 1 (v := owner) rfl
  have f3 := looks_field (M := model prog w) ho 3 (v := .builtin "proto.slot#set") rfl
  have f4 := looks_field (M := model prog w) ho 4 (v := .int behind tb) rfl
  refine codeAny_call_builtin KF.slot_mset.plain KF.entry_mset (KF.slot_mset.check _ _ _ _ _ _ _ _ ⟨_, ho, rfl⟩ (KF.args_mset _ _ _) ?_)
  unfold Builtin.«member_descriptor.__set__» Builtin.Getset_descriptor.descrSet Builtin.Getset_descriptor.descrStoreThrough Builtin.Getset_descriptor.descrCheckInstance Builtin.Getset_descriptor.descrNameAndClass isInstance
  have f5 : Looks (model prog w) hh (Builtin.Getset_descriptor.descrItself (.ref p)) [.ref p] := ((Looks.ld (part := none) ho).andThen .now).andThen (Looks.of_pure (by kernel_rfl))
  repeat lk
  refine ⟨Code.quiet_builtin _ (by decide +kernel), codeAny_builtin KF.entry_slotset ?_⟩
  unfold Builtin.«proto.slot#set» Builtin.Slots.target
  repeat lk
  rw [if_neg hb]
  refine wpAny_pure (wpAny_bind ?_)
  unfold setSlotAt
  dsimp only
  rw [if_neg (by rw [sizeLine_eq]; omega)]
  exact wpAny_updatePart hx (wpAny_pure h)
theorem ss_slot {Q : Unit → Shared → Prop} (G : Gl K mg mb I) (S : InF I env vs Mu s.heap) (F : SlotF K C name p i) (hd : I dx = some (dictOf [] 0))
    (hs : ((slots ++ List.replicate (i + 1 - slots.length) none).set i (some v)) = slots') (u : Ud x (InstO C dx slots) (InstO C dx slots') Mu Mu')
    (h : ∀ h', InF I env vs Mu' h' → Q () { s with heap := h', toks := s.toks + 1 }) : wpAny (model prog w) A (setAttr (.ref x) name v) Q E s := by
  have hx := S.get u.mem
  have I' := instAt hx (S.imm _ _ hd)
  have X := G.kin S.imm
  refine set_plain X I' F.sa (osa_descr (s := { s with toks := s.toks + 1 }) KF.slot_mset X I' F.po F.tk F.ty (slot_setS (s := { s with toks := s.toks + 1 }) X I' F.sl F.lt ?_))
  refine h _ (S.upd u ?_)
  show (⟨_, _, _, ((slots.toArray ++ Array.replicate (i + 1 - slots.toArray.size) none).setIfInBounds i (some v))⟩ : Obj) = InstO C dx slots'
  unfold InstO
  rw [← hs]
  congr 1
  apply Array.toList_inj.mp
  simp
theorem gm_inst {pl : Sem Bool} {Q : Value × List Value → Shared → Prop} (G : Gl K mg mb I) (S : InF I env vs Mu s.heap) (F : MethF K C name f) (hx : s.heap.get? x = some (InstO C dx slots)) (hd : I dx = some (dictOf [] 0))
    (h : Q (.ref f, [.ref x]) s) : wpAny (model prog w) A (getMethod (.ref x) name pl) Q E s :=
  method_fn (G.kin S.imm) (instAt hx (S.imm _ _ hd)) F.ga F.gt F.fi F.ty (by show (lookIn name (dictOf [] 0)).map _ = _; rw [lookIn_dict]; rfl) h
theorem ga_cls {Q : Value → Shared → Prop} (G : Gl K mg mb I) (S : InF I env vs Mu s.heap) (F : ClsF K C name v) (h : Q v { s with toks := s.toks + 1 }) : wpAny (model prog w) A (getAttr (.ref C) name expr) Q E s :=
  cls_value (G.kin S.imm) F.rd F.fi F.hd h
end
structure ClsT (K : Frag) (C : Addr) (name : Str) (T : String) : Prop where
  rd : readsIn K C (.type "type") = true
  hm : findIn K (.type "type") name = some none
  hf : findIn K (.ref C) name = some (some (.type T))
  tt : typeOf (.type T) = pure (.type "type")
theorem ClsT.of {K : Frag} {C : Addr} {name : Str} {T : String} (a : readsIn K C (.type "type") = true) (b : findIn K (.type "type") name = some none) (c : findIn K (.ref C) name = some (some (.type T))) (d : typeOf (.type T) = pure (.type "type")) : ClsT K C name T := ⟨a, b, c, d⟩
theorem type_no_get : typeLookup (.type "type") "__get__" = pure none := by rw [typeLookup_type, builtinLookup_eq_fast]; kernel_rfl
section
variable {prog : Program} {w : World} {A : Around} {E : Value → Shared → Prop} {s : Shared} {K : Frag} {mg mb : Str → Option Value} {I : PH} {env : Env} {vs : Vs} {Mu : List (Addr × Obj)} {C : Addr} {name : Str} {T : String} {expr : Bool}
theorem ga_clsT {Q : Value → Shared → Prop} (G : Gl K mg mb I) (S : InF I env vs Mu s.heap) (F : ClsT K C name T) (h : Q (.type T) { s with toks := s.toks + 1 }) : wpAny (model prog w) A (getAttr (.ref C) name expr) Q E s := by
  have X := G.kin S.imm
  have hr := F.rd
  simp only [readsIn, Bool.and_eq_true, beq_iff_eq] at hr
  obtain ⟨⟨⟨⟨a, b⟩, c'⟩, d⟩, f⟩ := hr
  obtain ⟨hk, d⟩ := Option.isSome_iff_exists.mp d
  have ho := looks_opaque (M := model prog w) (C := C) X a
  have ht := looks_typeIn (M := model prog w) X b
  have hb := looks_hook (M := model prog w) X d
  refine wpAny_bind (wpAny_mkText (wpAny_holding (wpAny_bind (ht _ _ _ _ (fun _ _ e => e) (wpAny_bind (looks_findIn X c' _ _ _ _ (fun _ _ e => e) ?_))))))
  dsimp only
  rw [show (onTheHeap (Value.type "type") && Value.builtin "type.__getattribute__" == Value.builtin "object.__getattribute__") = false from by rw [show (Value.builtin "type.__getattribute__" == Value.builtin "object.__getattribute__") = false from by decide +kernel, Bool.and_false], if_neg (by decide)]
  refine wpAny_bind (hb _ _ _ _ (fun _ _ e => e) (wpAny_bind (wpAny_attempt (wpAny_holding ?_))))
  unfold callGetattribute
  rw [show (expr && onTheHeap (Value.builtin "type.__getattribute__")) = false from Bool.and_false _, if_neg (by decide)]
  unfold boundAndCalled
  rw [KF.slot_tga.bind]
  refine wpAny_bind (wpAny_pure ?_)
  show wpAny _ _ (call (.builtin "type.__getattribute__") [.ref C, .str name s.toks]) _ _ _
  refine wpAny_call ?_
  refine codeAny_call_builtin KF.slot_tga.plain KF.entry_tga ?_
  refine @check_slot (model prog w) _ _ { s with toks := s.toks + 1 } "type.__getattribute__" "type" "__getattribute__" (.ref C) [.str name s.toks] [] _ (by decide +kernel) (by decide +kernel) (ht.andThen (looks_subIn X f)) (KF.args_tga (.ref C) (.str name s.toks)) ?_
  obtain ⟨hh, g, dr, t, os⟩ := s
  dsimp only at X ho ht
  have L1 := looks_findIn (M := model prog w) X F.hm
  have L2 := looks_findIn (M := model prog w) X F.hf
  unfold Builtin.«type.__getattribute__»
  refine wpAny_bind (wpAny_pure (wpAny_bind (ho.at (wpAny_bind (ht.at (wpAny_bind (L1.at ?_)))))))
  dsimp only
  refine wpAny_bind (wpAny_pure ?_)
  refine wpAny_bind (L2.at ?_)
  dsimp only
  refine bm_if_false rfl ?_
  rw [F.tt]
  refine wpAny_bind (wpAny_pure ?_)
  refine bm_if_false (by decide +kernel) ?_
  unfold specialOf
  rw [F.tt]
  refine wpAny_bind (wpAny_bind (wpAny_pure ?_))
  rw [type_no_get]
  refine wpAny_pure ?_
  refine wpAny_bind (wpAny_pure (wpAny_pure ?_))
  exact wpAny_pure h
theorem gm_clsT {pl : Sem Bool} {Q : Value × List Value → Shared → Prop} (G : Gl K mg mb I) (S : InF I env vs Mu s.heap) (F : ClsT K C name T) (hg : specialIn K (.ref C) "__getattribute__" = some (some (.builtin "type.__getattribute__"))) (h : Q (.type T, []) { s with toks := s.toks + 1 }) :
    wpAny (model prog w) A (getMethod (.ref C) name pl) Q E s :=
  method_cls (G.kin S.imm) hg (ga_clsT G S F h)
end
section
variable {M : Model} {A : Around} {E : Value → Shared → Prop} {s : Shared} {K : Frag} {mg mb : Str → Option Value} {I : PH} {env : Env} {vs : Vs} {Mu : List (Addr × Obj)} {pos : Pos} {f : Value} {first : List Value}
theorem cw_0 {Q : Value → Shared → Prop} (G : Gl K mg mb I) (S : InF I env vs Mu s.heap) (hk : keepIn K f = true) (h : wpAny M A (call f (first ++ [])) Q E s) : wpAny M A (callWith pos f first (backTo pos (starEach [] env)) []) Q E s :=
  callWith_K0 (G.kin S.imm) hk h
theorem cw_1 {Q : Value → Shared → Prop} {e : Expr} {rest : List Expr} (G : Gl K mg mb I) (S : InF I env vs Mu s.heap) (hk : keepIn K f = true)
    (h : wpAny M A (spliced (backTo pos (starEach (e :: rest) env))) (fun vs s₁ => K.In s₁.heap ∧ wpAny M A (call f (first ++ vs)) Q E s₁) E s)
    (he : starEach (e :: rest) env = (false, eval e env) :: starEach rest env := by rfl) (hplain : (backTo pos (starEach rest env)).any (·.1) = false := by rfl) :
    wpAny M A (callWith pos f first (backTo pos (starEach (e :: rest) env)) []) Q E s := callWith_K (G.kin S.imm) hk h he hplain
end
def cdS (s : Str) : Nat := s.cps.toList.foldl (fun n c => n * 1114112 + c) 1
def ndp : List Nat → Bool
  | [] => true
  | a :: r => r.all (fun b => !(Nat.beq a b)) && ndp r
theorem ndp_nodup : ∀ {l : List Nat}, ndp l = true → l.Nodup
  | [], _ => .nil
  | a :: r, h => by
    simp only [ndp, Bool.and_eq_true, List.all_eq_true, Bool.not_eq_true'] at h
    exact List.nodup_cons.mpr ⟨fun m => Nat.ne_of_beq_eq_false (h.1 a m) rfl, ndp_nodup h.2⟩
theorem nodup_of_map {α β : Type} {f : α → β} : ∀ {l : List α}, (l.map f).Nodup → l.Nodup
  | [], _ => .nil
  | a :: r, h => by
    rw [List.map_cons, List.nodup_cons] at h
    exact List.nodup_cons.mpr ⟨fun m => h.1 (List.mem_map_of_mem m), nodup_of_map h.2⟩
section
variable {prog : Program} {w : World} {A : Around} {R : Result → Shared → Prop} {s : Shared} {K : Frag} {mg mb : Str → Option Value} {I : PH} {Mu : List (Addr × Obj)} {f : Addr} {fd : FuncData} {body : List Stmt} {lo unb : List Str} {gl : List (Str × Value)} {args : Args} {binds : List (Str × Value)} {n : Nat}
theorem inn (F : FnF K f fd body lo gl) (hb : ∀ S, peek K S (bindArgs fd args) = some binds) (hlo : binds.map (·.1) ++ unb = lo) (G : Gl K mg mb I) (S : Hp I Mu s.heap) (hr : Rm A (n + 1))
    (h : ∀ env h', InF I env ((binds.map fun p => (p.1, some p.2)) ++ unb.map fun y => (y, none)) Mu h' → Kg K env gl → Rm (A.deeper env) n →
      wpAny (model prog w) (A.deeper env) (execs body env) (fun fl s' => R (.ok (.ret (match fl with | .ret v => v | _ => .none))) s') (fun _ _ => False) { s with heap := h', toks := s.toks + binds.length }) :
    codeAny (model prog w) A (.call (.ref f) args) R s :=
  enter F G S hr (fun M A E Q hq => (Looks.of_peek (M := M) (G.kin S.imm) (hb _)).here hq) hlo h
end
def fnAt (K : Frag) (a : Addr) : FuncData := match K.lookup a with
  | some ⟨_, _, .func f, _⟩ => f
  | _ => default
def bodyOf (f : FuncData) : List Stmt := match f.body with
  | .stmts b => b
  | _ => []
def isFnAt (K : Frag) (a : Addr) : Bool := match K.lookup a with
  | some ⟨_, _, .func f, _⟩ => codeIn K f.code f.qualname && (match f.body with | .stmts _ => true | _ => false) && !f.scope.isCoroutine && !f.scope.isGenerator && f.scope.kind == .function && Nat.beq f.globals mainGlobals && Nat.beq f.builtins builtinsNs
  | _ => false
def fBody : Option Stmt → List Stmt
  | some (.FunctionDef _ _ b _ _ _ _ _ _ _) => b
  | _ => []
def cBody : Option Stmt → List Stmt
  | some (.ClassDef _ _ _ b _ _ _ _ _ _ _) => b
  | _ => []
def pB (p : Program) (i : Nat) : List Stmt := fBody p.main.body[i]?
def mB (p : Program) (i j : Nat) : List Stmt := fBody (cBody p.main.body[i]?)[j]?
theorem FnF.cast {K : Frag} {a : Addr} {fd : FuncData} {b b' : List Stmt} {lo : List Str} {gl : List (Str × Value)} (F : FnF K a fd b lo gl) (e : b = b') : FnF K a fd b' lo gl := e ▸ F
theorem FnF.of {K : Frag} {a : Addr} {lo : List Str} {gl : List (Str × Value)} (h : isFnAt K a = true) (hn : (fnAt K a).scope.names = lo.map (fun x => (x, .local)) ++ gl.map (fun p => (p.1, .globalImplicit)))
    (hc : ndp ((lo ++ gl.map (fun p => p.1) ++ [("__debug__" : Str)]).map cdS) = true) (hg : ∀ p ∈ gl, Gv K p.1 p.2) : FnF K a (fnAt K a) (bodyOf (fnAt K a)) lo gl := by
  have nd := nodup_of_map (ndp_nodup hc)
  have nd1 := List.nodup_append.mp nd
  have nd2 := List.nodup_append.mp nd1.1
  have keys : ((fnAt K a).scope.names.map (·.1)) = lo ++ gl.map (·.1) := by
    rw [hn, List.map_append, List.map_map, List.map_map]
    congr 1
    exact List.map_id _
  have ndk : ((fnAt K a).scope.names.map (·.1)).Nodup := keys ▸ nd1.1
  have dbg : ∀ x ∈ lo ++ gl.map (·.1), (x == ("__debug__" : Str)) = false := fun x m => by
    rw [beq_eq_false_iff_ne]; exact nd1.2.2 x m _ (.head _)
  unfold isFnAt at h
  split at h
  · rename_i oc od f osl e
    have ef : fnAt K a = f := by unfold fnAt; rw [e]
    simp only [Bool.and_eq_true, Bool.not_eq_true', beq_iff_eq] at h
    obtain ⟨⟨⟨⟨⟨⟨h1, h2⟩, h3⟩, h4⟩, h5⟩, h6⟩, h7⟩ := h
    refine ⟨⟨oc, od, osl, by rw [ef]; exact e⟩, ef ▸ h1, ?_, ef ▸ h3, ef ▸ h4, ef ▸ h5, fun x m => ?_, ef ▸ Nat.eq_of_beq_eq_true h6, ef ▸ Nat.eq_of_beq_eq_true h7, nd2.1, fun x m => ⟨?_, dbg x (List.mem_append_left _ m)⟩, fun p m => ⟨?_, dbg p.1 (List.mem_append_right _ (List.mem_map_of_mem m)), hg p m⟩⟩
    · rw [ef]
      unfold bodyOf
      split
      · rename_i q; rw [q]
      · rename_i q
        split at h2
        · rename_i b q2; exact absurd q2 (q b)
        · cases h2
    · rw [hn] at m
      rcases List.mem_append.mp m with m | m
      · obtain ⟨y, _, rfl⟩ := List.mem_map.mp m; exact fun e => nomatch e
      · obtain ⟨y, _, rfl⟩ := List.mem_map.mp m; exact fun e => nomatch e
    · exact lookup_mem ndk (by rw [hn]; exact List.mem_append_left _ (List.mem_map.mpr ⟨x, m, rfl⟩))
    · exact lookup_mem ndk (by rw [hn]; exact List.mem_append_right _ (List.mem_map.mpr ⟨p, m, rfl⟩))
  · cases h
end Mine
end

section
open PySem PySem.W PySem.Calls PyProof.Rows
set_option Elab.async false
set_option maxRecDepth 100000
namespace Mine
def badIds : List String := ["bytearray.__contains__", "bytearray.__mod__", "bytearray.__rmod__", "_struct.pack_into.held", "bytearray.find.held", "_struct.Struct.pack"] ++ Builtin.Bytes.decodersThatHold
def noDec : Code → Bool
  | .builtin id _ => !badIds.contains id
  | _ => true
structure Ok (n : Nat) (Γ : Ctx) : Prop where
  h : Γ.handled = none
  d : frameCount Γ.below + Γ.code.weight + 2 * n ≤ 900
  u : Γ.units + 10 * n ≤ 9000
  nc : noDec Γ.code = true
  nb : ∀ x ∈ Γ.below, noDec x.1 = true
structure OkB (n : Nat) (Γ : Ctx) : Prop where
  h : Γ.handled = none
  d : frameCount Γ.below + 2 * n ≤ 900
  u : unitsOf Γ.below + 10 * n ≤ 9000
  nc : noDec Γ.code = true
  nb : ∀ x ∈ Γ.below, noDec x.1 = true
def A0 : Around := { handled := none, depth := 900, frames := none, guards := none, units := 9000 }
theorem A0_room : A0.depth < recursionLimit := by decide
theorem A0_units : A0.units < cLine := by decide
section
variable {n m : Nat} {Γ : Ctx}
theorem Ok.inA (o : Ok n Γ) : Γ.In A0 := ⟨o.h, by have := o.d; show _ ≤ 900; omega, (fun l e => nomatch e), (fun l e => nomatch e), by have := o.u; show _ ≤ 9000; omega⟩
theorem Ok.le (o : Ok n Γ) (k : m ≤ n) : Ok m Γ := ⟨o.h, by have := o.d; omega, by have := o.u; omega, o.nc, o.nb⟩
theorem OkB.le (o : OkB n Γ) (k : m ≤ n) : OkB m Γ := ⟨o.h, by have := o.d; omega, by have := o.u; omega, o.nc, o.nb⟩
theorem Ok.enter (o : Ok n Γ) (c : Code) (p : Pos) (hc : noDec c = true) : OkB n (Γ.enter c none p) := by
  refine ⟨?_, ?_, ?_, hc, fun x m => ?_⟩
  · simp only [Ctx.enter, o.h, markOver_of_ne (show (none : Option Value) ≠ some byPass from fun e => nomatch e)]; rfl
  · have := o.d; simp only [Ctx.enter, frameCount_cons]; omega
  · have := o.u; rw [Ctx.units_enter]; exact this
  · rcases List.mem_cons.mp m with rfl | m
    · exact o.nc
    · exact o.nb x m
theorem OkB.goto (o : OkB n Γ) (c : Code) (hc : noDec c = true) : OkB n (Γ.goto c) := ⟨o.h, o.d, o.u, hc, o.nb⟩
theorem OkB.ok (o : OkB (n + 1) Γ) (hw : Γ.code.weight ≤ 2) (hu : Γ.code.cUnits ≤ 10) : Ok n Γ :=
  ⟨o.h, by have := o.d; omega, by have := o.u; show Γ.code.cUnits + unitsOf Γ.below + 10 * n ≤ 9000; omega, o.nc, o.nb⟩
end
def wpG {α : Type} (M : Model) (Γ : Ctx) (t : Sem α) (Q : α → Shared → Prop) (s : Shared) : Prop := ∀ p, Sem.wp M Γ t (fun a _ s' => Q a s') (fun _ _ _ => False) p s
def codeG (M : Model) (Γ : Ctx) (R : Result → Shared → Prop) (s : Shared) : Prop := ∀ p, wpCode M Γ R p s
section
variable {α β : Type} {M : Model} {Γ : Ctx} {s : Shared} {n : Nat} {Q : α → Shared → Prop}
theorem g_pure {a : α} (h : Q a s) : wpG M Γ (pure a) Q s := fun _ => h
theorem g_mono {t : Sem α} {Q' : α → Shared → Prop} (h : wpG M Γ t Q s) (k : ∀ a s, Q a s → Q' a s) : wpG M Γ t Q' s := fun p => Sem.wp_mono M Γ t (fun a _ s => k a s) (fun _ _ _ e => e) p s (h p)
theorem g_bind {m : Sem β} {f : β → Sem α} (h : wpG M Γ m (fun b s' => wpG M Γ (f b) Q s') s) : wpG M Γ (m >>= f) Q s := fun p => by
  rw [Sem.wp_bind']; exact Sem.wp_mono M Γ m (fun a p' s' h' => h' p') (fun _ _ _ e => e) p s (h p)
theorem g_bind' {m : Sem β} {f : β → Sem α} (h : wpG M Γ m (fun b s' => wpG M Γ (f b) Q s') s) : wpG M Γ (m.bind f) Q s := g_bind h
theorem g_leaf (o : Ok n Γ) {t : Sem α} (h : wpAny M A0 t Q (fun _ _ => False) s) : wpG M Γ t Q s := fun p => h Γ p o.inA
theorem g_eq {t : Sem α} {a : α} (e : t = pure a) (h : Q a s) : wpG M Γ t Q s := e ▸ g_pure h
theorem g_holding {vs : List Value} {t : Sem α} (h : wpG M Γ t Q s) : wpG M Γ (holding vs t) Q s := fun p => by rw [Sem.wp_holding]; exact h p
theorem g_onRaise {t : Sem α} {k : Value → Sem Unit} (h : wpG M Γ t Q s) : wpG M Γ (t.onRaise k) Q s := fun p => by
  rw [Sem.wp_onRaise]; exact Sem.wp_mono M Γ t (fun _ _ _ e => e) (fun _ _ _ e => e.elim) p s (h p)
theorem g_tryCatch {t : Sem α} {k : Value → Sem α} (h : wpG M Γ t Q s) : wpG M Γ (tryCatch t k) Q s := fun p => by
  rw [Sem.wp_tryCatch']; exact Sem.wp_mono M Γ t (fun _ _ _ e => e) (fun _ _ _ e => e.elim) p s (h p)
theorem g_attempt {t : Sem α} {Q : Except Value α → Shared → Prop} (h : wpG M Γ t (fun a => Q (.ok a)) s) : wpG M Γ t.attempt Q s := fun p => by
  rw [Sem.wp_attempt]; exact Sem.wp_mono M Γ t (fun _ _ _ e => e) (fun _ _ _ e => e.elim) p s (h p)
theorem g_rule {tag : String} {Q : Unit → Shared → Prop} (h : Q () s) : wpG M Γ (rule tag) Q s := fun _ => h
theorem g_point {Q : Unit → Shared → Prop} (h : Q () s) : wpG M Γ point Q s := fun _ => h
theorem g_standAt {pos : Pos} {Q : Unit → Shared → Prop} (h : Q () s) : wpG M Γ (standAt pos) Q s := fun _ => h
theorem g_at {pos : Pos} {t : Sem α} (h : wpG M Γ t Q s) : wpG M Γ (standAt pos >>= fun _ => t) Q s := g_bind (g_standAt h)
theorem g_operate {vs : List Value} {t : Sem Value} {Q : Value → Shared → Prop} (h : wpG M Γ t Q s) : wpG M Γ (operate vs t) Q s := fun p => by rw [Sem.wp_operate]; exact h p
theorem g_bindName {env : Env} {x : Str} {v : Value} {Q : Unit → Shared → Prop} (h : wpG M Γ (storeName env x v) Q s) : wpG M Γ (bindName env x v) Q s := fun p => by rw [Sem.wp_bindName]; exact h p
theorem g_if {c : Prop} [Decidable c] {a b : Sem α} (h1 : c → wpG M Γ a Q s) (h2 : ¬ c → wpG M Γ b Q s) : wpG M Γ (if c then a else b) Q s := by
  split
  · exact h1 ‹_›
  · exact h2 ‹_›
theorem g_tt {c : Prop} [Decidable c] {a b : Sem α} (hc : c) (h : wpG M Γ a Q s) : wpG M Γ (if c then a else b) Q s := by rw [if_pos hc]; exact h
theorem g_ff {c : Prop} [Decidable c] {a b : Sem α} (hc : ¬ c) (h : wpG M Γ b Q s) : wpG M Γ (if c then a else b) Q s := by rw [if_neg hc]; exact h
theorem g_load {a : Addr} {o : Obj} {Q : Obj → Shared → Prop} (ho : s.heap.get? a = some o) (h : Q o s) : wpG M Γ (load a) Q s := fun p => (Sem.wp_load_of M Γ _ p s ho _).mpr h
theorem g_stack (o : Ok n Γ) {Q : List (Code × Pos) → Shared → Prop} (h : ∀ st, (∀ x ∈ st, noDec x.1 = true) → Q st s) : wpG M Γ stack Q s := fun p => by
  show Q ((Γ.code, p) :: Γ.below) s
  refine h _ fun x m => ?_
  rcases List.mem_cons.mp m with rfl | m
  · exact o.nc
  · exact o.nb x m
theorem codeG_mono {R R' : Result → Shared → Prop} (h : codeG M Γ R s) (k : ∀ r s, R r s → R' r s) : codeG M Γ R' s := fun p => wpCode_mono k (h p)
theorem g_runValue (o : Ok n Γ) {c : Code} {Q : Value → Shared → Prop} (hc : noDec c = true)
    (h : ∀ Γ', Γ'.code = c → OkB n Γ' → codeG M Γ' (fun r s' => match r with | .ok (.ret v) => Q v s' | _ => False) s) : wpG M Γ (runValue c) Q s := fun p => by
  rw [Sem.wp_runValue]
  refine wpCode_mono ?_ (h (Γ.enter c none p) rfl (o.enter c p hc) p)
  rintro (e | (v | _ | _ | _)) s' z <;> exact z
theorem g_call (o : Ok n Γ) {f : Value} {pos : List Value} {kw : List (Str × Value)} {Q : Value → Shared → Prop}
    (h : ∀ Γ', Γ'.code = .call f ⟨pos, kw⟩ → OkB n Γ' → codeG M Γ' (fun r s' => match r with | .ok (.ret v) => Q v s' | _ => False) s) : wpG M Γ (call f pos kw) Q s := g_runValue o rfl h
theorem g_runOwn (o : Ok n Γ) {c : Code} {env : Env} {Q : Flow → Shared → Prop} (hc : noDec c = true)
    (h : ∀ Γ', Γ'.code = c → OkB n Γ' → codeG M Γ' (fun r s' => match r with | .ok f => Q f s' | _ => False) s) : wpG M Γ (runOwn c env none) Q s := by
  unfold runOwn
  refine g_onRaise fun p => ?_
  rw [Sem.wp_run]
  refine wpCode_mono ?_ (h (Γ.enter c none p) rfl (o.enter c p hc) p)
  rintro (e | f) s' z <;> exact z
theorem codeG_of_tree {R : Result → Shared → Prop} (h : wpG M Γ (M.den Γ.code) (fun fin s' => match fin with | .done f => R (.ok f) s' | .again c' => c'.quiet = true ∧ codeG M (Γ.goto c') R s') s) : codeG M Γ R s := fun p => by
  rw [wpCode_iff_wp]
  refine Sem.wp_mono M Γ _ (fun fin p' s' h' => ?_) (fun _ _ _ e => e.elim) p s (h p)
  cases fin with
  | done f => exact h'
  | again c' => exact ⟨h'.1, h'.2 p'⟩
theorem codeG_leaf (o : OkB n Γ) {R : Result → Shared → Prop} (h : codeAny M A0 Γ.code R s) : codeG M Γ R s :=
  fun p => h Γ p rfl ⟨o.h, by have := o.d; show _ ≤ 900; omega, (fun l e => nomatch e), (fun l e => nomatch e), by have := o.u; show _ ≤ 9000; omega⟩
end
end Mine
end

section
open PySem PySem.W PySem.Calls PyProof.Rows
set_option Elab.async false
set_option maxRecDepth 100000
namespace Mine
def Γ0 : Ctx := ⟨.builtin "claim.caller" {}, none, none, [], none⟩
theorem Γ0_ok : Ok 100 Γ0 := ⟨rfl, by show frameCount [] + (Code.builtin "claim.caller" {}).weight + 2 * 100 ≤ 900; decide +kernel, by show (Code.builtin "claim.caller" {}).cUnits + unitsOf [] + 10 * 100 ≤ 9000; decide +kernel, by decide +kernel, fun _ m => nomatch m⟩
theorem ends_at {prog : Program} {w : World} {t : Sem Fin} {s : Shared} {R : Result → Shared → Prop} (hreg : s.asleep)
    (h : wpG (model prog w) Γ0 t (fun fin s' => ∃ f, fin = .done f ∧ R (.ok f) s' ∧ leftWithCleanup s'.gens = false) s) :
    ∃ n r s' s'', runN (denote table) prog w n s ⟨t, .builtin "claim.caller" {}, default, []⟩ = .halted (outcomeOf r) s' ∧
      schedN (denote table) prog w n (.single s ⟨t, .builtin "claim.caller" {}, default, []⟩) = .halted (outcomeOf r) s' ∧ s'.forget = s''.forget ∧ R r s'' := by
  have hw : Sem.wp (model prog w) Γ0 t (Sem.finPost (model prog w) Γ0 fun r s' => R r s' ∧ leftWithCleanup s'.gens = false)
      (fun e _ s' => R (.error e) s' ∧ leftWithCleanup s'.gens = false) default s := by
    refine Sem.wp_mono _ _ t (fun fin p' s' h' => ?_) (fun _ _ _ e => e.elim) default s (h default)
    obtain ⟨f, rfl, hf⟩ := h'
    exact hf
  obtain ⟨n, r, s₁, s₂, hs, hn, hfo, hR⟩ := wp_halts_full (M := model prog w) (R := R) hreg hw
  exact ⟨n, r, s₂, s₁, hn, hs, hfo, hR⟩
theorem callFrom_at {c : ClaimW} {tree : List Value → Sem Fin} {w : World} {s : Shared} {free : Addr → Prop} {gens : Prop} {kept : Heap → Prop} (hz : s.asleep) (hgens : s.gens = #[])
    (hspec : ∀ args, c.pre args = true → WData.layableAll args = true → ∀ ord : List DictEntry → List DictEntry, (∀ l, (ord l).Perm l) →
      ∃ vs s₁, layAllW c.records (classAt s.heap) w.params ord args s = some (vs, s₁) ∧
        wpG (model c.prog w) Γ0 (tree vs) (fun fin s' => ∃ f, fin = .done f ∧ (c.Ends s args vs s₁ (.ok f) s' ∧ s'.os = s.os ∧ AllBare s'.gens ∧ kept s'.heap)) s₁) :
    c.CallFrom (fun vs => ⟨tree vs, .builtin "claim.caller" {}, default, []⟩) w free gens kept s := by
  intro args hpre hlay ord hord
  obtain ⟨vs, s₁, hlaid, hcode⟩ := hspec args hpre hlay ord hord
  have rest := layAllW_rest _ _ _ hlaid
  obtain ⟨k, r, s', s'', hrun, hsched, hfo, hcase, hos, hkp⟩ := ends_at (prog := c.prog) (w := w) (t := tree vs) (s := s₁)
    (R := fun r s' => c.Ends s args vs s₁ r s' ∧ s'.os = s.os ∧ kept s'.heap) (Shared.asleep_of_life rest.2.2.2 hz)
    (g_mono hcode fun fin s' h => by
      obtain ⟨f, e, h1, h2, h3, h4⟩ := h
      exact ⟨f, e, ⟨h1, h2, h4⟩, leftWithCleanup_false_of_bare h3⟩)
  obtain ⟨eh, _, _, eo, _⟩ := Shared.forget_eq hfo
  have hcase := hcase.congr eh
  rw [← eh] at hkp
  rw [← eo] at hos
  have hlife : s'.heap.life = s.heap.life := (runN_life _ _ _ hrun).trans rest.2.2.2
  refine ⟨vs, s₁, hlaid, k, _, s', hsched, ?_, (fun _ i x hx => by rw [hgens] at hx; simp at hx), hkp, by rw [hlife], Shared.rest_eq hos⟩
  rcases hcase with ⟨v, rfl, d1, d2, d3, d4, d5⟩ | ⟨e, ob, cls, rfl, d1, d2, d3, d4, d5⟩
  · exact .inl ⟨v, rfl, d1, d2, d3, fun b o y _ => d4 b o y, d5⟩
  · exact .inr ⟨e, ob, cls, rfl, d1, d2, d3, d4, fun b o y _ => d5 b o y⟩
abbrev WalkP (q : Program) (loose : List Str) (XP : (Str → Option Value) → Heap → Prop) (YP : World → Heap → Prop) (r : RowW) (d : DefRec) (kwd : List (Str × Expr)) : Prop :=
  ∀ (w : World) (s₀ s₁ : Shared) (mg mb : Str → Option Value), Ground q loose r.records XP w s₀ mg mb s₁.heap → YP w s₁.heap → ∀ (a : Addr) (o : Obj) (pm cd doc dV kV : Value), s₁.heap.get? a = some o →
    o.data = .func { docDef d.name d.params d.body d.scope pm cd doc with defaults := dV, kwdefaults := kV } → s₁.heap.CodeRec cd d.name → Dflts mg s₁.heap d.params kwd dV kV → mg d.name = some (.ref a) → s₁.gens = #[] →
    ∀ (args : List WData) (vals : List Value) (as : List Addr), r.claim.pre args = true → WData.layableAll args = true → ReadsAllW r.records (classAt s₀.heap) s₁.heap vals args as → WellAll w.params s₁.heap vals args → (∀ a ∈ as, (a == sysModules) = false) →
      wpG (model r.prog w) Γ0 (PySem.call (.ref a) vals) (fun v s' => GoodWG r.claim (classAt s₀.heap) (ExcName.means s₀.heap) args s₁ (.ok (.ret v)) s') s₁
theorem PySem.W.holds_open {r : OpenRow} {q : Program} {loose : List Str} {Xt : Shared → Bool} {XP : (Str → Option Value) → Heap → Prop} {α : Type} {Yf : Shared → α} {Ya : World → α} {YP : World → Heap → Prop} {d : DefRec} {kwd : List (Str × Expr)} {N : Nat}
    (left : LeftO r.prog q loose Xt Yf Ya N) (hY : ∀ w s, Yf s = Ya w → YP w s.heap) (hYk : ∀ w h h', YP w h → (∀ b o, h.get? b = some o → h'.get? b = some o) → YP w h')
    (hX : ∀ s, Xt s = true → XP (s.heap.nsMap mainGlobals) s.heap) (hXk : ∀ mg h h', XP mg h → (∀ b o, h.get? b = some o → h'.get? b = some o) → XP mg h')
    (hdef : defOf q r.name = some (d, kwd)) (hp : r.prog.theDef r.name = some (d.params, d.body, d.scope)) (hk : kwWritten? d.params.kwonlyargs d.params.kw_defaults = some kwd) (hRf : ∀ s, Xt s = true → RecFacts r.records s.heap) (hwr : (!r.writes || r.records.isEmpty) = true)
    (k1 : r.wellSaid = true) (ok : (chainsOk q && opensWell r.prog && (frees r.toRowW && r.within.isEmpty)) = true) (hb : r.prog.bare) (hw : r.toRowW.promised)
    (call : WalkP q loose XP YP r.toRowW d kwd) : r.Holds := by
  obtain ⟨ok, k5⟩ := Bool.and_eq_true_iff.mp ok
  obtain ⟨hch, o1⟩ := Bool.and_eq_true_iff.mp ok
  obtain ⟨k5, k6⟩ := Bool.and_eq_true_iff.mp k5
  obtain ⟨hsame, hu, ha, hap, hm⟩ := frees_parts k5
  have free := ident_freeW hu ha hap
  have hwi : r.toRowW.claim.within = [] := List.isEmpty_iff.mp k6
  refine ⟨k1, hw, ⟨hb, o1, by show r.toRowW.makers.map _ = []; rw [hm]; rfl⟩, hw.witness, fun w => ⟨(left.behind hX hch w).1, fun s' hs' => ?_⟩⟩
  obtain ⟨s₀, hf, hg0, s, hT, hz, hgens, hg, G00, y⟩ := (left.behind (XP := fun mg h => XP mg h ∧ RecFacts r.records h) (fun s hs => ⟨hX s hs, hRf s hs⟩) hch w).2 s' hs'
  have G0 : Ground q loose [] XP w s (s.heap.nsMap mainGlobals) (s.heap.nsMap builtinsNs) s.heap := ⟨G00.T, G00.B, G00.D, G00.TE, G00.TD, G00.W, G00.X.1, G00.cls, G00.has, G00.apart, G00.once, G00.K⟩
  have RF := G00.X.2
  have pinned : ∀ n ∈ (if r.pinned then [r.name] else []), isTheDefsW r.prog s.heap n := fun n hn => by
    obtain rfl : n = r.name := by split at hn <;> simp_all
    exact pinned_of_view hg G0 hdef hp hk
  have hgens : s.gens = #[] := Array.eq_empty_of_size_eq_zero (beq_iff_eq.mp hgens)
  have G : Ground q loose r.records XP w s _ _ s.heap := RF.ground G0
  refine ⟨s₀, hf, hg0, s, hT, ?pin, RF.1, RF.2.1, callFrom_at (c := r.toRowW.claim) hz hgens fun args hpre hlay ord hord => ?_⟩
  case pin => first | exact pinned | exact fun n hn => pinned n (by simpa using hn)
  obtain ⟨⟨vs, s₁⟩, hlaid⟩ := Option.isSome_iff_exists.mp (layAllW_isSome (P := w.params) (ord := ord) G.has args r.args s (pre_splitW hpre).1)
  have keeps := layAllW_keeps _ _ _ hlaid
  have rest := layAllW_rest _ _ _ hlaid
  obtain ⟨as, hrd, hin, hold⟩ := reads_layAllW hord _ _ _ hlaid hlay s₁.heap (fun _ _ e => e)
  have L : Laid r.records w s s₁ args vs as := ⟨⟨ord, hord, hlaid⟩, hrd, hin, hold, keeps, rest.1.trans hgens, rest.2.2.1⟩
  have G₁ := G.keeps hXk keeps
  obtain ⟨a, o, pm, cd, doc, dV, kV, h1, h2, h3, h4, h5⟩ := G₁.fn hdef
  have hwalk := call w s s₁ _ _ G₁ (hYk _ _ _ (hY w s y) keeps) a o pm cd doc dV kV h2 h3 h4 h5 (defOf_name hdef ▸ h1) L.gens args vs as hpre hlay L.reads L.well (L.low G.low)
  refine ⟨vs, s₁, hlaid, ?_⟩
  refine g_bind (g_leaf (Γ0_ok.le (by decide : 0 ≤ 100)) (wpAny_nsGet G₁.T.g ?_))
  rw [h1]
  refine g_bind (g_mono hwalk fun v s' g => g_pure ⟨_, rfl, ?_⟩)
  have z := g.laid (c := r.toRowW.claim) hsame hwi free L
  exact ⟨z.1, z.2.1, z.2.2, fun q => ⟨namesKept_of hT hg _ keeps g.2.1.old, noTable hwr q⟩⟩
end Mine
end

section
open PySem PySem.W PyProof.Rows
set_option Elab.async false
namespace Mine
set_option maxRecDepth 100000 in
set_option maxHeartbeats 8000000 in
open_top hd for PySem.Challenge.rw_eh5018_01
end Mine
end

section
open PySem PySem.W PySem.Calls PyProof.Rows
set_option Elab.async false
set_option maxRecDepth 100000
namespace Mine
section
variable {M : Model} {Γ : Ctx} {s : Shared} {env : Env} {n : Nat}
theorem g_keep {α : Type} {vs : List Value} {t : Sem α} {Q : α → Shared → Prop} (h : wpG M Γ t Q s) : wpG M Γ (t.keep vs) Q s := fun p => by rw [Sem.wp_keep]; exact h p
theorem g_release {vs keep : List Value} {Q : Unit → Shared → Prop} (h : Q () s) : wpG M Γ (release vs keep) Q s := fun p => by rw [Sem.wp_release]; exact h
theorem gx_nil {Q : Flow → Shared → Prop} (h : Q .next s) : wpG M Γ (execs [] env) Q s := fun _ => h
theorem gx_cons {st rest} {Q : Flow → Shared → Prop} (h : wpG M Γ (exec st env) (fun f s' => match f with | .next => wpG M Γ (execs rest env) Q s' | f => Q f s') s) : wpG M Γ (execs (st :: rest) env) Q s := fun p => by
  rw [execs_cons, Sem.wp_bind']
  refine Sem.wp_mono M Γ _ (fun f p' s' h' => ?_) (fun _ _ _ h' => h') _ _ (h p)
  cases f <;> first | exact h' p' | exact h'
theorem gx_one {st} {Q : Flow → Shared → Prop} (h : wpG M Γ (exec st env) Q s) : wpG M Γ (execs [st] env) Q s :=
  gx_cons (g_mono h fun f s' z => by cases f <;> first | exact gx_nil z | exact z)
theorem gx_If {test body orelse pos} {Q : Flow → Shared → Prop} (h : wpG M Γ (isTrue test env (eval test env)) (fun b s₂ => if b = true then wpG M Γ (execs body env) Q s₂ else wpG M Γ (execs orelse env) Q s₂) s) :
    wpG M Γ (exec (.If test body orelse pos) env) Q s := by
  rw [exec_If]
  refine g_at (g_bind (g_mono h fun b s₂ h₂ => ?_))
  cases b <;> exact h₂
theorem gx_Return {e pos} {Q : Flow → Shared → Prop} (h : wpG M Γ (eval e env) (fun v => Q (.ret v)) s) : wpG M Γ (exec (.Return (some e) pos) env) Q s := by
  rw [exec_Return_some]; exact g_at (g_bind (g_mono h fun v s₁ h₁ => g_pure h₁))
theorem gx_ReturnN {pos} {Q : Flow → Shared → Prop} (h : Q (.ret .none) s) : wpG M Γ (exec (.Return none pos) env) Q s := fun _ => h
theorem gx_Pass {pos} {Q : Flow → Shared → Prop} (h : Q .next s) : wpG M Γ (exec (.Pass pos) env) Q s := fun _ => h
theorem gx_Continue {pos} {Q : Flow → Shared → Prop} (h : Q .cont s) : wpG M Γ (exec (.Continue pos) env) Q s := fun _ => h
theorem notInteractive (hf : env.scope.kind = .function) : interactive env = false := by unfold interactive; rw [hf]; rfl
theorem gx_Expr {e pos} {Q : Flow → Shared → Prop} (hf : env.scope.kind = .function) (hs : swapsWith e none pos.line env = pure false) (h : wpG M Γ (eval e env) (fun v s' => match v with | .ref _ => False | _ => Q .next s') s) :
    wpG M Γ (exec (.Expr e pos) env) Q s := by
  rw [exec_Expr env e pos (notInteractive hf) hs]
  refine g_at (g_bind (g_mono h fun v s' h' => ?_))
  have hv : ∀ a, v ≠ .ref a := fun a hva => by subst hva; exact h'
  rw [dropValue_plain hv]
  refine g_pure ?_
  cases v <;> first | exact h' | exact (hv _ rfl).elim
theorem gx_Assign_N {x pos' value pos} {Q : Flow → Shared → Prop} (hs : swapsWith value (some (.Name x pos')) pos.line env = pure false) (h : wpG M Γ (eval value env) (fun v s₁ => wpG M Γ (storeName env x v) (fun _ => Q .next) s₁) s) :
    wpG M Γ (exec (.Assign [.Name x pos'] value pos) env) Q s := by
  rw [exec_Assign_Name env x pos' value pos hs]
  exact g_at (g_bind (g_mono h fun v s₁ h₁ => g_at (g_bind (g_bindName (g_mono h₁ fun _ s₂ h₂ => g_pure h₂)))))
theorem gx_Assign_A {o attr pos' value pos} {Q : Flow → Shared → Prop} (hs : swapsWith value (some (.Attribute o attr pos')) pos.line env = pure false) (h : wpG M Γ (eval value env) (fun v s₁ => wpG M Γ (eval o env) (fun ov s₂ => wpG M Γ (setAttr ov attr v) (fun _ => Q .next) s₂) s₁) s) :
    wpG M Γ (exec (.Assign [.Attribute o attr pos'] value pos) env) Q s := by
  rw [plainObj_exec_Assign_Attribute o attr pos' value pos hs]
  refine g_at (g_bind (g_mono h fun v s₁ h₁ => ?_))
  rw [assign_Attribute]
  exact g_bind (g_bind (g_holding (g_mono h₁ fun ov s₂ h₂ => g_at (g_bind (g_holding (g_mono h₂ fun _ s₃ h₃ => g_release (g_pure h₃)))))))
theorem gx_Assign_S {o i pos' value pos} {Q : Flow → Shared → Prop} (hs : swapsWith value (some (.Subscript o i pos')) pos.line env = pure false)
    (h : wpG M Γ (eval value env) (fun v s₁ => wpG M Γ (eval o env) (fun ov s₂ => wpG M Γ (eval i env) (fun iv s₃ => wpG M Γ (setItem ov iv v) (fun _ => Q .next) s₃) s₂) s₁) s) :
    wpG M Γ (exec (.Assign [.Subscript o i pos'] value pos) env) Q s := by
  rw [exec_Assign_Subscript o i pos' value pos hs]
  refine g_at (g_bind (g_mono h fun v s₁ h₁ => ?_))
  rw [assign_Subscript]
  exact g_bind (g_bind (g_holding (g_mono h₁ fun ov s₂ h₂ => g_bind (g_holding (g_mono h₂ fun iv s₃ h₃ => g_at (g_bind (g_holding (g_mono h₃ fun _ s₄ h₄ => g_release (g_pure h₄)))))))))
theorem gx_Aug_N {x pos' op value pos} {Q : Flow → Shared → Prop}
    (h : wpG M Γ (loadName env x) (fun old s₁ => wpG M Γ (eval value env) (fun v s₂ => wpG M Γ (inplaceOp op old v) (fun r s₃ => wpG M Γ (storeName env x r) (fun _ => Q .next) s₃) s₂) s₁) s) :
    wpG M Γ (exec (.AugAssign (.Name x pos') op value pos) env) Q s := by
  rw [exec_AugAssign_Name]
  exact g_at (g_bind (g_mono h fun old s₁ h₁ => g_bind (g_holding (g_mono h₁ fun v s₂ h₂ => g_at (g_bind (g_operate (g_mono h₂ fun r s₃ h₃ => g_at (g_bind (g_bindName (g_mono h₃ fun _ s₄ h₄ => g_pure h₄))))))))))
theorem gx_While (o : Ok n Γ) {test body orelse pos} {Q : Flow → Shared → Prop}
    (h : ∀ Γ', Γ'.code = .whileLoop test body orelse env → OkB n Γ' → codeG M Γ' (fun r s' => match r with | .ok f => Q f s' | _ => False) s) : wpG M Γ (exec (.While test body orelse pos) env) Q s := by
  rw [exec_While]; exact g_at (g_runOwn o rfl h)
theorem ge_int {i k pos} {Q : Value → Shared → Prop} (h : Q (.int i s.toks) { s with toks := s.toks + 1 }) : wpG M Γ (eval (.Constant (.int i) k pos) env) Q s := fun _ => h
theorem ge_bool {c : Bool} {k pos} {Q : Value → Shared → Prop} (h : Q (.bool c) s) : wpG M Γ (eval (.Constant (.bool c) k pos) env) Q s := fun _ => h
theorem ge_none {k pos} {Q : Value → Shared → Prop} (h : Q .none s) : wpG M Γ (eval (.Constant .none k pos) env) Q s := fun _ => h
theorem ge_str {x k pos} {Q : Value → Shared → Prop} (h : Q (.str x s.toks) { s with toks := s.toks + 1 }) : wpG M Γ (eval (.Constant (.str x) k pos) env) Q s := fun _ => h
theorem ge_BinOp {l op r pos} {Q : Value → Shared → Prop} (h : wpG M Γ (eval l env) (fun a s₁ => wpG M Γ (eval r env) (fun b s₂ => wpG M Γ (binaryOp op a b) Q s₂) s₁) s) : wpG M Γ (eval (.BinOp l op r pos) env) Q s := by
  rw [eval_BinOp]
  exact g_bind (g_mono h fun a s₁ h₁ => g_bind (g_holding (g_mono h₁ fun b s₂ h₂ => g_at (g_operate h₂))))
theorem ge_UnaryOp {op x pos} {Q : Value → Shared → Prop} (h : wpG M Γ (eval x env) (fun v s₁ => wpG M Γ (unaryOp op v) Q s₁) s) : wpG M Γ (eval (.UnaryOp op x pos) env) Q s := by
  rw [eval_UnaryOp]; exact g_bind (g_mono h fun v s₁ h₁ => g_at (g_holding h₁))
theorem ge_Compare1 {l op r pos} {Q : Value → Shared → Prop} (hm : behindInMarks op r = false) (h : wpG M Γ (eval l env) (fun a s₁ => wpG M Γ (eval r env) (fun b s₂ => wpG M Γ (compareOp op a b) Q s₂) s₁) s) : wpG M Γ (eval (.Compare l [op] [r] pos) env) Q s := by
  rw [eval_Compare1, markedBehindIn_of_false hm]
  exact g_bind (g_mono h fun a s₁ h₁ => g_bind (g_holding (g_mono h₁ fun b s₂ h₂ => g_at (g_operate h₂))))
theorem ge_IfExp {test body orelse pos} {Q : Value → Shared → Prop} (h : wpG M Γ (isTrue test env (eval test env)) (fun c s₂ => if c = true then wpG M Γ (eval body env) Q s₂ else wpG M Γ (eval orelse env) Q s₂) s) : wpG M Γ (eval (.IfExp test body orelse pos) env) Q s := by
  rw [eval_IfExp]
  refine g_bind (g_mono h fun c s₂ h₂ => ?_)
  cases c <;> exact h₂
theorem ge_Attr {value : Expr} {attr : Str} {pos : Pos} {Q : Value → Shared → Prop}
    (he : eval (.Attribute value attr pos) env = (do let o ← eval value env; standAt pos.atName; let r ← holding [o] (getAttr o attr true); letTemporaryGo value o r; pure r)) (ht : ∀ o r, letTemporaryGo value o r = pure ())
    (h : wpG M Γ (eval value env) (fun o s₁ => wpG M Γ (getAttr o attr true) Q s₁) s) : wpG M Γ (eval (.Attribute value attr pos) env) Q s := by
  rw [he]
  refine g_bind (g_mono h fun o s₁ h₁ => g_at (g_bind (g_holding (g_mono h₁ fun r s₂ h₂ => ?_))))
  rw [ht]; exact g_bind (g_pure (g_pure h₂))
theorem ge_CallN {id : Str} {p pos : Pos} {args : List Expr} {kws : List Keyword} {Q : Value → Shared → Prop} (h : wpG M Γ (eval (.Name id p) env) (fun f s₁ => wpG M Γ (callWith pos f [] (backTo pos (starEach args env)) (backToKw pos (keywordEach kws env))) Q s₁) s) : wpG M Γ (eval (.Call (.Name id p) args kws pos) env) Q s := by
  rw [arm_eval_Call_Name']; exact g_bind h
theorem ge_CallM {name : Str} {o : Expr} {apos pos : Pos} {args : List Expr} {kws : List Keyword} {pl : Sem Bool} {Q : Value → Shared → Prop}
    (he : eval (.Call (.Attribute o name apos) args kws pos) env = (do
      let ov ← eval o env
      standAt apos.atName
      let (f, first) ← holding [ov] (getMethod ov name pl)
      callWith pos f first (backTo pos (starEach args env)) (backToKw pos (keywordEach kws env))))
    (h : wpG M Γ (eval o env) (fun ov s₁ => wpG M Γ (getMethod ov name pl) (fun fx s₂ => wpG M Γ (callWith pos fx.1 fx.2 (backTo pos (starEach args env)) (backToKw pos (keywordEach kws env))) Q s₂) s₁) s) : wpG M Γ (eval (.Call (.Attribute o name apos) args kws pos) env) Q s := by
  rw [he]
  exact g_bind (g_mono h fun ov s₁ h₁ => g_at (g_bind (g_holding (g_mono h₁ fun fx s₂ h₂ => h₂))))
theorem ge_Sub {value slice pos} {Q : Value → Shared → Prop} (h : wpG M Γ (eval value env) (fun o s₁ => wpG M Γ (eval slice env) (fun i s₂ => wpG M Γ (subscriptTail value slice o i) Q s₂) s₁) s) : wpG M Γ (eval (.Subscript value slice pos) env) Q s := by
  rw [eval_Subscript]
  exact g_bind (g_mono h fun o s₁ h₁ => g_bind (g_holding (g_mono h₁ fun i s₂ h₂ => g_at h₂)))
theorem ge_List {elts : List Expr} {pos : Pos} {Q : Value → Shared → Prop} (h : wpG M Γ (spliced (backTo pos (starEach elts env))) (fun vs s₁ => wpG M Γ (newList vs) Q s₁) s) : wpG M Γ (eval (.List elts pos) env) Q s := by
  show wpG M Γ (do standAt pos; newList (← spliced (backTo pos (starEach elts env)))) Q s
  exact g_at (g_bind h)
theorem ge_Tuple {elts : List Expr} {k : Nat} {pos : Pos} {Q : Value → Shared → Prop} (h : wpG M Γ (spliced (backTo pos (starEach elts env))) (fun vs s₁ => wpG M Γ (newTuple vs) Q s₁) s) : wpG M Γ (eval (.Tuple elts k pos) env) Q s := by
  show wpG M Γ (do standAt pos; newTuple (← spliced (backTo pos (starEach elts env)))) Q s
  exact g_at (g_bind h)
theorem gi_Compare1 {l op r pos whole} {Q : Bool → Shared → Prop} (hm : behindInMarks op r = false) (h : wpG M Γ (eval l env) (fun a s₁ => wpG M Γ (eval r env) (fun b s₂ => wpG M Γ (compareOp op a b) (fun c s₃ => wpG M Γ (truthy c) Q s₃) s₂) s₁) s) : wpG M Γ (isTrue (.Compare l [op] [r] pos) env whole) Q s := by
  rw [isTrue_Compare1, markedBehindIn_of_false hm]
  exact g_bind (g_mono h fun a s₁ h₁ => g_bind (g_holding (g_mono h₁ fun b s₂ h₂ => g_at (g_bind (g_operate (g_mono h₂ fun c s₃ h₃ => g_holding h₃))))))
theorem gi_chain {l op₁ op₂ ops r₁ r₂ rs pos whole} {Q : Bool → Shared → Prop} (hm : lastMarks (op₁ :: op₂ :: ops) (r₁ :: r₂ :: rs) = false)
    (h : wpG M Γ (eval l env) (fun a s₁ => wpG M Γ (testChain pos a (op₁ :: op₂ :: ops) (eval r₁ env :: eval r₂ env :: evalEach rs env)) Q s₁) s) : wpG M Γ (isTrue (.Compare l (op₁ :: op₂ :: ops) (r₁ :: r₂ :: rs) pos) env whole) Q s := by
  show wpG M Γ (do testChain pos (← eval l env) (op₁ :: op₂ :: ops) (markedEach (op₁ :: op₂ :: ops) (r₁ :: r₂ :: rs) (evalEach (r₁ :: r₂ :: rs) env))) Q s
  rw [markedEach_of_false _ _ _ hm]
  exact g_bind h
theorem gt_link {pos : Pos} {a : Value} {op op' : CmpOp} {ops : List CmpOp} {r r' : Sem Value} {rs : List (Sem Value)} {Q : Bool → Shared → Prop}
    (h : wpG M Γ r (fun b s₁ => wpG M Γ (compareOp op a b) (fun c s₂ => wpG M Γ (truthy c) (fun t s₃ => if t = true then wpG M Γ (testChain pos b (op' :: ops) (r' :: rs)) Q s₃ else Q false s₃) s₂) s₁) s) : wpG M Γ (testChain pos a (op :: op' :: ops) (r :: r' :: rs)) Q s := by
  show wpG M Γ (do
    let rv ← holding [a] r
    standAt pos
    let c ← holding [a, rv] (compareOp op a rv)
    release [a, rv] [c]
    if ← holding [c, rv] (truthy c) then testChain pos rv (op' :: ops) (r' :: rs) else pure false) Q s
  refine g_bind (g_holding (g_mono h fun b s₁ h₁ => g_at (g_bind (g_holding (g_mono h₁ fun c s₂ h₂ => g_bind (g_release (g_bind (g_holding (g_mono h₂ fun t s₃ h₃ => ?_)))))))))
  cases t with
  | false => exact g_pure h₃
  | true => exact h₃
theorem gt_last {pos : Pos} {a : Value} {op : CmpOp} {r : Sem Value} {Q : Bool → Shared → Prop} (h : wpG M Γ r (fun b s₁ => wpG M Γ (compareOp op a b) (fun c s₂ => wpG M Γ (truthy c) Q s₂) s₁) s) : wpG M Γ (testChain pos a [op] [r]) Q s := by
  show wpG M Γ (do
    let rv ← holding [a] r
    standAt pos
    let c ← operate [a, rv] (compareOp op a rv)
    holding [c] (truthy c)) Q s
  exact g_bind (g_holding (g_mono h fun b s₁ h₁ => g_at (g_bind (g_operate (g_mono h₁ fun c s₂ h₂ => g_holding h₂)))))
theorem gt_last' {pos : Pos} {a : Value} {op : CmpOp} {r : Sem Value} {Q : Bool → Shared → Prop} (h : wpG M Γ r (fun b s₁ => wpG M Γ (compareOp op a b) (fun c s₂ => wpG M Γ (truthy c) Q s₂) s₁) s) : wpG M Γ (testChain pos a [op] (r :: evalEach [] env)) Q s := gt_last h
theorem gi_not {x pos whole} {Q : Bool → Shared → Prop} (h : wpG M Γ (isTrue x env (eval x env)) (fun c s' => Q (!c) s') s) : wpG M Γ (isTrue (.UnaryOp .Not x pos) env whole) Q s := by
  show wpG M Γ (do return !(← isTrue x env (eval x env))) Q s
  exact g_bind (g_mono h fun c s' h' => g_pure h')
theorem gi_and_nil {pos whole} {Q : Bool → Shared → Prop} (h : Q true s) : wpG M Γ (isTrue (.BoolOp .And [] pos) env whole) Q s := g_pure (a := true) h
theorem gi_or_nil {pos whole} {Q : Bool → Shared → Prop} (h : Q false s) : wpG M Γ (isTrue (.BoolOp .Or [] pos) env whole) Q s := g_pure (a := false) h
theorem gi_and {x rest pos whole} {Q : Bool → Shared → Prop} (h : wpG M Γ (isTrue x env (eval x env)) (fun c s' => if c = true then wpG M Γ (isTrue (.BoolOp .And rest pos) env whole) Q s' else Q false s') s) : wpG M Γ (isTrue (.BoolOp .And (x :: rest) pos) env whole) Q s := by
  show wpG M Γ (do
    match BoolOp.And, ← isTrue x env (eval x env) with
    | .And, false => pure false
    | .Or, true => pure true
    | _, _ => allTrue .And rest env) Q s
  refine g_bind (g_mono h fun c s' h' => ?_)
  cases c with
  | false => exact g_pure h'
  | true => exact h'
theorem gi_or {x rest pos whole} {Q : Bool → Shared → Prop} (h : wpG M Γ (isTrue x env (eval x env)) (fun c s' => if c = true then Q true s' else wpG M Γ (isTrue (.BoolOp .Or rest pos) env whole) Q s') s) : wpG M Γ (isTrue (.BoolOp .Or (x :: rest) pos) env whole) Q s := by
  show wpG M Γ (do
    match BoolOp.Or, ← isTrue x env (eval x env) with
    | .And, false => pure false
    | .Or, true => pure true
    | _, _ => allTrue .Or rest env) Q s
  refine g_bind (g_mono h fun c s' h' => ?_)
  cases c with
  | false => exact h'
  | true => exact g_pure h'
theorem gi_plain {e : Expr} {whole : Sem Value} {Q : Bool → Shared → Prop} (he : isTrue e env whole = (do let v ← whole; standAt e.pos; holding [v] (truthy v))) (h : wpG M Γ whole (fun v s₁ => wpG M Γ (truthy v) Q s₁) s) : wpG M Γ (isTrue e env whole) Q s := by
  rw [he]; exact g_bind (g_mono h fun v s₁ h₁ => g_at (g_holding h₁))
theorem ga_nil {pos : Pos} {Q : List Value → Shared → Prop} (h : Q [] s) : wpG M Γ (spliced (backTo pos (starEach [] env))) Q s := g_pure (a := []) h
theorem ga_cons {e : Expr} {rest : List Expr} {pos : Pos} {Q : List Value → Shared → Prop} (he : starEach (e :: rest) env = (false, eval e env) :: starEach rest env)
    (h : wpG M Γ (eval e env) (fun v s₁ => wpG M Γ (spliced (backTo pos (starEach rest env))) (fun vs s₂ => Q (v :: vs) s₂) s₁) s) : wpG M Γ (spliced (backTo pos (starEach (e :: rest) env))) Q s := by
  rw [he]
  show wpG M Γ (spliced ((false, eval e env) :: backTo pos (starEach rest env))) Q s
  rw [spliced]
  refine g_bind (g_mono h fun v s₁ h₁ => ?_)
  simp only [Bool.false_eq_true, if_false]
  exact g_bind (g_pure (g_bind (g_holding (g_mono h₁ fun vs s₂ h₂ => g_pure h₂))))
theorem gc_of (o : Ok n Γ) {f : Value} {pos : Pos} {first : List Value} {Q : Value → Shared → Prop} {P : Heap → Prop} {args : List (Bool × Sem Value)} {keywords : List (Option Str × Sem Value)} (hplain : (args.any (·.1) || keywords.any (·.1.isNone)) = false)
    (hk : ∀ h, P h → ∃ k, (k = Keeper.frame ∨ k = Keeper.machine ∨ k = Keeper.boundFrame) ∧ Looks M h (keeperOf f) k)
    (h : wpG M Γ (evalArgs f true args keywords) (fun a s₁ => P s₁.heap ∧ wpG M Γ (call f (first ++ a.pos) a.kw) Q s₁) s) : wpG M Γ (callWith pos f first args keywords) Q s := by
  unfold callWith
  refine g_bind (g_holding (g_mono h fun a s₁ h₁ => g_at ?_))
  obtain ⟨k, hk', L⟩ := hk _ h₁.1
  simp only [hplain]
  refine g_bind (g_leaf o (L.here ?_))
  have tail : ∀ {t : Sem Value}, wpG M Γ t Q s₁ → wpG M Γ (t >>= fun r => holding [r] point >>= fun _ => pure r) Q s₁ :=
    fun ht => g_bind (g_mono ht fun r s₂ hr => g_bind (g_holding (g_point (g_pure hr))))
  have marked (mk : Value) : wpG M Γ (callMarked mk f (first ++ a.pos) a.kw) Q s₁ := by unfold callMarked; exact g_keep h₁.2
  rcases hk' with rfl | rfl | rfl <;> dsimp only <;> first | exact tail h₁.2 | (split <;> first | exact tail h₁.2 | exact tail (marked _))
theorem gc_builtin {pos : Pos} {id : String} {first : List Value} {args : List (Bool × Sem Value)} {Q : Value → Shared → Prop} (hplain : args.any (·.1) = false)
    (h : wpG M Γ (evalArgs (.builtin id) true args []) (fun a s₁ => wpG M Γ (call (.builtin id) (first ++ a.pos) a.kw) Q s₁) s) : wpG M Γ (callWith pos (.builtin id) first args []) Q s := by
  unfold callWith
  refine g_bind (g_holding (g_mono h fun a s₁ h₁ => g_at ?_))
  simp only [hplain, List.any_nil, Bool.or_false]
  refine g_bind (g_pure ?_)
  exact g_bind (g_mono h₁ fun r s₂ hr => g_bind (g_holding (g_point (g_pure hr))))
theorem gc_type {pos : Pos} {T : String} {first : List Value} {args : List (Bool × Sem Value)} {Q : Value → Shared → Prop} (hplain : args.any (·.1) = false)
    (h : wpG M Γ (evalArgs (.type T) true args []) (fun a s₁ => wpG M Γ (call (.type T) (first ++ a.pos) a.kw) Q s₁) s) : wpG M Γ (callWith pos (.type T) first args []) Q s := by
  unfold callWith
  refine g_bind (g_holding (g_mono h fun a s₁ h₁ => g_at ?_))
  simp only [hplain, List.any_nil, Bool.or_false]
  refine g_bind (g_pure ?_)
  exact g_bind (g_mono h₁ fun r s₂ hr => g_bind (g_holding (g_point (g_pure hr))))
theorem g_args1 {f : Value} {x : Sem Value} {rest : List (Bool × Sem Value)} {Q : Args → Shared → Prop} (h : wpG M Γ (spliced ((false, x) :: rest)) (fun vs s' => Q ⟨vs, []⟩ s') s) : wpG M Γ (evalArgs f true ((false, x) :: rest) []) Q s := by
  unfold evalArgs
  show wpG M Γ (spliced ((false, x) :: rest) >>= _) Q s
  refine g_bind (g_mono h fun vs s' h' => g_holding ?_)
  exact g_bind (g_pure (g_bind (g_pure (g_pure h'))))
theorem g_args0 {f : Value} {Q : Args → Shared → Prop} (h : Q ⟨[], []⟩ s) : wpG M Γ (evalArgs f true [] []) Q s := by
  unfold evalArgs
  show wpG M Γ (spliced [] >>= _) Q s
  refine g_bind (g_pure (a := []) (g_bind (g_pure ?_)))
  refine g_holding ?_
  exact g_bind (g_pure (g_bind (g_pure (g_pure h))))
end
section
variable {M : Model} {Γ : Ctx} {s : Shared} {env : Env} {n : Nat} {K : Frag} {mg mb : Str → Option Value} {I : PH} {vs : Vs} {Mu : List (Addr × Obj)} {pos : Pos} {f : Value} {first : List Value} {Q : Value → Shared → Prop}
theorem gc_K1 (o : Ok n Γ) (hk : keepIn K f = true) {e : Expr} {rest : List Expr} (he : starEach (e :: rest) env = (false, eval e env) :: starEach rest env) (hplain : (backTo pos (starEach rest env)).any (·.1) = false)
    (h : wpG M Γ (spliced (backTo pos (starEach (e :: rest) env))) (fun vs s₁ => K.In s₁.heap ∧ wpG M Γ (call f (first ++ vs)) Q s₁) s) : wpG M Γ (callWith pos f first (backTo pos (starEach (e :: rest) env)) []) Q s := by
  rw [he] at h ⊢
  exact gc_of o (P := K.In) (by show ((false || (backTo pos (starEach rest env)).any (·.1)) || false) = false; rw [hplain]; rfl) (keeps_K hk) (g_args1 h)
theorem gc_K0 (o : Ok n Γ) (hk : keepIn K f = true) (hX : K.In s.heap) (h : wpG M Γ (call f (first ++ [])) Q s) : wpG M Γ (callWith pos f first (backTo pos (starEach [] env)) []) Q s :=
  gc_of o (P := K.In) rfl (keeps_K hk) (g_args0 ⟨hX, h⟩)
theorem gc_b1 {id : String} {e : Expr} {rest : List Expr} (he : starEach (e :: rest) env = (false, eval e env) :: starEach rest env) (hplain : (backTo pos (starEach rest env)).any (·.1) = false)
    (h : wpG M Γ (spliced (backTo pos (starEach (e :: rest) env))) (fun vs s₁ => wpG M Γ (call (.builtin id) (first ++ vs)) Q s₁) s) : wpG M Γ (callWith pos (.builtin id) first (backTo pos (starEach (e :: rest) env)) []) Q s := by
  rw [he] at h ⊢
  exact gc_builtin (by show (false || (backTo pos (starEach rest env)).any (·.1)) = false; rw [hplain]; rfl) (g_args1 h)
theorem gc_b0 {id : String} (h : wpG M Γ (call (.builtin id) (first ++ [])) Q s) : wpG M Γ (callWith pos (.builtin id) first (backTo pos (starEach [] env)) []) Q s := gc_builtin rfl (g_args0 h)
theorem gc_t1 {T : String} {e : Expr} {rest : List Expr} (he : starEach (e :: rest) env = (false, eval e env) :: starEach rest env) (hplain : (backTo pos (starEach rest env)).any (·.1) = false)
    (h : wpG M Γ (spliced (backTo pos (starEach (e :: rest) env))) (fun vs s₁ => wpG M Γ (call (.type T) (first ++ vs)) Q s₁) s) : wpG M Γ (callWith pos (.type T) first (backTo pos (starEach (e :: rest) env)) []) Q s := by
  rw [he] at h ⊢
  exact gc_type (by show (false || (backTo pos (starEach rest env)).any (·.1)) = false; rw [hplain]; rfl) (g_args1 h)
end
end Mine
end

section
open PySem PySem.W PySem.Calls PyProof.Rows
set_option Elab.async false
set_option maxRecDepth 100000
namespace Mine
section
variable {prog : Program} {w : World} {A : Around} {E : Value → Shared → Prop} {s : Shared}
theorem call_tree {a : Addr} {args : Args} {o : Obj} {fd : FuncData} {body : List Stmt} {binds : List (Str × Value)} (hroom : A.depth < recursionLimit) (ho : s.heap.get? a = some o)
    (hd' : o.data = .func fd) (hco : fd.scope.isCoroutine = false) (hgen : fd.scope.isGenerator = false) (hbody : fd.body = .stmts body) (hcd : s.heap.CodeRec fd.code fd.qualname) (hlim : s.heap.NoLimit)
    (hbind : BindsTo s fd args binds) (hcell : ∀ x ∈ fd.scope.names, x.2 ≠ .cell) (hloc : ∀ x ∈ binds, fd.scope.names.lookup x.1 = some .local) (hk : fd.scope.kind = .function) {Q : Fin → Shared → Prop}
    (h : ∀ h₀, h₀.Ns s.heap.objs.size (fun x => binds.reverse.lookup x) → (∀ b x, s.heap.get? b = some x → h₀.get? b = some x) → Q (.again (.func body (callEnv fd s.heap.objs.size a))) { s with heap := h₀, toks := s.toks + binds.length }) :
    wpAny (model prog w) A (callAny (.ref a) args) Q E s := by
  simp only [callAny]
  refine wpAny_bind (wpAny_load ho ?_)
  obtain ⟨c, oc, vs, tq, hc, hoc, hdc, hq⟩ := hcd
  simp only [hd', callFunction, hco, hgen, hbody, hc]
  refine wpAny_bind (m := field (.ref c) 1) (wpAny_field hoc hdc hq (wpAny_bind (wpAny_pure ?_)))
  refine wpAny_bind (hbind _ _ _ _ (wpAny_bind (wpAny_newFunctionEnv hcell hloc (fun h₀ hns hsb => ?_) hk)))
  refine wpAny_bind (wpAny_enterFrame (hlim.fresh _ hsb) hroom (wpAny_pure ?_))
  have := h h₀ hns fun b x e => hsb.extBut b x (Nat.ne_of_lt (Heap.lt_size e)) (Heap.get?_push_of_some _ e)
  unfold callEnv at this
  rw [hc] at this
  exact this
end
section
variable {prog : Program} {w : World} {Γ : Ctx} {R : Result → Shared → Prop} {s : Shared} {K : Frag} {mg mb : Str → Option Value} {I : PH} {Mu : List (Addr × Obj)} {f : Addr} {fd : FuncData} {body : List Stmt} {lo unb : List Str} {gl : List (Str × Value)} {args : Args} {binds : List (Str × Value)} {n : Nat}
theorem codeG_func {env : Env} (o : OkB (n + 1) Γ) (hc : Γ.code = .func body env) (h : Ok n Γ → wpG (model prog w) Γ (execs body env) (fun fl s' => R (.ok (.ret (match fl with | .ret v => v | _ => .none))) s') s) : codeG (model prog w) Γ R s := by
  refine codeG_of_tree ?_
  rw [hc]
  show wpG _ Γ (do point; match ← (execs body env).onRaise (leaving env) with | .ret v => ret v | _ => ret .none) _ s
  have o' : Ok n Γ := o.ok (by rw [hc]; exact Nat.le_of_ble_eq_true rfl) (by rw [hc]; exact Nat.le_of_ble_eq_true rfl)
  refine g_bind (g_point (g_bind (g_onRaise (g_mono (h o') fun fl s' z => ?_))))
  cases fl <;> exact g_pure z
theorem inG (F : FnF K f fd body lo gl) (hb : ∀ S, peek K S (bindArgs fd args) = some binds) (hlo : binds.map (·.1) ++ unb = lo) (hc : Γ.code = .call (.ref f) args) (o : OkB (n + 1) Γ) (G : Gl K mg mb I) (S : Hp I Mu s.heap)
    (h : ∀ Γ' env h', Ok n Γ' → InF I env ((binds.map fun p => (p.1, some p.2)) ++ unb.map fun y => (y, none)) Mu h' → Kg K env gl →
      wpG (model prog w) Γ' (execs body env) (fun fl s' => R (.ok (.ret (match fl with | .ret v => v | _ => .none))) s') { s with heap := h', toks := s.toks + binds.length }) :
    codeG (model prog w) Γ R s := by
  obtain ⟨oc, od, osl, hK⟩ := F.at_
  obtain ⟨_, _, hlim⟩ := G.ns s.heap S.imm
  have hkeys : ((binds.map fun p => (p.1, some p.2)) ++ unb.map fun y => (y, (none : Option Value))).map (·.1) = lo := by
    rw [List.map_append, List.map_map, List.map_map, ← hlo]
    congr 1
    exact List.map_id _
  have hbl : ∀ x ∈ binds.map (·.1), x ∈ lo := fun x m => hlo ▸ List.mem_append_left _ m
  have hbnd : (binds.map (·.1)).Nodup := (List.nodup_append.mp (hlo ▸ F.lond)).1
  have o' : Ok n Γ := o.ok (by rw [hc]; exact Nat.le_of_ble_eq_true rfl) (by rw [hc]; exact Nat.le_of_ble_eq_true rfl)
  refine codeG_of_tree ?_
  rw [hc]
  show wpG _ Γ (callAny (.ref f) args) _ s
  refine g_leaf o' (call_tree A0_room (S.imm _ _ (G.k _ _ hK)) rfl F.co F.gen F.body (codeRec_of (G.kin S.imm) F.code) hlim (fun M A E Q hq => (Looks.of_peek (M := M) (G.kin S.imm) (hb _)).here hq) F.nocell
    (fun x m => (F.lok x.1 (hbl _ (List.mem_map_of_mem m))).1) F.kind fun h₀ hns hk => ⟨rfl, ?_⟩)
  refine codeG_func (n := n) (o.goto _ rfl) rfl fun o2 => ?_
  have E : EnvF (callEnv fd s.heap.objs.size f) lo := ⟨F.kind, F.lond, F.lok⟩
  obtain ⟨oL, es, ep, ho, hd, hks, hf⟩ := hns
  refine h _ (callEnv fd s.heap.objs.size f) h₀ o2 ⟨hkeys ▸ E, oL, ⟨es, ep, hd, hks, fun y => ?_⟩, ?_⟩ ⟨F.glo, F.bui, fun p m => F.glk p m⟩
  · exact (hf y).trans ((lookup_rev hbnd y).trans (lookup_binds binds unb y).symm)
  · have P := S.keep hk
    refine ⟨P.imm, fun p m => ?_, ?_⟩
    · rcases List.mem_cons.mp m with rfl | m
      · exact ⟨ho, S.free⟩
      · exact P.mu p m
    · refine List.nodup_cons.mpr ⟨fun m => ?_, S.nd⟩
      obtain ⟨p, hp, e⟩ := List.mem_map.mp m
      exact absurd (e ▸ S.lt hp) (Nat.lt_irrefl _)
end
end Mine
end

section
open PySem PySem.W PySem.Calls PyProof.Rows
set_option Elab.async false
set_option maxRecDepth 100000
namespace Mine
section
variable {prog : Program} {w : World} {Γ : Ctx} {n : Nat} {h : Heap} {g : Array GenState} {d : Drawn} {t : Nat} {os : OsState} {env : Env} {K : Frag} {mg mb : Str → Option Value} {I : PH} {vs vs' : Vs} {Mu Mu' : List (Addr × Obj)} {gl : List (Str × Value)} {x : Str} {v : Value} {pos : Pos} {a b : Int} {ta tb : Tok} {Q : Value → Shared → Prop}
theorem go_int {i k} (hq : ∀ t' k, Q (.int i t') ⟨h, g, d, k, os⟩) : wpG (model prog w) Γ (eval (.Constant (.int i) k pos) env) Q ⟨h, g, d, t, os⟩ := ge_int (hq _ _)
theorem go_str {y k} (hq : ∀ t' k, Q (.str y t') ⟨h, g, d, k, os⟩) : wpG (model prog w) Γ (eval (.Constant (.str y) k pos) env) Q ⟨h, g, d, t, os⟩ := ge_str (hq _ _)
theorem go_nmL (o : Ok n Γ) (S : InF I env vs Mu h) (m : List.Mem (x, some v) vs) (hq : Q v ⟨h, g, d, t, os⟩) : wpG (model prog w) Γ (eval (.Name x pos) env) Q ⟨h, g, d, t, os⟩ := g_leaf o (nm_L (s := ⟨h, g, d, t, os⟩) S m hq)
theorem go_lnL (o : Ok n Γ) (S : InF I env vs Mu h) (m : List.Mem (x, some v) vs) (hq : Q v ⟨h, g, d, t, os⟩) : wpG (model prog w) Γ (loadName env x) Q ⟨h, g, d, t, os⟩ := g_leaf o (ln_L (s := ⟨h, g, d, t, os⟩) S m hq)
theorem go_nmG (o : Ok n Γ) (G : Gl K mg mb I) (S : InF I env vs Mu h) (k : Kg K env gl) (m : List.Mem (x, v) gl) (hq : Q v ⟨h, g, d, t, os⟩) : wpG (model prog w) Γ (eval (.Name x pos) env) Q ⟨h, g, d, t, os⟩ := g_leaf o (nm_G (s := ⟨h, g, d, t, os⟩) G S k m hq)
theorem go_st {Q : Unit → Shared → Prop} (o : Ok n Γ) (S : InF I env vs Mu h) (u : UV x v vs vs') (hq : ∀ h' k, InF I env vs' Mu h' → Q () ⟨h', g, d, k, os⟩) : wpG (model prog w) Γ (storeName env x v) Q ⟨h, g, d, t, os⟩ :=
  g_leaf o (st_L (s := ⟨h, g, d, t, os⟩) S u fun h' S' => hq h' _ S')
theorem go_cls {C : Addr} {expr : Bool} (o : Ok n Γ) (G : Gl K mg mb I) (S : InF I env vs Mu h) (F : ClsF K C x v) (hq : ∀ k, Q v ⟨h, g, d, k, os⟩) : wpG (model prog w) Γ (getAttr (.ref C) x expr) Q ⟨h, g, d, t, os⟩ := g_leaf o (ga_cls (s := ⟨h, g, d, t, os⟩) G S F (hq _))
theorem go_gmT {C : Addr} {T : String} {pl : Sem Bool} {Q : Value × List Value → Shared → Prop} (o : Ok n Γ) (G : Gl K mg mb I) (S : InF I env vs Mu h) (F : ClsT K C x T) (hg : specialIn K (.ref C) "__getattribute__" = some (some (.builtin "type.__getattribute__"))) (hq : ∀ k, Q (.type T, []) ⟨h, g, d, k, os⟩) :
    wpG (model prog w) Γ (getMethod (.ref C) x pl) Q ⟨h, g, d, t, os⟩ := g_leaf o (gm_clsT (s := ⟨h, g, d, t, os⟩) G S F hg (hq _))
theorem go_slot {y C dx p : Addr} {i : Nat} {slots : List (Option Value)} {expr : Bool} (o : Ok n Γ) (G : Gl K mg mb I) (S : InF I env vs Mu h) (F : SlotF K C x p i) (hx : h.get? y = some (InstO C dx slots)) (hd : I dx = some (dictOf [] 0)) (hv : slots[i]? = some (some v)) (hh : handedIn v = true)
    (hq : ∀ k, Q v ⟨h, g, d, k, os⟩) : wpG (model prog w) Γ (getAttr (.ref y) x expr) Q ⟨h, g, d, t, os⟩ := g_leaf o (gs_slot (s := ⟨h, g, d, t, os⟩) G S F hx hd hv hh (hq _))
theorem go_set {Q : Unit → Shared → Prop} {y C dx p : Addr} {i : Nat} {slots slots' : List (Option Value)} (o : Ok n Γ) (G : Gl K mg mb I) (S : InF I env vs Mu h) (F : SlotF K C x p i) (hd : I dx = some (dictOf [] 0))
    (u : Ud y (InstO C dx slots) (InstO C dx slots') Mu Mu') (hs : ((slots ++ List.replicate (i + 1 - slots.length) none).set i (some v)) = slots')
    (hq : ∀ h' k, InF I env vs Mu' h' → Q () ⟨h', g, d, k, os⟩) : wpG (model prog w) Γ (setAttr (.ref y) x v) Q ⟨h, g, d, t, os⟩ := g_leaf o (ss_slot (s := ⟨h, g, d, t, os⟩) G S F hd hs u fun h' S' => hq h' _ S')
theorem go_meth {y C dx f : Addr} {slots : List (Option Value)} {pl : Sem Bool} {Q : Value × List Value → Shared → Prop} (o : Ok n Γ) (G : Gl K mg mb I) (S : InF I env vs Mu h) (F : MethF K C x f) (hx : h.get? y = some (InstO C dx slots)) (hd : I dx = some (dictOf [] 0))
    (hq : Q (.ref f, [.ref y]) ⟨h, g, d, t, os⟩) : wpG (model prog w) Γ (getMethod (.ref y) x pl) Q ⟨h, g, d, t, os⟩ := g_leaf o (gm_inst (s := ⟨h, g, d, t, os⟩) G S F hx hd hq)
theorem go_add (o : Ok n Γ) (hq : ∀ t' k, Q (.int (a + b) t') ⟨h, g, d, k, os⟩) : wpG (model prog w) Γ (binaryOp .Add (.int a ta) (.int b tb)) Q ⟨h, g, d, t, os⟩ := g_leaf o (add_int (hq _ _))
theorem go_sub (o : Ok n Γ) (hq : ∀ t' k, Q (.int (a - b) t') ⟨h, g, d, k, os⟩) : wpG (model prog w) Γ (binaryOp .Sub (.int a ta) (.int b tb)) Q ⟨h, g, d, t, os⟩ := g_leaf o (sub_int (hq _ _))
theorem go_mul (o : Ok n Γ) (hm : IntMulOk a b) (hq : ∀ t' k, Q (.int (a * b) t') ⟨h, g, d, k, os⟩) : wpG (model prog w) Γ (binaryOp .Mult (.int a ta) (.int b tb)) Q ⟨h, g, d, t, os⟩ := g_leaf o (PyProof.Rows.mul_int (hq _ _) hm)
theorem go_mod (o : Ok n Γ) (hb : b ≠ 0) (hq : ∀ t' k, Q (.int (a.fmod b) t') ⟨h, g, d, k, os⟩) : wpG (model prog w) Γ (binaryOp .Mod (.int a ta) (.int b tb)) Q ⟨h, g, d, t, os⟩ := g_leaf o (mod_int' hb (hq _ _))
theorem go_and (o : Ok n Γ) (hq : ∀ t' k, Q (.int (Builtin.bitAnd a b) t') ⟨h, g, d, k, os⟩) : wpG (model prog w) Γ (binaryOp .BitAnd (.int a ta) (.int b tb)) Q ⟨h, g, d, t, os⟩ := g_leaf o (and_int (hq _ _))
theorem go_iand (o : Ok n Γ) (hq : ∀ t' k, Q (.int (Builtin.bitAnd a b) t') ⟨h, g, d, k, os⟩) : wpG (model prog w) Γ (inplaceOp .BitAnd (.int a ta) (.int b tb)) Q ⟨h, g, d, t, os⟩ := g_leaf o (iand_int (hq _ _))
theorem go_iadd (o : Ok n Γ) (hq : ∀ t' k, Q (.int (a + b) t') ⟨h, g, d, k, os⟩) : wpG (model prog w) Γ (inplaceOp .Add (.int a ta) (.int b tb)) Q ⟨h, g, d, t, os⟩ := g_leaf o (iadd_int (hq _ _))
theorem go_isub (o : Ok n Γ) (hq : ∀ t' k, Q (.int (a - b) t') ⟨h, g, d, k, os⟩) : wpG (model prog w) Γ (inplaceOp .Sub (.int a ta) (.int b tb)) Q ⟨h, g, d, t, os⟩ := g_leaf o (isub_int (hq _ _))
theorem go_inv (o : Ok n Γ) (hq : ∀ t' k, Q (.int (Builtin.bitNot a) t') ⟨h, g, d, k, os⟩) : wpG (model prog w) Γ (unaryOp .Invert (.int a ta)) Q ⟨h, g, d, t, os⟩ := g_leaf o (invert_int (hq _ _))
theorem go_neg (o : Ok n Γ) (hq : ∀ t' k, Q (.int (-a) t') ⟨h, g, d, k, os⟩) : wpG (model prog w) Γ (unaryOp .USub (.int a ta)) Q ⟨h, g, d, t, os⟩ := g_leaf o (P.neg_int (hq _ _))
theorem go_lt (o : Ok n Γ) (hq : Q (.bool (decide (a < b))) ⟨h, g, d, t, os⟩) : wpG (model prog w) Γ (compareOp .Lt (.int a ta) (.int b tb)) Q ⟨h, g, d, t, os⟩ := g_leaf o (lt_int hq)
theorem go_le (o : Ok n Γ) (hq : Q (.bool (decide (a ≤ b))) ⟨h, g, d, t, os⟩) : wpG (model prog w) Γ (compareOp .LtE (.int a ta) (.int b tb)) Q ⟨h, g, d, t, os⟩ := g_leaf o (le_int hq)
theorem go_gt (o : Ok n Γ) (hq : Q (.bool (decide (a > b))) ⟨h, g, d, t, os⟩) : wpG (model prog w) Γ (compareOp .Gt (.int a ta) (.int b tb)) Q ⟨h, g, d, t, os⟩ := g_leaf o (gt_int hq)
theorem go_ge (o : Ok n Γ) (hq : Q (.bool (decide (a ≥ b))) ⟨h, g, d, t, os⟩) : wpG (model prog w) Γ (compareOp .GtE (.int a ta) (.int b tb)) Q ⟨h, g, d, t, os⟩ := g_leaf o (P.ge_int hq)
theorem go_eq (o : Ok n Γ) (hq : Q (.bool (a == b)) ⟨h, g, d, t, os⟩) : wpG (model prog w) Γ (compareOp .Eq (.int a ta) (.int b tb)) Q ⟨h, g, d, t, os⟩ := g_leaf o (eq_int hq)
theorem go_ne (o : Ok n Γ) (hq : Q (.bool (a != b)) ⟨h, g, d, t, os⟩) : wpG (model prog w) Γ (compareOp .NotEq (.int a ta) (.int b tb)) Q ⟨h, g, d, t, os⟩ := g_leaf o (ne_int hq)
theorem go_isn (o : Ok n Γ) (hv : v ≠ .none) (hq : Q (.bool false) ⟨h, g, d, t, os⟩) : wpG (model prog w) Γ (compareOp .Is v .none) Q ⟨h, g, d, t, os⟩ := g_leaf o (is_none_ne hv hq)
theorem go_isnn (o : Ok n Γ) (hq : Q (.bool true) ⟨h, g, d, t, os⟩) : wpG (model prog w) Γ (compareOp .Is .none .none) Q ⟨h, g, d, t, os⟩ := g_leaf o (is_none_none hq)
theorem go_isnotn (o : Ok n Γ) (hv : v ≠ .none) (hq : Q (.bool true) ⟨h, g, d, t, os⟩) : wpG (model prog w) Γ (compareOp .IsNot v .none) Q ⟨h, g, d, t, os⟩ := g_leaf o (isnot_none_ne hv hq)
theorem go_isnotnn (o : Ok n Γ) (hq : Q (.bool false) ⟨h, g, d, t, os⟩) : wpG (model prog w) Γ (compareOp .IsNot .none .none) Q ⟨h, g, d, t, os⟩ := g_leaf o (isnot_none_none hq)
theorem go_tb {c : Bool} {Q : Bool → Shared → Prop} (hq : Q c ⟨h, g, d, t, os⟩) : wpG (model prog w) Γ (truthy (.bool c)) Q ⟨h, g, d, t, os⟩ := fun _ => hq
theorem go_ti {Q : Bool → Shared → Prop} (o : Ok n Γ) (hq : Q (a != 0) ⟨h, g, d, t, os⟩) : wpG (model prog w) Γ (truthy (.int a ta)) Q ⟨h, g, d, t, os⟩ := g_leaf o (P.truthy_int hq)
theorem go_tn {Q : Bool → Shared → Prop} (hq : Q false ⟨h, g, d, t, os⟩) : wpG (model prog w) Γ (truthy .none) Q ⟨h, g, d, t, os⟩ := fun _ => hq
end
theorem inS {prog : Program} {w : World} {Γ : Ctx} {R : Result → Shared → Prop} {h : Heap} {g : Array GenState} {d : Drawn} {t : Nat} {os : OsState} {K : Frag} {mg mb : Str → Option Value} {I : PH} {Mu : List (Addr × Obj)} {f : Addr} {fd : FuncData} {body : List Stmt} {lo unb : List Str} {gl : List (Str × Value)} {args : Args} {binds : List (Str × Value)} {n : Nat}
    (F : FnF K f fd body lo gl) (hb : ∀ S, peek K S (bindArgs fd args) = some binds) (hlo : binds.map (·.1) ++ unb = lo) (hc : Γ.code = .call (.ref f) args) (o : OkB (n + 1) Γ) (G : Gl K mg mb I) (S : Hp I Mu h) {vs : Vs} (hv : ((binds.map fun p => (p.1, some p.2)) ++ unb.map fun y => (y, none)) = vs)
    (k : ∀ Γ' env h' t', Ok n Γ' → InF I env vs Mu h' → Kg K env gl → wpG (model prog w) Γ' (execs body env) (fun fl s' => R (.ok (.ret (match fl with | .ret v => v | _ => .none))) s') ⟨h', g, d, t', os⟩) :
    codeG (model prog w) Γ R ⟨h, g, d, t, os⟩ := inG (s := ⟨h, g, d, t, os⟩) F hb hlo hc o G S fun Γ' env h' o' S' kg => k Γ' env h' _ o' (hv ▸ S') kg
end Mine
end

section
open PySem PySem.W PySem.Calls PyProof.Rows
set_option Elab.async false
set_option maxRecDepth 100000
namespace Mine
def BaO (b : Array UInt8) : Obj := ⟨.type "bytearray", none, .bytearray b 0, #[]⟩
def StO (b : Array UInt8) (t : Tok) : Obj := ⟨.type "_struct.Struct", none, .fields #[.bytes b t], #[]⟩
namespace BF
theorem slot_len : Slot "bytearray" "__len__" "bytearray.__len__" :=
  .of (owner := "bytearray") (n := "__len__") (by rw [typeLookup_type, builtinLookup_eq_fast]; kernel_rfl) (by decide +kernel) (by decide +kernel) (by decide +kernel) (by first | exact .inl (by decide +kernel) | exact .inr (by decide +kernel)) (by rw [isSubtype_type]; kernel_rfl)
theorem slot_get : Slot "bytearray" "__getitem__" "bytearray.__getitem__" :=
  .of (owner := "bytearray") (n := "__getitem__") (by rw [typeLookup_type, builtinLookup_eq_fast]; kernel_rfl) (by decide +kernel) (by decide +kernel) (by decide +kernel) (by first | exact .inl (by decide +kernel) | exact .inr (by decide +kernel)) (by rw [isSubtype_type]; kernel_rfl)
theorem slot_set : Slot "bytearray" "__setitem__" "bytearray.__setitem__" :=
  .of (owner := "bytearray") (n := "__setitem__") (by rw [typeLookup_type, builtinLookup_eq_fast]; kernel_rfl) (by decide +kernel) (by decide +kernel) (by decide +kernel) (by first | exact .inl (by decide +kernel) | exact .inr (by decide +kernel)) (by rw [isSubtype_type]; kernel_rfl)
theorem entry_len : entryFor table "bytearray.__len__" = some Builtin.«bytearray.__len__» := by first | exact entryFor_of_fast (by kernel_rfl) | exact entryFor_of_tree (by kernel_rfl)
theorem entry_get : entryFor table "bytearray.__getitem__" = some Builtin.«bytearray.__getitem__» := by first | exact entryFor_of_fast (by kernel_rfl) | exact entryFor_of_tree (by kernel_rfl)
theorem entry_set : entryFor table "bytearray.__setitem__" = some Builtin.«bytearray.__setitem__» := by first | exact entryFor_of_fast (by kernel_rfl) | exact entryFor_of_tree (by kernel_rfl)
theorem entry_init : entryFor table "bytearray.__init__" = some Builtin.«bytearray.__init__» := by first | exact entryFor_of_fast (by kernel_rfl) | exact entryFor_of_tree (by kernel_rfl)
theorem args_len (a : Value) : argsOk "bytearray.__len__" ⟨[a], []⟩ := by unfold argsOk; kernel_rfl
theorem args_get (a b : Value) : argsOk "bytearray.__getitem__" ⟨[a, b], []⟩ := by unfold argsOk; kernel_rfl
theorem args_set (a b c : Value) : argsOk "bytearray.__setitem__" ⟨[a, b, c], []⟩ := by unfold argsOk; kernel_rfl
theorem slot_slice_idx : typeLookup (.type "slice") "__index__" = pure none := by rw [typeLookup_type, builtinLookup_eq_fast]; kernel_rfl
end BF
section
variable {prog : Program} {w : World} {A : Around} {E : Value → Shared → Prop} {s : Shared} {a : Addr} {b : Array UInt8}
theorem ba_type (ho : s.heap.get? a = some (BaO b)) : s.TypeIs (.ref a) "bytearray" := ⟨_, ho, rfl⟩
theorem ba_payload {Q : Array UInt8 → Shared → Prop} (ho : s.heap.get? a = some (BaO b)) (h : Q b s) : wpAny (model prog w) A (Builtin.Bytes.payload (.ref a)) Q E s := by
  unfold Builtin.Bytes.payload Builtin.Bytes.payload?
  exact wpAny_bind (wpAny_bind (wpAny_load ho (wpAny_pure (wpAny_pure h))))
theorem ba_write {Q : Unit → Shared → Prop} {f : Array UInt8 → Array UInt8} (ho : s.heap.get? a = some (BaO b)) (hz : (f b).size ≤ sizeLine) (h : Q () { s with heap := s.heap.update a (Obj.mapBytearray f) }) :
    wpAny (model prog w) A (Builtin.Bytes.write (.ref a) f) Q E s := by
  show wpAny _ _ (updateBytearray a f) _ _ _
  unfold updateBytearray
  refine wpAny_bind (wpAny_load ho ?_)
  show wpAny _ _ (update a (Obj.mapBytearray f) >>= fun _ => lookBehind a) _ _ _
  refine wpAny_bind (wpAny_update ho ?_)
  have h2 : (s.heap.update a (Obj.mapBytearray f)).get? a = some (BaO (f b)) := Heap.get?_update_self _ ho rfl
  refine wpAny_lookBehind h2 ?_ h
  show (if (f b).size > sizeLine then some "bytearray:memory" else none) = none
  rw [if_neg (by omega)]
theorem ba_len {Q : Value → Shared → Prop} (ho : s.heap.get? a = some (BaO b)) (hz : b.size ≤ sizeLine) (h : Q (.int b.size (s.toks + 1)) { s with toks := s.toks + 1 + 1 }) : wpAny (model prog w) A (call (.builtin "len") [.ref a]) Q E s := by
  rw [sizeLine_eq] at hz
  refine call_function_entry kind_len plain_len entry_len (args_len1 _) ?_
  unfold Builtin.«len»
  refine wpAny_bind (m := oneArg "len" _) (wpAny_pure ?_)
  refine wpAny_bind (m := callSpecial? (.ref a) (Str.ofString "__len__")) (wpAny_callSpecial?_slot (name := Str.ofString "__len__") (ba_type ho) BF.slot_len
    (wpAny_call_entry BF.slot_len (ba_type ho) BF.entry_len ?_ (BF.args_len _)))
  unfold Builtin.«bytearray.__len__»
  refine wpAny_bind (m := slotArgs "__len__" 0 _) (wpAny_pure ?_)
  refine wpAny_bind (ba_payload ho (wpAny_bind (wpAny_mkInt (wpAny_pure ⟨_, rfl, ?_⟩))))
  refine wpAny_bind (wpAny_holding (wpAny_pure ?_))
  refine wpAny_bind (wpAny_letGo ?_)
  show wpAny _ _ (if ((b.size : Nat) : Int) < 0 then _ else _) _ _ _
  rw [if_neg (by omega)]
  show wpAny _ _ (if ((b.size : Nat) : Int) ≥ 2 ^ 63 then _ else _) _ _ _
  rw [if_neg (by omega)]
  exact wpAny_bind (wpAny_mkInt (wpAny_pure ⟨_, rfl, h⟩))
end
end Mine
end

section
open PySem PySem.W PySem.Calls PyProof.Rows
set_option Elab.async false
set_option maxRecDepth 100000
namespace Mine
namespace BF
theorem slot_init : Slot "bytearray" "__init__" "bytearray.__init__" :=
  .of (owner := "bytearray") (n := "__init__") (by rw [typeLookup_type, builtinLookup_eq_fast]; kernel_rfl) (by decide +kernel) (by decide +kernel) (by decide +kernel) (by first | exact .inl (by decide +kernel) | exact .inr (by decide +kernel)) (by rw [isSubtype_type]; kernel_rfl)
theorem sub_self : isSubtype (.type "bytearray") (.type "bytearray") = pure true := by rw [isSubtype_type]; kernel_rfl
theorem newCall (a : Value) : checkBuiltinCall "bytearray.__new__" ⟨[.type "bytearray", a], []⟩ = pure () := by kernel_rfl
theorem entry_new : entryFor table "bytearray.__new__" = some Builtin.«list.__new__» := entryFor_alias (id' := "list.__new__") (by kernel_rfl) (by first | rfl | decide +kernel) (by decide +kernel) (by kernel_rfl)
theorem plain_new : plainId "bytearray.__new__" = true := by decide +kernel
set_option maxHeartbeats 4000000 in
theorem owner_new : ("bytearray.__new__".splitOn ".__new__").headD "" = "bytearray" := by simp +decide [String.splitOn, String.splitOnAux]
theorem tc_eq (v : Value) : Builtin.«type.__call__» ⟨[.type "bytearray", v], []⟩ = (holding [.builtin "bytearray.__new__"] (call (.builtin "bytearray.__new__") [.type "bytearray", v] []) >>= fun obj => isInstance obj (.type "bytearray") >>= fun b =>
    if (!b) = true then rule "type.call.new-gave-other-type" >>= fun _ => ret obj else holding [obj] (callSpecial? obj "__init__" [v] []) >>= fun r => match r with
      | none => ret obj
      | some r => if (r != .none) = true then rule "type.call.init-returned-value" >>= fun _ => PySem.typeNameOf r >>= fun n => (raiseError "TypeError" s!"__init__() should return None, not '{n}'" : Sem PUnit) >>= fun _ => ret obj else ret obj) := by kernel_rfl
end BF
section
variable {prog : Program} {w : World} {A : Around} {E : Value → Shared → Prop} {s : Shared}
theorem ba_new (a : Value) {Q₁ : Value → Shared → Prop} (h : Q₁ (.ref s.heap.objs.size) { s with heap := s.heap.push (BaO #[]) }) :
    codeAny (model prog w) A (.call (.builtin "bytearray.__new__") ⟨[.type "bytearray", a], []⟩) (wants Q₁ E) s := by
  refine codeAny_of_tree ?_
  show wpAny _ A.in1 (do checkBuiltinCall "bytearray.__new__" ⟨[.type "bytearray", a], []⟩; again (.builtin "bytearray.__new__" ⟨[.type "bytearray", a], []⟩)) _ _ s
  refine wpAny_bind (wpAny_of_eq (BF.newCall a) (wpAny_pure ⟨plainId_quiet BF.plain_new _, codeAny_builtin_stack BF.entry_new rfl fun p st => ?_⟩))
  rw [Around.under_plainId BF.plain_new _]
  have hsub := BF.sub_self
  have hown := BF.owner_new
  obtain ⟨hp, g, d, tk, os⟩ := s
  simp only [hown]
  wp_walk
  exact h
end
end Mine
end

section
open PySem PySem.W PySem.Calls PyProof.Rows
set_option Elab.async false
set_option maxRecDepth 100000
namespace Mine
section
variable {prog : Program} {w : World} {Γ : Ctx} {s : Shared} {n : Nat}
theorem bad_no {id : String} {a : Args} (hx : noDec (.builtin id a) = true) (hb : badIds.contains id = true) : False := by
  change (!badIds.contains id) = true at hx; rw [hb] at hx; cases hx
theorem g_exported (o : Ok n Γ) {v : Value} {Q : Bool → Shared → Prop} (h : Q false s) : wpG (model prog w) Γ (Builtin.Bytes.exported v) Q s := by
  unfold Builtin.Bytes.exported
  refine g_bind (g_stack o fun st hst => g_pure ?_)
  have key : ∀ b, b = false → Q b s := fun b e => e ▸ h
  refine key _ (List.any_eq_false.mpr fun x m => ?_)
  have hx := hst x m
  revert hx
  split <;> intro hx <;> first
    | exact (bad_no hx (by decide +kernel)).elim
    | exact Bool.false_ne_true
    | (intro e
       refine bad_no hx ?_
       unfold badIds
       have := (Bool.and_eq_true_iff.mp e).2
       rw [List.contains_eq_mem, decide_eq_true_eq] at this ⊢
       exact List.mem_append_right _ this)

theorem lk_rel : typeLookup (.type "bytearray") (Str.ofString "__release_buffer__") = pure (some (.builtin "bytearray.__release_buffer__")) := by rw [typeLookup_type, builtinLookup_eq_fast]; kernel_rfl
theorem ew_rel : ("bytearray.__release_buffer__").endsWith ("." ++ "__release_buffer__") = true := by decide +kernel
theorem dr_rel : ("bytearray.__release_buffer__").dropRight ("__release_buffer__".length + 1) = "bytearray" := by decide +kernel
set_option maxHeartbeats 4000000 in
theorem own_no {A : Around} {E : Value → Shared → Prop} {a : Addr} {b : Array UInt8} {Q : Bool → Shared → Prop} (ho : s.heap.get? a = some (BaO b)) (h : Q false s) : wpAny (model prog w) A (Builtin.Bytes.ownRelease (.ref a)) Q E s := by
  unfold Builtin.Bytes.ownRelease Builtin.Bytes.slotIsOwn
  have ht := ba_type ho
  refine wpAny_bind (wpAny_bind (wpAny_specialOf ht lk_rel ?_))
  show wpAny _ _ (if (!("bytearray.__release_buffer__").endsWith ("." ++ "__release_buffer__")) = true then pure false else isInstance (.ref a) (.type (("bytearray.__release_buffer__").dropRight ("__release_buffer__".length + 1)))) _ _ _
  rw [if_neg (by rw [ew_rel]; decide), dr_rel]
  have hsub := BF.sub_self
  wp_walk
  exact h
end
end Mine
end

section
open PySem PySem.W PySem.Calls PyProof.Rows
set_option Elab.async false
set_option maxRecDepth 100000
namespace Mine
section
variable {prog : Program} {w : World} {Γ : Ctx} {s : Shared} {n : Nat}
theorem lk_ii : typeLookup (.type "int") (Str.ofString "__index__") = pure (some (.builtin "int.__index__")) := by rw [typeLookup_type, builtinLookup_eq_fast]; kernel_rfl
theorem bo_init (v : Value) : Builtin.Bytes.bindOptional "bytearray.__init__" "bytearray" ["source", "encoding", "errors"] [v] [] = pure [some v, none, none] := by rfl
set_option maxHeartbeats 4000000 in
theorem init_int (o : Ok n Γ) {a : Addr} {b : Array UInt8} {k : Int} {t : Tok} {I : PH} {Mu : List (Addr × Obj)} {h : Heap} {g : Array GenState} {d : Drawn} {tk : Nat} {os : OsState} {Q : Fin → Shared → Prop} (hk : 0 ≤ k) (hk2 : k < 2 ^ 20) (S : Hp I ((a, BaO b) :: Mu) h)
  (hq : ∀ h' tk', Hp I ((a, BaO (Array.replicate k.toNat 0)) :: Mu) h' → Q (.done (.ret .none)) ⟨h', g, d, tk', os⟩) :
  wpG (model prog w) Γ (Builtin.«bytearray.__init__» ⟨[.ref a, .int k t], []⟩) Q ⟨h, g, d, tk, os⟩ := by
  unfold Builtin.«bytearray.__init__»
  have ho : h.get? a = some (BaO b) := (S.mu _ (List.mem_cons_self ..)).1
  refine g_bind (g_leaf o (own_no ho ?_))
  refine g_ff Bool.false_ne_true ?_
  refine g_bind (g_eq (bo_init _) ?_)
  refine g_bind (g_eq (a := ()) rfl ?_)
  refine g_bind (g_eq (a := ()) rfl ?_)
  refine g_bind (g_bind (g_exported o ?_))
  refine g_bind (g_bind (g_load ho (g_pure (g_pure ?_))))
  refine g_ff (by decide) ?_
  refine g_leaf o ?_
  refine wpAny_bind (ba_write ho (by decide) ?_)
  have l1 := lk_ii
  wp_walk
  have f1 : ¬ ((!Builtin.Bytes.fitsIndex k) = true) := by
    have : Builtin.Bytes.fitsIndex k = true := by unfold Builtin.Bytes.fitsIndex; simp; omega
    rw [this]; decide
  have f2 : ¬ (k < 0) := by omega
  have f3 : ¬ ((k == 2 ^ 63 - 1) = true) := by intro e; have := eq_of_beq e; omega
  have f4 : ¬ (Builtin.Bytes.tooLong k.toNat = true) := by unfold Builtin.Bytes.tooLong; rw [decide_eq_true_eq, sizeLine_eq]; omega
  have S1 : Hp I ((a, BaO #[]) :: Mu) (h.update a (Obj.mapBytearray fun _ => #[])) := S.upd (pre := []) rfl
  rw [if_neg f1]
  show wpAny _ _ (if k < 0 then _ else _) _ _ _
  rw [if_neg f2]
  show wpAny _ _ (if (k == 2 ^ 63 - 1) = true then _ else _) _ _ _
  rw [if_neg f3]
  show wpAny _ _ (if (Builtin.Bytes.tooLong k.toNat = true) then _ else _) _ _ _
  rw [if_neg f4]
  refine wpAny_bind (wpAny_rule ?_)
  by_cases hp : k > 0
  · rw [if_pos hp]
    refine wpAny_bind (ba_write ((S1.mu _ (List.mem_cons_self ..)).1) (by rw [Array.size_replicate, sizeLine_eq]; omega) ?_)
    exact wpAny_pure (hq _ _ (S1.upd (pre := []) rfl))
  · rw [if_neg hp]
    have hz : k.toNat = 0 := by omega
    rw [hz] at hq
    exact wpAny_pure (hq _ _ S1)
theorem lk_bi : typeLookup (.type "bytes") (Str.ofString "__index__") = pure none := by rw [typeLookup_type, builtinLookup_eq_fast]; kernel_rfl
theorem lk_bb : typeLookup (.type "bytes") (Str.ofString "__buffer__") = pure (some (.builtin "bytes.__buffer__")) := by rw [typeLookup_type, builtinLookup_eq_fast]; kernel_rfl
theorem lk_br : typeLookup (.type "bytes") (Str.ofString "__release_buffer__") = pure none := by rw [typeLookup_type, builtinLookup_eq_fast]; kernel_rfl
theorem ew_bb : ("bytes.__buffer__").endsWith ("." ++ "__buffer__") = true := by decide +kernel
theorem dr_bb : ("bytes.__buffer__").dropRight ("__buffer__".length + 1) = "bytes" := by decide +kernel
theorem sub_bb : isSubtype (.type "bytes") (.type "bytes") = pure true := by rw [isSubtype_type]; kernel_rfl
set_option maxHeartbeats 4000000 in
theorem init_bytes (o : Ok n Γ) {a : Addr} {b c : Array UInt8} {t : Tok} {I : PH} {Mu : List (Addr × Obj)} {h : Heap} {g : Array GenState} {d : Drawn} {tk : Nat} {os : OsState} {Q : Fin → Shared → Prop} (hk2 : c.size < 2 ^ 20) (S : Hp I ((a, BaO b) :: Mu) h)
  (hq : ∀ h' tk', Hp I ((a, BaO c) :: Mu) h' → Q (.done (.ret .none)) ⟨h', g, d, tk', os⟩) :
  wpG (model prog w) Γ (Builtin.«bytearray.__init__» ⟨[.ref a, .bytes c t], []⟩) Q ⟨h, g, d, tk, os⟩ := by
  unfold Builtin.«bytearray.__init__»
  have ho : h.get? a = some (BaO b) := (S.mu _ (List.mem_cons_self ..)).1
  refine g_bind (g_leaf o (own_no ho ?_))
  refine g_ff Bool.false_ne_true ?_
  refine g_bind (g_eq (bo_init _) ?_)
  refine g_bind (g_eq (a := ()) rfl ?_)
  refine g_bind (g_eq (a := ()) rfl ?_)
  refine g_bind (g_bind (g_exported o ?_))
  refine g_bind (g_bind (g_load ho (g_pure (g_pure ?_))))
  refine g_ff (by decide) ?_
  refine g_leaf o ?_
  refine wpAny_bind (ba_write ho (by decide) ?_)
  have l1 := lk_bi
  have l2 := lk_bb
  have l3 := lk_br
  have S1 : Hp I ((a, BaO #[]) :: Mu) (h.update a (Obj.mapBytearray fun _ => #[])) := S.upd (pre := []) rfl
  wp_walk
  rw [if_neg (by rw [ew_bb]; decide), dr_bb]
  have l5 := sub_bb
  have ho2 : (h.update a (Obj.mapBytearray fun _ => #[])).get? a = some (BaO #[]) := (S1.mu _ (List.mem_cons_self ..)).1
  wp_walk
  have hz : (Obj.mapBytearray (fun _ => c) (BaO #[])).data.pastItsLine = none := by
    show (if c.size > sizeLine then some "bytearray:memory" else none) = none
    rw [if_neg (by rw [sizeLine_eq]; omega)]
  rw [hz]
  exact wpAny_pure (wpAny_pure (hq _ _ (S1.upd (pre := []) rfl)))
theorem codeG_bi {id : String} {args : Args} {b : Builtin} {R : Result → Shared → Prop} (he : entryFor table id = some b) (hc : Γ.code = .builtin id args) (h : wpG (model prog w) Γ (b args) (fun fin s' => match fin with | .done f => R (.ok f) s' | .again c' => c'.quiet = true ∧ codeG (model prog w) (Γ.goto c') R s') s) : codeG (model prog w) Γ R s := by
  refine codeG_of_tree ?_
  rw [hc]
  show wpG _ Γ (match entryFor table id with | some b => b args | none => unsupported ((withoutEnding? id "#data").getD id)) _ s
  rw [he]
  exact h
theorem codeG_again {c : Code} {R : Result → Shared → Prop} (hd : (model prog w).den Γ.code = again c) (hq : c.quiet = true) (h : codeG (model prog w) (Γ.goto c) R s) : codeG (model prog w) Γ R s := by
  refine codeG_of_tree ?_
  rw [hd]
  exact g_pure ⟨hq, h⟩
theorem codeG_callbi {id : String} {args : List Value} {R : Result → Shared → Prop} (o : Ok n Γ) (hc : Γ.code = .call (.builtin id) ⟨args, []⟩) (hchk : ∀ Q : Unit → Shared → Prop, Q () s → wpAny (model prog w) A0 (checkBuiltinCall id ⟨args, []⟩) Q (fun _ _ => False) s) (hq : (Code.builtin id ⟨args, []⟩).quiet = true)
    (h : codeG (model prog w) (Γ.goto (.builtin id ⟨args, []⟩)) R s) : codeG (model prog w) Γ R s := by
  refine codeG_of_tree ?_
  rw [hc]
  show wpG _ Γ (checkBuiltinCall id ⟨args, []⟩ >>= fun _ => again (.builtin id ⟨args, []⟩)) _ s
  exact g_bind (g_leaf o (hchk _ (g_pure ⟨hq, h⟩)))
theorem g_call_bi (o : Ok (n + 2) Γ) {id : String} {args : List Value} {b : Builtin} {Q : Value → Shared → Prop} (he : entryFor table id = some b) (hchk : ∀ Q : Unit → Shared → Prop, Q () s → wpAny (model prog w) A0 (checkBuiltinCall id ⟨args, []⟩) Q (fun _ _ => False) s) (hq : (Code.builtin id ⟨args, []⟩).quiet = true)
    (hn : noDec (.builtin id ⟨args, []⟩) = true) (hw : (Code.builtin id ⟨args, []⟩).weight ≤ 2) (hu : (Code.builtin id ⟨args, []⟩).cUnits ≤ 10)
    (h : ∀ Γ', Ok (n + 1) Γ' → wpG (model prog w) Γ' (b ⟨args, []⟩) (fun fin s' => ∃ v, fin = .done (.ret v) ∧ Q v s') s) : wpG (model prog w) Γ (call (.builtin id) args []) Q s := by
  refine g_call o fun Γ' hc o' => codeG_callbi (o'.ok (by rw [hc]; exact Nat.le_of_ble_eq_true rfl) (by rw [hc]; exact Nat.le_of_ble_eq_true rfl)) hc hchk hq (codeG_bi he rfl ?_)
  refine g_mono (h _ ((o'.goto _ hn).ok hw hu)) fun fin s' z => ?_
  obtain ⟨v, rfl, hv⟩ := z
  exact hv
theorem w_init (args : List Value) : (Code.builtin "bytearray.__init__" ⟨args, []⟩).weight ≤ 2 := Nat.le_of_ble_eq_true (by kernel_rfl)
theorem u_init (args : List Value) : (Code.builtin "bytearray.__init__" ⟨args, []⟩).cUnits ≤ 10 := Nat.le_of_ble_eq_true (by kernel_rfl)
theorem w_tc (v : Value) : (Code.builtin "type.__call__" ⟨[.type "bytearray", v], []⟩).weight ≤ 2 := Nat.le_of_ble_eq_true (by kernel_rfl)
theorem u_tc (v : Value) : (Code.builtin "type.__call__" ⟨[.type "bytearray", v], []⟩).cUnits ≤ 10 := Nat.le_of_ble_eq_true (by kernel_rfl)
theorem d_tc (v : Value) : (model prog w).den (.call (.type "bytearray") ⟨[v], []⟩) = again (.builtin "type.__call__" ⟨[.type "bytearray", v], []⟩) := rfl
theorem a_init (a v : Value) : argsOk "bytearray.__init__" ⟨[a, v], []⟩ := by unfold argsOk; kernel_rfl
theorem q_init (args : Args) : (Code.builtin "bytearray.__init__" args).quiet = true := Code.quiet_builtin _ (by decide +kernel)
theorem n_init (args : Args) : noDec (Code.builtin "bytearray.__init__" args) = true := by show (!badIds.contains "bytearray.__init__") = true; decide +kernel
theorem n_tc (args : Args) : noDec (Code.builtin "type.__call__" args) = true := by show (!badIds.contains "type.__call__") = true; decide +kernel
theorem q_tc (args : Args) : (Code.builtin "type.__call__" args).quiet = true := Code.quiet_builtin _ (by decide +kernel)
theorem g_ba (o : Ok (n + 4) Γ) {v : Value} {I : PH} {Mu : List (Addr × Obj)} {h : Heap} {g : Array GenState} {d : Drawn} {tk : Nat} {os : OsState} {Q : Value → Shared → Prop} {c : Array UInt8} (S : Hp I Mu h)
    (hi : ∀ Γ' (o' : Ok (n + 2) Γ') a h', Hp I ((a, BaO #[]) :: Mu) h' → ∀ R : Fin → Shared → Prop, (∀ h'' tk', Hp I ((a, BaO c) :: Mu) h'' → R (.done (.ret .none)) ⟨h'', g, d, tk', os⟩) → wpG (model prog w) Γ' (Builtin.«bytearray.__init__» ⟨[.ref a, v], []⟩) R ⟨h', g, d, tk, os⟩)
    (hq : ∀ a h' tk', Hp I ((a, BaO c) :: Mu) h' → Q (.ref a) ⟨h', g, d, tk', os⟩) : wpG (model prog w) Γ (call (.type "bytearray") [v] []) Q ⟨h, g, d, tk, os⟩ := by
  refine g_call o fun Γ' hc o' => codeG_again (by rw [hc]; exact d_tc v) (q_tc _) (codeG_bi entry_type_call rfl ?_)
  rw [BF.tc_eq]
  have o2 : Ok (n + 3) (Γ'.goto (.builtin "type.__call__" ⟨[.type "bytearray", v], []⟩)) := (o'.goto _ (n_tc _)).ok (w_tc v) (u_tc v)
  generalize Γ'.goto (.builtin "type.__call__" ⟨[.type "bytearray", v], []⟩) = Γ₂ at o2 ⊢
  have S1 := S.push (BaO #[])
  have ho : (h.push (BaO #[])).get? h.objs.size = some (BaO #[]) := (S1.mu _ (List.mem_cons_self ..)).1
  refine g_bind (g_holding (g_leaf o2 (wpAny_call (ba_new v ?_))))
  refine g_bind (g_leaf o2 ?_)
  have hsub := BF.sub_self
  have ht : (⟨h.push (BaO #[]), g, d, tk, os⟩ : Shared).TypeIs (.ref h.objs.size) "bytearray" := ba_type ho
  wp_walk
  refine g_ff (by decide) ?_
  refine g_bind (g_holding ?_)
  simp only [callSpecial?]
  refine g_bind (g_leaf o2 (wpAny_specialOf ht BF.slot_init.lookup ?_))
  simp only [BF.slot_init.bind]
  refine g_holding (g_bind (g_pure (g_bind ?_)))
  refine g_call_bi (n := n + 1) o2 BF.entry_init (fun Q hQ => BF.slot_init.check _ _ _ _ _ _ _ _ ht (a_init _ _) hQ) (q_init _) (n_init _) (w_init _) (u_init _) fun Γ₃ o3 => ?_
  refine hi _ o3 _ _ S1 _ fun h'' tk' S2 => ⟨_, rfl, ?_⟩
  refine g_pure ?_
  refine g_ff (by decide) ?_
  exact g_pure (hq _ _ _ S2)
theorem g_ba_int (o : Ok (n + 4) Γ) {k : Int} {t : Tok} {I : PH} {Mu : List (Addr × Obj)} {h : Heap} {g : Array GenState} {d : Drawn} {tk : Nat} {os : OsState} {Q : Value → Shared → Prop} (S : Hp I Mu h) (hk : 0 ≤ k) (hk2 : k < 2 ^ 20)
    (hq : ∀ a h' tk', Hp I ((a, BaO (Array.replicate k.toNat 0)) :: Mu) h' → Q (.ref a) ⟨h', g, d, tk', os⟩) : wpG (model prog w) Γ (call (.type "bytearray") [.int k t] []) Q ⟨h, g, d, tk, os⟩ :=
  g_ba o S (fun _ o' _ _ S' _ hR => init_int o' hk hk2 S' hR) hq
theorem g_ba_bytes (o : Ok (n + 4) Γ) {c : Array UInt8} {t : Tok} {I : PH} {Mu : List (Addr × Obj)} {h : Heap} {g : Array GenState} {d : Drawn} {tk : Nat} {os : OsState} {Q : Value → Shared → Prop} (S : Hp I Mu h) (hk2 : c.size < 2 ^ 20)
    (hq : ∀ a h' tk', Hp I ((a, BaO c) :: Mu) h' → Q (.ref a) ⟨h', g, d, tk', os⟩) : wpG (model prog w) Γ (call (.type "bytearray") [.bytes c t] []) Q ⟨h, g, d, tk, os⟩ :=
  g_ba o S (fun _ o' _ _ S' _ hR => init_bytes o' hk2 S' hR) hq
end
end Mine
end

section
open PySem PySem.W PySem.Calls PyProof.Rows
set_option Elab.async false
set_option maxRecDepth 100000
namespace Mine
def SlO (l u st : Value) : Obj := { cls := .type "slice", data := .fields #[l, u, st] }
def bPart (v : Value) : Sem Value := do
  if v == .none then return .none
  if (← specialOf v "__index__").isNone then
    rule "bytes.slice.part-no-index"; raiseError "TypeError" "slice indices must be integers or None or have an __index__ method"
  return rawInt (← asIndex v)
theorem sliceParts_eq (s : Value) : Builtin.Bytes.sliceParts s = (do
    let step ← bPart (← field s 2)
    if step == rawInt 0 then rule "bytes.slice.step-zero"; raiseError "ValueError" "slice step cannot be zero"
    let start ← bPart (← field s 0)
    let stop ← bPart (← field s 1)
    return (start, stop, step)) := rfl
def cut (b : Array UInt8) (lo hi : Nat) : Array UInt8 := ((b.toList.drop lo).take (hi - lo)).toArray
theorem cut_size (b : Array UInt8) (lo hi : Nat) : (cut b lo hi).size ≤ b.size := by
  unfold cut; simp; omega
theorem fm_cut {α : Type} (l : List α) (lo n : Nat) : (List.range n).filterMap (fun i => l[lo + i]?) = (l.drop lo).take n := by
  induction n with
  | zero => simp
  | succ n ih =>
    rw [List.range_succ, List.filterMap_append, ih, List.take_add_one, List.getElem?_drop]
    congr 1
theorem sliced_eq (b : Array UInt8) (lo hi : Nat) : Builtin.Bytes.sliced b lo hi 1 = cut b lo hi := by
  unfold Builtin.Bytes.sliced cut
  rw [sliceRange_one, List.filterMap_map]
  congr 1
  rw [← fm_cut]
  congr 1
  funext i
  exact Array.getElem?_toList.symm
section
variable {prog : Program} {w : World} {A : Around} {E : Value → Shared → Prop} {s : Shared}
theorem bPart_ {M : Model} {v : Value} {k : Option Int} {Q : Value → Shared → Prop} (hv : IsPart v k) (h : Q (rawPart k) s) : wpAny M A (bPart v) Q E s := by
  cases hv with
  | none => exact wpAny_pure h
  | int i t =>
    unfold bPart
    rw [if_neg (show ¬ ((Value.int i t == Value.none) = true) from Bool.false_ne_true)]
    refine wpAny_bind (wpAny_specialOf (T := "int") (typeIs_int s i t) int_index ?_)
    simp only [Option.isNone_some, Bool.false_eq_true, if_false]
    exact wpAny_bind (wpAny_of_eq (a := i) rfl (wpAny_pure h))
theorem parts_ {M : Model} {sl : Addr} {vl vu : Value} {lo hi : Option Int} {Q : Value × Value × Value → Shared → Prop} (hs : s.heap.get? sl = some (SlO vl vu .none)) (pl : IsPart vl lo) (pu : IsPart vu hi)
    (h : Q (rawPart lo, rawPart hi, rawPart none) s) : wpAny M A (Builtin.Bytes.sliceParts (.ref sl)) Q E s := by
  rw [sliceParts_eq]
  refine wpAny_bind (wpAny_field hs rfl (i := 2) rfl (wpAny_bind (bPart_ .none ?_)))
  rw [if_neg (by decide)]
  refine wpAny_bind (wpAny_field hs rfl (i := 0) rfl (wpAny_bind (bPart_ pl ?_)))
  refine wpAny_bind (wpAny_field hs rfl (i := 1) rfl (wpAny_bind (bPart_ pu ?_)))
  exact wpAny_pure h
theorem ba_getslice {a sl : Addr} {b : Array UInt8} {vl vu : Value} {lo hi : Option Int} {x y : Nat} {Q : Value → Shared → Prop} (ho : s.heap.get? a = some (BaO b)) (hs : s.heap.get? sl = some (SlO vl vu .none)) (pl : IsPart vl lo) (pu : IsPart vu hi)
    (hx : sliceBounds lo hi none b.size = ((x : Int), (y : Int), 1)) (hz : b.size < 2 ^ 20) (h : Q (.ref s.heap.objs.size) { s with heap := s.heap.push (BaO (cut b x y)) }) : wpAny (model prog w) A (getItem (.ref a) (.ref sl)) Q E s := by
  have hTs : s.TypeIs (.ref sl) "slice" := ⟨_, hs, rfl⟩
  have hT := ba_type ho
  unfold getItem
  refine wpAny_holding ?_
  refine wpAny_bind (wpAny_sequenceKey hT (by decide) ?_)
  refine wpAny_bind (wpAny_callSpecial?_slot (name := Str.ofString "__getitem__") hT BF.slot_get
    (wpAny_call_entry BF.slot_get hT BF.entry_get ?_ (BF.args_get _ _)))
  unfold Builtin.«bytearray.__getitem__»
  refine wpAny_bind (m := slotArgs "__getitem__" 1 _) (wpAny_pure ?_)
  refine wpAny_bind (m := Builtin.Bytes.subscript? _) ?_
  · unfold Builtin.Bytes.subscript?
    refine wpAny_bind (wpAny_specialOf hTs slice_no_index ?_)
    rw [if_pos (by decide)]
    refine wpAny_pure ?_
    refine wpAny_bind (wpAny_typeOf hTs ?_)
    rw [if_neg (by decide)]
    refine wpAny_bind (parts_ hs pl pu ?_)
    refine wpAny_bind (ba_payload ho ?_)
    show wpAny _ _ (sliceIndices (rawPart lo) (rawPart hi) (rawPart none) b.size >>= _) _ _ _
    rw [sliceIndices_raw _ _ _ _ (by decide), hx]
    refine wpAny_bind (wpAny_pure ?_)
    show wpAny _ _ (Builtin.Bytes.newBytearray (Builtin.Bytes.sliced b x y 1) >>= fun v => ret v) _ _ _
    rw [sliced_eq b x y]
    wp_walk
    rw [if_neg (by have := cut_size b x y; rw [sizeLine_eq]; omega)]
    wp_walk
    exact ⟨_, rfl, wpAny_pure h⟩
def lay (b c : Array UInt8) (x y : Nat) : Array UInt8 := b.extract 0 x ++ c ++ b.extract y b.size
theorem sub_no (x : Addr) (y : Addr) (h : x ≠ y) : Builtin.Bytes.sameRef (.ref x) (.ref y) = false := by
  unfold Builtin.Bytes.sameRef; simp [h]
theorem set_idx {K : Int × Int × Int → Sem Fin} {a : Addr} {b : Array UInt8} {lo hi : Option Int} {x y : Nat} {Q : Fin → Shared → Prop} (ho : s.heap.get? a = some (BaO b))
    (hx : sliceBounds lo hi none b.size = ((x : Int), (y : Int), 1)) (h : wpAny (model prog w) A (K ((x : Int), (y : Int), 1)) Q E s) :
    wpAny (model prog w) A (Builtin.Bytes.payload (.ref a) >>= fun d => sliceIndices (rawPart lo) (rawPart hi) (rawPart none) d.size >>= K) Q E s := by
  refine wpAny_bind (ba_payload ho ?_)
  rw [sliceIndices_raw _ _ _ _ (by decide), hx]
  exact wpAny_bind (wpAny_pure h)
theorem set_fin {k : Sem Unit} {a : Addr} {b c : Array UInt8} {x y : Nat} {Q : Fin → Shared → Prop} (ho : s.heap.get? a = some (BaO b))
    (hxy : x ≤ y) (hcs : c.size = y - x) (hz : b.size + c.size < 2 ^ 20) (hq : Q (.done (.ret .none)) { s with heap := s.heap.update a (Obj.mapBytearray fun b => lay b c x y) }) :
    wpAny (model prog w) A (rule "bytearray.__setitem__.slice" >>= fun _ => if ((c.size : Int) != max (x : Int) (y : Int) - (x : Int)) = true then k >>= fun _ => (Builtin.Bytes.write (.ref a) (fun b => b.extract 0 (x : Int).toNat ++ c ++ b.extract (max (x : Int) (y : Int)).toNat b.size) >>= fun _ => ret .none)
      else (Builtin.Bytes.write (.ref a) (fun b => b.extract 0 (x : Int).toNat ++ c ++ b.extract (max (x : Int) (y : Int)).toNat b.size) >>= fun _ => ret .none)) Q E s := by
  refine wpAny_bind (wpAny_rule ?_)
  have hm : max (x : Int) (y : Int) = y := by omega
  rw [hm, if_neg (by rw [hcs]; simp; omega)]
  show wpAny _ _ (Builtin.Bytes.write (.ref a) (fun b => b.extract 0 x ++ c ++ b.extract y b.size) >>= fun _ => _) _ _ _
  refine wpAny_bind (ba_write ho ?_ ?_)
  · rw [sizeLine_eq]; simp; omega
  · exact wpAny_pure hq
theorem a_ff {M : Model} {α : Type} {p : Prop} [Decidable p] {t e : Sem α} {Q : α → Shared → Prop} (hc : ¬ p) (h : wpAny M A e Q E s) : wpAny M A (if p then t else e) Q E s := by rw [if_neg hc]; exact h
theorem a_tt {M : Model} {α : Type} {p : Prop} [Decidable p] {t e : Sem α} {Q : α → Shared → Prop} (hc : p) (h : wpAny M A t Q E s) : wpAny M A (if p then t else e) Q E s := by rw [if_pos hc]; exact h
theorem isInst_ba {e : Addr} {c : Array UInt8} {Q : Bool → Shared → Prop} (hc : s.heap.get? e = some (BaO c)) (h : Q true s) : wpAny (model prog w) A (isInstance (.ref e) (.type "bytearray")) Q E s := by
  have hTe : s.TypeIs (.ref e) "bytearray" := ba_type hc
  have hsub := BF.sub_self
  wp_walk
  exact h
set_option maxHeartbeats 4000000 in
theorem setItem_ba {a sl e : Addr} {b c : Array UInt8} {vl vu : Value} {lo hi : Option Int} {x y : Nat} {I : PH} {Mu : List (Addr × Obj)} {h : Heap} {g : Array GenState} {d : Drawn} {tk : Nat} {os : OsState} {Q : Unit → Shared → Prop} (S : Hp I Mu h) (m : (a, BaO b) ∈ Mu)
    (hc : h.get? e = some (BaO c)) (hne : a ≠ e) (hs : h.get? sl = some (SlO vl vu .none)) (pl : IsPart vl lo) (pu : IsPart vu hi)
    (hx : sliceBounds lo hi none b.size = ((x : Int), (y : Int), 1)) (hxy : x ≤ y) (hcs : c.size = y - x) (hz : b.size + c.size < 2 ^ 20)
    (hq : Q () ⟨h.update a (Obj.mapBytearray fun b => lay b c x y), g, d, tk, os⟩) : wpAny (model prog w) A (setItem (.ref a) (.ref sl) (.ref e)) Q E ⟨h, g, d, tk, os⟩ := by
  have ho := (S.mu _ m).1
  have hTs : (⟨h, g, d, tk, os⟩ : Shared).TypeIs (.ref sl) "slice" := ⟨_, hs, rfl⟩
  have hT : (⟨h, g, d, tk, os⟩ : Shared).TypeIs (.ref a) "bytearray" := ba_type ho
  have hTe : (⟨h, g, d, tk, os⟩ : Shared).TypeIs (.ref e) "bytearray" := ba_type hc
  unfold setItem
  refine wpAny_holding ?_
  refine wpAny_bind (wpAny_sequenceKey hT (by decide) ?_)
  refine wpAny_bind (wpAny_callSpecial?_slot (name := Str.ofString "__setitem__") hT BF.slot_set
    (wpAny_call_entry BF.slot_set hT BF.entry_set ?_ (BF.args_set _ _ _)))
  unfold Builtin.«bytearray.__setitem__»
  refine a_ff Bool.false_ne_true ?_
  refine wpAny_bind (m := Builtin.Bytes.subscript? _) ?_
  unfold Builtin.Bytes.subscript?
  refine wpAny_bind (wpAny_specialOf hTs slice_no_index ?_)
  refine a_tt rfl ?_
  refine wpAny_pure ?_
  refine wpAny_bind (wpAny_typeOf hTs ?_)
  refine a_ff (by decide) ?_
  refine wpAny_bind (parts_ hs pl pu ?_)
  refine a_ff (by rw [sub_no a e hne]; exact Bool.false_ne_true) ?_
  refine wpAny_bind (isInst_ba hc ?_)
  refine a_ff Bool.false_ne_true ?_
  refine wpAny_bind (ba_payload hc ?_)
  refine set_idx ho hx ?_
  refine a_tt rfl ?_
  refine set_fin ho hxy hcs hz ?_
  exact ⟨_, rfl, wpAny_pure hq⟩
theorem sub_b_ba : isSubtype (.type "bytes") (.type "bytearray") = pure false := by rw [isSubtype_type]; kernel_rfl
theorem sub_b_cx : isSubtype (.type "bytes") (.type "complex") = pure false := by rw [isSubtype_type]; kernel_rfl
theorem lk_b_int : typeLookup (.type "bytes") (Str.ofString "__int__") = pure none := by rw [typeLookup_type, builtinLookup_eq_fast]; kernel_rfl
theorem lk_b_float : typeLookup (.type "bytes") (Str.ofString "__float__") = pure none := by rw [typeLookup_type, builtinLookup_eq_fast]; kernel_rfl
theorem w_set (args : List Value) : (Code.builtin "bytearray.__setitem__" ⟨args, []⟩).weight ≤ 2 := Nat.le_of_ble_eq_true (by kernel_rfl)
theorem u_set (args : List Value) : (Code.builtin "bytearray.__setitem__" ⟨args, []⟩).cUnits ≤ 10 := Nat.le_of_ble_eq_true (by kernel_rfl)
theorem q_set (args : Args) : (Code.builtin "bytearray.__setitem__" args).quiet = true := Code.quiet_builtin _ (by decide +kernel)
theorem n_set (args : Args) : noDec (Code.builtin "bytearray.__setitem__" args) = true := by show (!badIds.contains "bytearray.__setitem__") = true; decide +kernel
set_option maxHeartbeats 4000000 in
theorem g_setItem_bytes {n : Nat} {Γ : Ctx} (o : Ok (n + 6) Γ) {a sl : Addr} {b c : Array UInt8} {t : Tok} {vl vu : Value} {lo hi : Option Int} {x y : Nat} {I : PH} {pre post : List (Addr × Obj)} {h : Heap} {g : Array GenState} {d : Drawn} {tk : Nat} {os : OsState} {Q : Unit → Shared → Prop} (S : Hp I (pre ++ (a, BaO b) :: post) h)
    (hs : h.get? sl = some (SlO vl vu .none)) (pl : IsPart vl lo) (pu : IsPart vu hi) (hsl : (sl, SlO vl vu .none) ∈ pre ++ (a, BaO b) :: post)
    (hx : sliceBounds lo hi none b.size = ((x : Int), (y : Int), 1)) (hxy : x ≤ y) (hcs : c.size = y - x) (hz : b.size + c.size < 2 ^ 20)
    (hq : ∀ h' tk', Hp I (pre ++ (a, BaO (lay b c x y)) :: post) h' → Q () ⟨h', g, d, tk', os⟩) : wpG (model prog w) Γ (setItem (.ref a) (.ref sl) (.bytes c t)) Q ⟨h, g, d, tk, os⟩ := by
  have ho : h.get? a = some (BaO b) := (S.mu (a, BaO b) (by simp)).1
  have hTs : (⟨h, g, d, tk, os⟩ : Shared).TypeIs (.ref sl) "slice" := ⟨_, hs, rfl⟩
  have hT : (⟨h, g, d, tk, os⟩ : Shared).TypeIs (.ref a) "bytearray" := ba_type ho
  unfold setItem
  refine g_holding ?_
  refine g_bind (g_leaf o (wpAny_sequenceKey hT (by decide) ?_))
  simp only [callSpecial?]
  refine g_bind (g_bind (g_leaf o (wpAny_specialOf hT BF.slot_set.lookup ?_)))
  simp only [BF.slot_set.bind]
  refine g_holding (g_bind (g_pure (g_bind ?_)))
  refine g_call_bi (n := n + 4) o BF.entry_set (fun Q hQ => BF.slot_set.check _ _ _ _ _ _ _ _ hT (BF.args_set _ _ _) hQ) (q_set _) (n_set _) (w_set _) (u_set _) fun Γ₃ o3 => ?_
  unfold Builtin.«bytearray.__setitem__»
  refine g_ff Bool.false_ne_true ?_
  refine g_bind (g_leaf o3 ?_)
  unfold Builtin.Bytes.subscript?
  refine wpAny_bind (wpAny_specialOf hTs slice_no_index ?_)
  refine a_tt rfl ?_
  refine wpAny_pure ?_
  refine g_bind (g_leaf o3 (wpAny_typeOf hTs ?_))
  refine g_ff (by decide) ?_
  refine g_bind (g_leaf o3 (parts_ hs pl pu ?_))
  refine g_ff Bool.false_ne_true ?_
  have l1 := sub_b_ba
  have l2 := sub_b_cx
  have l3 := lk_b_int
  have l4 := lk_b_float
  have l5 := lk_bi
  refine g_bind (g_leaf o3 ?_)
  wp_walk
  refine g_tt rfl ?_
  refine g_bind (g_leaf o3 ?_)
  wp_walk
  refine g_bind (g_eq (a := none) rfl ?_)
  refine g_ff Bool.false_ne_true ?_
  refine g_bind (g_rule ?_)
  refine g_bind (g_ba_bytes (n := n + 1) o3 S (by omega) fun e h1 tk1 S1 => ?_)
  have hs1 : h1.get? sl = some (SlO vl vu .none) := (S1.mu _ (List.mem_cons_of_mem _ hsl)).1
  have he1 : h1.get? e = some (BaO c) := (S1.mu _ (List.mem_cons_self ..)).1
  have ha1 : h1.get? a = some (BaO b) := (S1.mu (a, BaO b) (by simp)).1
  refine g_bind (g_holding (g_leaf o3 (parts_ hs1 pl pu ?_)))
  refine g_leaf o3 ?_
  refine wpAny_bind (ba_payload he1 ?_)
  refine set_idx ha1 hx ?_
  refine a_tt rfl ?_
  refine set_fin ha1 hxy hcs hz ?_
  refine ⟨_, rfl, g_pure (g_pure (hq _ _ ?_))⟩
  exact Hp.tail (Hp.upd (pre := (e, BaO c) :: pre) (f := Obj.mapBytearray fun b => lay b c x y) (o' := BaO (lay b c x y)) S1 rfl)
end
end Mine
end

section
open PySem PySem.W PySem.Calls PyProof.Rows
set_option Elab.async false
set_option maxRecDepth 100000
namespace Mine
def plc (out : Array UInt8) (p : Nat) (raw : Array UInt8) : Array UInt8 := raw.toList.zipIdx.foldl (fun out (c, k) => out.setIfInBounds (p + k) c) out
theorem fold_get (l : List UInt8) : ∀ (k p : Nat) (b : Array UInt8) (i : Nat), ((l.zipIdx k).foldl (fun out (c, k) => out.setIfInBounds (p + k) c) b)[i]? = if p + k ≤ i ∧ i < p + k + l.length ∧ i < b.size then l[i - (p + k)]? else b[i]? := by
  induction l with
  | nil => intro k p b i; simp; omega
  | cons c l ih =>
    intro k p b i
    rw [List.zipIdx_cons, List.foldl_cons, ih]
    simp only [Array.size_setIfInBounds, List.length_cons]
    by_cases h1 : p + k = i
    · subst h1
      rw [if_neg (by omega)]
      by_cases h2 : p + k < b.size
      · rw [if_pos (by omega)]; simp [h2]
      · rw [if_neg (by omega)]; simp [h2]
    · by_cases h2 : p + (k + 1) ≤ i ∧ i < p + (k + 1) + l.length ∧ i < b.size
      · rw [if_pos h2, if_pos (by omega)]
        have : i - (p + k) = (i - (p + (k + 1))) + 1 := by omega
        rw [this, List.getElem?_cons_succ]
      · rw [if_neg h2, if_neg (by omega)]
        simp [Array.getElem?_setIfInBounds, h1]
theorem plc_get (b : Array UInt8) (p : Nat) (raw : Array UInt8) (i : Nat) : (plc b p raw)[i]? = if p ≤ i ∧ i < p + raw.size ∧ i < b.size then raw[i - p]? else b[i]? := by
  unfold plc; rw [fold_get]; simp
theorem plc_size (b : Array UInt8) (p : Nat) (raw : Array UInt8) : (plc b p raw).size = b.size := by
  unfold plc
  suffices h : ∀ (l : List (UInt8 × Nat)) (b : Array UInt8), (l.foldl (fun out (c, k) => out.setIfInBounds (p + k) c) b).size = b.size from h _ _
  intro l
  induction l with
  | nil => intro b; rfl
  | cons c l ih => intro b; rw [List.foldl_cons, ih]; simp
theorem lay_size {b c : Array UInt8} {x y : Nat} (h1 : x ≤ y) (h2 : y ≤ b.size) (h3 : c.size = y - x) : (lay b c x y).size = b.size := by
  unfold lay; simp; omega
theorem lay_get {b c : Array UInt8} {x y : Nat} (h1 : x ≤ y) (h2 : y ≤ b.size) (h3 : c.size = y - x) (i : Nat) : (lay b c x y)[i]? = if x ≤ i ∧ i < y then c[i - x]? else b[i]? := by
  unfold lay
  by_cases a1 : i < x
  · rw [if_neg (by omega), Array.getElem?_append_left (by simp; omega), Array.getElem?_append_left (by simp; omega), Array.getElem?_extract]
    simp; omega
  · by_cases a2 : i < y
    · rw [if_pos (by omega), Array.getElem?_append_left (by simp; omega), Array.getElem?_append_right (by simp; omega)]
      congr 1; simp; omega
    · rw [if_neg (by omega), Array.getElem?_append_right (by simp; omega), Array.getElem?_extract]
      by_cases a3 : i < b.size
      · rw [if_pos (by simp; omega)]; congr 1; simp; omega
      · rw [if_neg (by simp; omega), Array.getElem?_eq_none (by omega)]
theorem plc_lay {b z c : Array UInt8} {p n : Nat} (h : p + n ≤ b.size) (hz : z.size = n) (hc : c.size = n) : plc (plc b p z) p c = lay b c p (p + n) := by
  apply Array.ext_getElem?
  intro i
  rw [plc_get, plc_size, plc_get, lay_get (by omega) h (by omega), hz, hc]
  by_cases a : p ≤ i ∧ i < p + n
  · rw [if_pos a, if_pos (by omega)]
  · rw [if_neg a, if_neg (by omega), if_neg (by omega)]
end Mine
end

section
open PySem PySem.W PySem.Calls PyProof.Rows
set_option Elab.async false
set_option maxRecDepth 100000
namespace Mine
namespace SF
theorem pa : PlainAttrs "_struct.Struct" :=
  ⟨⟨"_struct.Struct.__getattribute__", by rw [typeLookup_type, builtinLookup_eq_fast]; kernel_rfl, by decide +kernel⟩, by rw [typeLookup_type, builtinLookup_eq_fast]; kernel_rfl⟩
theorem slot_pack : Slot "_struct.Struct" "pack_into" "_struct.Struct.pack_into" :=
  .of (owner := "_struct.Struct") (n := "pack_into") (by rw [typeLookup_type, builtinLookup_eq_fast]; kernel_rfl) (by decide +kernel) (by decide +kernel) (by decide +kernel) (by first | exact .inl (by decide +kernel) | exact .inr (by decide +kernel)) (by rw [isSubtype_type]; kernel_rfl)
theorem slot_unpack : Slot "_struct.Struct" "unpack_from" "_struct.Struct.unpack_from" :=
  .of (owner := "_struct.Struct") (n := "unpack_from") (by rw [typeLookup_type, builtinLookup_eq_fast]; kernel_rfl) (by decide +kernel) (by decide +kernel) (by decide +kernel) (by first | exact .inl (by decide +kernel) | exact .inr (by decide +kernel)) (by rw [isSubtype_type]; kernel_rfl)
theorem ty_pack : typeOf (.builtin "_struct.Struct.pack_into") = pure (.type "method_descriptor") := by kernel_rfl
theorem ty_unpack : typeOf (.builtin "_struct.Struct.unpack_from") = pure (.type "method_descriptor") := by kernel_rfl
theorem entry_pack : entryFor table "_struct.Struct.pack_into" = some Builtin.«_struct.Struct.pack_into» := by first | exact entryFor_of_fast (by kernel_rfl) | exact entryFor_of_tree (by kernel_rfl)
theorem entry_held : entryFor table "_struct.pack_into.held" = some Builtin.«_struct.pack_into.held» := by first | exact entryFor_of_fast (by kernel_rfl) | exact entryFor_of_tree (by kernel_rfl)
theorem entry_unpack : entryFor table "_struct.Struct.unpack_from" = some Builtin.«_struct.Struct.unpack_from» := by first | exact entryFor_of_fast (by kernel_rfl) | exact entryFor_of_tree (by kernel_rfl)
theorem args_pack (a b c d : Value) : argsOk "_struct.Struct.pack_into" ⟨[a, b, c, d], []⟩ := by unfold argsOk; kernel_rfl
theorem args_unpack (a b c : Value) : argsOk "_struct.Struct.unpack_from" ⟨[a, b, c], []⟩ := by unfold argsOk; kernel_rfl
theorem parse_B : Builtin.Struct.parse #[60, 66] = pure ⟨false, false, [⟨'B', 1, 0, 1⟩], 1, 1⟩ := by kernel_rfl
theorem parse_H : Builtin.Struct.parse #[60, 72] = pure ⟨false, false, [⟨'H', 1, 0, 2⟩], 2, 1⟩ := by kernel_rfl
theorem parse_I : Builtin.Struct.parse #[60, 73] = pure ⟨false, false, [⟨'I', 1, 0, 4⟩], 4, 1⟩ := by kernel_rfl
theorem parse_Q : Builtin.Struct.parse #[60, 81] = pure ⟨false, false, [⟨'Q', 1, 0, 8⟩], 8, 1⟩ := by kernel_rfl
theorem lk_bab : typeLookup (.type "bytearray") (Str.ofString "__buffer__") = pure (some (.builtin "bytearray.__buffer__")) := by rw [typeLookup_type, builtinLookup_eq_fast]; kernel_rfl
theorem ew_bab : ("bytearray.__buffer__").endsWith ("." ++ "__buffer__") = true := by decide +kernel
theorem dr_bab : ("bytearray.__buffer__").dropRight ("__buffer__".length + 1) = "bytearray" := by decide +kernel
end SF
inductive Fmt : Array UInt8 → Char → Nat → Prop where
  | B : Fmt #[60, 66] 'B' 1
  | H : Fmt #[60, 72] 'H' 2
  | I : Fmt #[60, 73] 'I' 4
  | Q : Fmt #[60, 81] 'Q' 8
def fmtOf (ch : Char) (wd : Nat) : Builtin.Struct.Format := ⟨false, false, [⟨ch, 1, 0, wd⟩], wd, 1⟩
theorem Fmt.parse {F ch wd} (f : Fmt F ch wd) : Builtin.Struct.parse F = pure (fmtOf ch wd) := by
  cases f
  · exact SF.parse_B
  · exact SF.parse_H
  · exact SF.parse_I
  · exact SF.parse_Q
section
variable {prog : Program} {w : World} {A : Around} {E : Value → Shared → Prop} {s : Shared}
set_option maxHeartbeats 4000000 in
theorem each_ {F : Array UInt8} {ch : Char} {wd : Nat} (f : Fmt F ch wd) {id : String} {x : Int} {v : Tok} {put : Unit → Nat → Array UInt8 → Sem Unit} {src : Value → Nat → Nat → Sem Unit} {Q : Unit → Shared → Prop} (hx : 0 ≤ x) (hx1 : x < 2 ^ (8 * wd))
    (h : wpAny (model prog w) A (put () 0 (Builtin.Struct.intBytes false wd x)) Q E s) : wpAny (model prog w) A (Builtin.Struct.packEach id (fmtOf ch wd) [.int x v] () put src) Q E s := by
  have r1 : ∀ {β : Type} (i : β) (g : Nat → β → Sem (ForInStep β)), forIn (m := Sem) [0:1] i g = (g 0 i >>= fun r => match r with | .done b => pure b | .yield b => pure b) := by
    intro β i g
    rw [Std.Legacy.Range.forIn_eq_forIn_range']
    show forIn (m := Sem) [0] i g = _
    rw [List.forIn_cons]
    rfl
  cases f
  · unfold Builtin.Struct.packEach
    refine wpAny_bind ?_
    rw [show (fmtOf 'B' 1).codes = [⟨'B', 1, 0, 1⟩] from rfl, List.forIn_cons]
    refine wpAny_bind ?_
    refine a_ff (by decide) ?_
    refine a_ff (by decide) ?_
    rw [r1]
    refine wpAny_bind (wpAny_bind ?_)
    refine wpAny_bind (wpAny_of_eq (a := Builtin.Struct.intBytes false 1 x) ?eq ?_)
    case eq =>
      show (if (decide (x < (if false = true then -(2 ^ (8 * 1 - 1)) else 0)) || decide (x > (if false = true then 2 ^ (8 * 1 - 1) else 2 ^ (8 * 1)) - 1)) = true then _ else pure (Builtin.Struct.intBytes false 1 x) : Sem (Array UInt8)) = _
      exact if_neg (by simp; omega)
    refine wpAny_bind (wpAny_mono h (fun _ s' z => ?_) fun _ _ z => z)
    exact wpAny_pure (wpAny_pure (wpAny_pure (wpAny_pure (wpAny_pure z))))
  · unfold Builtin.Struct.packEach
    refine wpAny_bind ?_
    rw [show (fmtOf 'H' 2).codes = [⟨'H', 1, 0, 2⟩] from rfl, List.forIn_cons]
    refine wpAny_bind ?_
    refine a_ff (by decide) ?_
    refine a_ff (by decide) ?_
    rw [r1]
    refine wpAny_bind (wpAny_bind ?_)
    refine wpAny_bind (wpAny_of_eq (a := Builtin.Struct.intBytes false 2 x) ?eq ?_)
    case eq =>
      show (if (decide (x < (if false = true then -(2 ^ (8 * 2 - 1)) else 0)) || decide (x > (if false = true then 2 ^ (8 * 2 - 1) else 2 ^ (8 * 2)) - 1)) = true then _ else pure (Builtin.Struct.intBytes false 2 x) : Sem (Array UInt8)) = _
      exact if_neg (by simp; omega)
    refine wpAny_bind (wpAny_mono h (fun _ s' z => ?_) fun _ _ z => z)
    exact wpAny_pure (wpAny_pure (wpAny_pure (wpAny_pure (wpAny_pure z))))
  · unfold Builtin.Struct.packEach
    refine wpAny_bind ?_
    rw [show (fmtOf 'I' 4).codes = [⟨'I', 1, 0, 4⟩] from rfl, List.forIn_cons]
    refine wpAny_bind ?_
    refine a_ff (by decide) ?_
    refine a_ff (by decide) ?_
    rw [r1]
    refine wpAny_bind (wpAny_bind ?_)
    refine wpAny_bind (wpAny_of_eq (a := Builtin.Struct.intBytes false 4 x) ?eq ?_)
    case eq =>
      show (if (decide (x < (if false = true then -(2 ^ (8 * 4 - 1)) else 0)) || decide (x > (if false = true then 2 ^ (8 * 4 - 1) else 2 ^ (8 * 4)) - 1)) = true then _ else pure (Builtin.Struct.intBytes false 4 x) : Sem (Array UInt8)) = _
      exact if_neg (by simp; omega)
    refine wpAny_bind (wpAny_mono h (fun _ s' z => ?_) fun _ _ z => z)
    exact wpAny_pure (wpAny_pure (wpAny_pure (wpAny_pure (wpAny_pure z))))
  · unfold Builtin.Struct.packEach
    refine wpAny_bind ?_
    rw [show (fmtOf 'Q' 8).codes = [⟨'Q', 1, 0, 8⟩] from rfl, List.forIn_cons]
    refine wpAny_bind ?_
    refine a_ff (by decide) ?_
    refine a_ff (by decide) ?_
    rw [r1]
    refine wpAny_bind (wpAny_bind ?_)
    refine wpAny_bind (wpAny_of_eq (a := Builtin.Struct.intBytes false 8 x) ?eq ?_)
    case eq =>
      show (if (decide (x < (if false = true then -(2 ^ (8 * 8 - 1)) else 0)) || decide (x > (if false = true then 2 ^ (8 * 8 - 1) else 2 ^ (8 * 8)) - 1)) = true then _ else pure (Builtin.Struct.intBytes false 8 x) : Sem (Array UInt8)) = _
      exact if_neg (by simp; omega)
    refine wpAny_bind (wpAny_mono h (fun _ s' z => ?_) fun _ _ z => z)
    exact wpAny_pure (wpAny_pure (wpAny_pure (wpAny_pure (wpAny_pure z))))
theorem placeIn_eq {a b c : String} {f : Builtin.Struct.Format} {n : Nat} {off : Int} (h0 : 0 ≤ off) (h1 : off + f.size ≤ n) : Builtin.Struct.placeIn a b c f n off = pure off.toNat := by
  unfold Builtin.Struct.placeIn
  simp only [if_neg (show ¬ off < 0 by omega), if_neg (show ¬ ((n : Int) - off < f.size) by omega)]
theorem intBytes_size (wd : Nat) (x : Int) : (Builtin.Struct.intBytes false wd x).size = wd := by
  unfold Builtin.Struct.intBytes Builtin.Memoryview.toLittleEndian; simp
theorem idx_int {M : Model} {k : Int} {t : Tok} {Q : Int → Shared → Prop} (h : Q k s) : wpAny M A (asIndex (.int k t)) Q E s := wpAny_of_eq rfl h
set_option maxHeartbeats 4000000 in
theorem held_ {F : Array UInt8} {ch : Char} {wd : Nat} (f : Fmt F ch wd) {st a : Addr} {b : Array UInt8} {tf : Tok} {off x : Int} {u v : Tok} {I : PH} {pre post : List (Addr × Obj)} {h : Heap} {g : Array GenState} {d : Drawn} {tk : Nat} {os : OsState} {Q : Fin → Shared → Prop} (S : Hp I (pre ++ (a, BaO b) :: post) h)
   (h0 : 0 ≤ off) (h1 : off + wd ≤ b.size) (hx : 0 ≤ x) (hx1 : x < 2 ^ (8 * wd)) (hz : b.size < 2 ^ 20)
   (hq : ∀ h', Hp I (pre ++ (a, BaO (lay b (Builtin.Struct.intBytes false wd x) off.toNat (off.toNat + wd))) :: post) h' → Q (.done (.ret .none)) ⟨h', g, d, tk, os⟩) :
    wpAny (model prog w) A (Builtin.«_struct.pack_into.held» ⟨[.ref a, .ref a, rawInt (0 : Nat), rawInt (b.size : Nat), .ref st, .bytes F tf, .int off u, .int x v], []⟩) Q E ⟨h, g, d, tk, os⟩ := by
  have ho : h.get? a = some (BaO b) := (S.mu (a, BaO b) (by simp)).1
  show wpAny _ _ (Builtin.Bytes.payload (.bytes F tf) >>= fun z => Builtin.Struct.parse z >>= fun f => Builtin.Struct.packHeld _ f (.ref a) ((0 : Nat) : Int).toNat ((b.size : Nat) : Int).toNat (.int off u) [.int x v]) _ _ _
  refine wpAny_bind (wpAny_of_eq (a := F) rfl ?_)
  refine wpAny_bind (wpAny_of_eq f.parse ?_)
  unfold Builtin.Struct.packHeld
  refine wpAny_bind (idx_int ?_)
  refine a_ff (by have : Builtin.Bytes.fitsIndex off = true := by unfold Builtin.Bytes.fitsIndex; simp; omega
                  rw [this]; decide) ?_
  refine wpAny_bind (wpAny_of_eq (placeIn_eq h0 ?_) ?_)
  · show off + (wd : Int) ≤ ((b.size : Nat) : Int).toNat
    omega
  have e0 : ((0 : Nat) : Int).toNat + off.toNat = off.toNat := by omega
  rw [e0]
  refine wpAny_bind (ba_write ho ?_ ?_)
  · show (plc b off.toNat (Array.replicate wd 0)).size ≤ _
    rw [plc_size, sizeLine_eq]; omega
  have S1 : Hp I (pre ++ (a, BaO (plc b off.toNat (Array.replicate wd 0))) :: post) (h.update a (Obj.mapBytearray fun b => plc b off.toNat (Array.replicate wd 0))) := Hp.upd (f := Obj.mapBytearray fun b => plc b off.toNat (Array.replicate wd 0)) S rfl
  have ho1 := (S1.mu (a, BaO (plc b off.toNat (Array.replicate wd 0))) (by simp)).1
  refine wpAny_bind (each_ f hx hx1 (ba_write ho1 ?_ ?_))
  · show (plc (plc b off.toNat (Array.replicate wd 0)) (off.toNat + 0) _).size ≤ _
    rw [plc_size, plc_size, sizeLine_eq]; omega
  refine wpAny_pure (hq _ ?_)
  refine Hp.upd S1 ?_
  show BaO (plc (plc b off.toNat (Array.replicate wd 0)) (off.toNat + 0) (Builtin.Struct.intBytes false wd x)) = _
  rw [Nat.add_zero, plc_lay (n := wd) (by omega) (by simp) (intBytes_size _ _)]
theorem q_held (args : Args) : (Code.builtin "_struct.pack_into.held" args).quiet = true := Code.quiet_builtin _ (by decide +kernel)
set_option maxHeartbeats 4000000 in
theorem pack_ {F : Array UInt8} {ch : Char} {wd : Nat} (f : Fmt F ch wd) {st a : Addr} {b : Array UInt8} {tf : Tok} {off x : Int} {u v : Tok} {I : PH} {pre post : List (Addr × Obj)} {h : Heap} {g : Array GenState} {d : Drawn} {tk : Nat} {os : OsState} {Q : Value → Shared → Prop} (S : Hp I (pre ++ (a, BaO b) :: post) h)
   (hst : h.get? st = some (StO F tf)) (h0 : 0 ≤ off) (h1 : off + wd ≤ b.size) (hx : 0 ≤ x) (hx1 : x < 2 ^ (8 * wd)) (hz : b.size < 2 ^ 20)
   (hq : ∀ h', Hp I (pre ++ (a, BaO (lay b (Builtin.Struct.intBytes false wd x) off.toNat (off.toNat + wd))) :: post) h' → Q .none ⟨h', g, d, tk, os⟩) :
    wpAny (model prog w) A (call (.builtin "_struct.Struct.pack_into") [.ref st, .ref a, .int off u, .int x v]) Q E ⟨h, g, d, tk, os⟩ := by
  have ho : h.get? a = some (BaO b) := (S.mu (a, BaO b) (by simp)).1
  have hT : (⟨h, g, d, tk, os⟩ : Shared).TypeIs (.ref st) "_struct.Struct" := ⟨_, hst, rfl⟩
  have ht : (⟨h, g, d, tk, os⟩ : Shared).TypeIs (.ref a) "bytearray" := ba_type ho
  refine wpAny_call (codeAny_call_builtin_code (Code.quiet_builtin _ (by decide +kernel)) (SF.slot_pack.check _ _ _ _ _ _ _ _ hT (SF.args_pack _ _ _ _) (codeAny_builtin SF.entry_pack ?_)))
  unfold Builtin.«_struct.Struct.pack_into»
  refine wpAny_bind (wpAny_of_eq (a := ()) rfl ?_)
  unfold Builtin.Struct.structFormat
  refine wpAny_bind (wpAny_bind (wpAny_field hst rfl (i := 0) rfl ?_))
  refine a_ff Bool.false_ne_true ?_
  refine wpAny_bind (wpAny_of_eq (a := F) rfl ?_)
  refine wpAny_bind (wpAny_of_eq f.parse (wpAny_pure ?_))
  refine wpAny_bind (wpAny_field hst rfl (i := 0) rfl ?_)
  unfold Builtin.Struct.packInto
  refine a_ff (by simp [fmtOf]) ?_
  have l1 := SF.lk_bab
  wp_walk
  refine ⟨q_held _, codeAny_builtin SF.entry_held ?_⟩
  exact held_ f S h0 h1 hx hx1 hz hq
theorem unpackedV {F : Array UInt8} {ch : Char} {wd : Nat} (f : Fmt F ch wd) {id : String} {b : Array UInt8} {p : Nat} {Q : Value → Shared → Prop} 
    (h : Q (.ref s.heap.objs.size) { s with heap := s.heap.push { cls := .type "tuple", data := .seq #[.int (Builtin.Struct.natOf false (b.extract p (p + wd))) s.toks] }, toks := s.toks + 1 }) :
    wpAny (model prog w) A (Builtin.Struct.unpacked id (fmtOf ch wd) b p) Q E s := by
  have r1 : ∀ {β : Type} (i : β) (g : Nat → β → Sem (ForInStep β)), forIn (m := Sem) [0:1] i g = (g 0 i >>= fun r => match r with | .done b => pure b | .yield b => pure b) := by
    intro β i g
    rw [Std.Legacy.Range.forIn_eq_forIn_range']
    show forIn (m := Sem) [0] i g = _
    rw [List.forIn_cons]
    rfl
  cases f
  · unfold Builtin.Struct.unpacked
    refine wpAny_bind ?_
    rw [show (fmtOf 'B' 1).codes = [⟨'B', 1, 0, 1⟩] from rfl, List.forIn_cons]
    refine wpAny_bind ?_
    refine a_ff (by decide) ?_
    refine wpAny_bind (m := forIn (m := Sem) [0:1] _ _) ?_
    rw [r1]
    refine wpAny_bind ?_
    refine wpAny_bind (m := mkInt _) (wpAny_mkInt ?_)
    refine wpAny_pure (wpAny_pure (wpAny_pure (wpAny_pure ?_)))
    exact wpAny_newTuple h (by show 1 ≤ sizeLine; decide)
  · unfold Builtin.Struct.unpacked
    refine wpAny_bind ?_
    rw [show (fmtOf 'H' 2).codes = [⟨'H', 1, 0, 2⟩] from rfl, List.forIn_cons]
    refine wpAny_bind ?_
    refine a_ff (by decide) ?_
    refine wpAny_bind (m := forIn (m := Sem) [0:1] _ _) ?_
    rw [r1]
    refine wpAny_bind ?_
    refine wpAny_bind (m := mkInt _) (wpAny_mkInt ?_)
    refine wpAny_pure (wpAny_pure (wpAny_pure (wpAny_pure ?_)))
    exact wpAny_newTuple h (by show 1 ≤ sizeLine; decide)
  · unfold Builtin.Struct.unpacked
    refine wpAny_bind ?_
    rw [show (fmtOf 'I' 4).codes = [⟨'I', 1, 0, 4⟩] from rfl, List.forIn_cons]
    refine wpAny_bind ?_
    refine a_ff (by decide) ?_
    refine wpAny_bind (m := forIn (m := Sem) [0:1] _ _) ?_
    rw [r1]
    refine wpAny_bind ?_
    refine wpAny_bind (m := mkInt _) (wpAny_mkInt ?_)
    refine wpAny_pure (wpAny_pure (wpAny_pure (wpAny_pure ?_)))
    exact wpAny_newTuple h (by show 1 ≤ sizeLine; decide)
  · unfold Builtin.Struct.unpacked
    refine wpAny_bind ?_
    rw [show (fmtOf 'Q' 8).codes = [⟨'Q', 1, 0, 8⟩] from rfl, List.forIn_cons]
    refine wpAny_bind ?_
    refine a_ff (by decide) ?_
    refine wpAny_bind (m := forIn (m := Sem) [0:1] _ _) ?_
    rw [r1]
    refine wpAny_bind ?_
    refine wpAny_bind (m := mkInt _) (wpAny_mkInt ?_)
    refine wpAny_pure (wpAny_pure (wpAny_pure (wpAny_pure ?_)))
    exact wpAny_newTuple h (by show 1 ≤ sizeLine; decide)
theorem own_buf {a : Addr} {b : Array UInt8} {Q : Bool → Shared → Prop} (ho : s.heap.get? a = some (BaO b)) (h : Q true s) : wpAny (model prog w) A (Builtin.Bytes.slotIsOwn (.ref a) "__buffer__") Q E s := by
  unfold Builtin.Bytes.slotIsOwn
  have ht := ba_type ho
  refine wpAny_bind (wpAny_specialOf ht SF.lk_bab ?_)
  show wpAny _ _ (if (!("bytearray.__buffer__").endsWith ("." ++ "__buffer__")) = true then pure false else isInstance (.ref a) (.type (("bytearray.__buffer__").dropRight ("__buffer__".length + 1)))) _ _ _
  rw [if_neg (by rw [SF.ew_bab]; decide), SF.dr_bab]
  exact isInst_ba ho h
theorem buffer_ {id : String} {full : Bool} {a : Addr} {b : Array UInt8} {Q : Option (Array UInt8) → Shared → Prop} (ho : s.heap.get? a = some (BaO b)) (h : Q (some b) s) : wpAny (model prog w) A (Builtin.Bytes.buffer? id (.ref a) full) Q E s := by
  unfold Builtin.Bytes.buffer?
  have ht := ba_type ho
  refine wpAny_bind (wpAny_specialOf ht SF.lk_bab ?_)
  refine wpAny_bind (own_buf ho ?_)
  refine a_ff Bool.false_ne_true ?_
  refine wpAny_bind (wpAny_specialOf ht SF.lk_bab ?_)
  refine wpAny_bind (own_no ho ?_)
  refine a_ff Bool.false_ne_true ?_
  exact wpAny_bind (ba_payload ho (wpAny_pure h))
theorem bytesLike_ {id : String} {a : Addr} {b : Array UInt8} {Q : Array UInt8 → Shared → Prop} (ho : s.heap.get? a = some (BaO b)) (h : Q b s) : wpAny (model prog w) A (Builtin.Bytes.bytesLike id (.ref a)) Q E s := by
  unfold Builtin.Bytes.bytesLike
  exact wpAny_bind (buffer_ ho (wpAny_pure h))
set_option maxHeartbeats 4000000 in
theorem unpack_ {F : Array UInt8} {ch : Char} {wd : Nat} (f : Fmt F ch wd) {st a : Addr} {b : Array UInt8} {tf : Tok} {off : Int} {u : Tok} {I : PH} {Mu : List (Addr × Obj)} {h : Heap} {g : Array GenState} {d : Drawn} {tk : Nat} {os : OsState} {Q : Value → Shared → Prop} (S : Hp I Mu h)
   (ho : h.get? a = some (BaO b)) (hst : h.get? st = some (StO F tf)) (h0 : 0 ≤ off) (h1 : off + wd ≤ b.size) (hz : b.size < 2 ^ 20)
   (hq : ∀ t h', Hp I ((t, { cls := .type "tuple", data := .seq #[.int (Builtin.Struct.natOf false (b.extract off.toNat (off.toNat + wd))) tk] }) :: Mu) h' → Q (.ref t) ⟨h', g, d, tk + 1, os⟩) :
    wpAny (model prog w) A (call (.builtin "_struct.Struct.unpack_from") [.ref st, .ref a, .int off u]) Q E ⟨h, g, d, tk, os⟩ := by
  have hT : (⟨h, g, d, tk, os⟩ : Shared).TypeIs (.ref st) "_struct.Struct" := ⟨_, hst, rfl⟩
  have ht : (⟨h, g, d, tk, os⟩ : Shared).TypeIs (.ref a) "bytearray" := ba_type ho
  refine wpAny_call_entry SF.slot_unpack hT SF.entry_unpack ?_ (SF.args_unpack _ _ _)
  unfold Builtin.«_struct.Struct.unpack_from»
  refine wpAny_bind (wpAny_of_eq (a := [some (.ref a), some (.int off u)]) rfl ?_)
  unfold Builtin.Struct.unpackFrom
  refine wpAny_bind (bytesLike_ ho ?_)
  refine wpAny_bind (wpAny_of_eq (a := off) rfl ?_)
  refine a_ff (by have : Builtin.Bytes.fitsIndex off = true := by unfold Builtin.Bytes.fitsIndex; simp; omega
                  rw [this]; decide) ?_
  refine wpAny_bind (wpAny_pure ?_)
  unfold Builtin.Struct.structFormat
  refine wpAny_bind (wpAny_bind (wpAny_bind (wpAny_field hst rfl (i := 0) rfl ?_)))
  refine a_ff Bool.false_ne_true ?_
  refine wpAny_bind (wpAny_of_eq (a := F) rfl ?_)
  refine wpAny_bind (wpAny_of_eq f.parse (wpAny_pure ?_))
  refine wpAny_pure ?_
  refine a_tt rfl ?_
  refine wpAny_bind (bytesLike_ ho ?_)
  refine wpAny_bind (wpAny_of_eq (placeIn_eq h0 h1) ?_)
  refine wpAny_bind (unpackedV f ?_)
  exact wpAny_pure ⟨_, rfl, hq _ _ (S.push _)⟩
end
end Mine
end

section
open PySem PySem.W PySem.Calls PyProof.Rows
set_option Elab.async false
set_option maxRecDepth 100000
namespace Mine
section
variable {prog : Program} {w : World} {Γ : Ctx} {R : Result → Shared → Prop} {s : Shared} {n : Nat} {env : Env}
theorem goto_self {c : Code} (hc : Γ.code = c) : Γ.goto c = Γ := by subst hc; rfl
theorem OkB.room {c : Code} (o : OkB (n + 1) Γ) (hc : Γ.code = c) (hw : c.weight ≤ 2 := by exact Nat.le_of_ble_eq_true rfl) (hu : c.cUnits ≤ 10 := by exact Nat.le_of_ble_eq_true rfl) : Ok n Γ := o.ok (hc ▸ hw) (hc ▸ hu)
theorem codeG_while {test : Expr} {body : List Stmt} (o : OkB (n + 1) Γ) (hc : Γ.code = .whileLoop test body [] env) (I : Nat → Shared → Prop)
    (turn : ∀ k s, Ok n Γ → I k s → wpG (model prog w) Γ (isTrue test env (eval test env)) (fun b s₁ => if b = true then wpG (model prog w) Γ (execs body env) (fun f s₂ => match f with
      | .next | .cont => ∃ m, m < k ∧ I m s₂
      | .brk => R (.ok .next) s₂
      | .ret v => R (.ok (.ret v)) s₂) s₁ else R (.ok .next) s₁) s) (k : Nat) (h : I k s) : codeG (model prog w) Γ R s := by
  have o' : Ok n Γ := o.room hc
  induction k using Nat.strongRecOn generalizing s with
  | ind k ih =>
    refine codeG_of_tree ?_
    have hd : (model prog w).den Γ.code = (whileTurn test body [] env).onRaise (fun x => do noteFrame x env; theTreesLotGoes x) := by rw [hc]; rfl
    rw [hd]
    unfold whileTurn
    refine g_onRaise (g_bind (g_mono (turn k s o' h) fun b s₁ hb => ?_))
    cases b with
    | false => 
      refine g_ff Bool.false_ne_true (g_bind (g_pure (a := Flow.next) (g_pure ?_)))
      exact hb
    | true =>
      refine g_tt rfl (g_bind (g_mono hb fun f s₂ hf => ?_))
      cases f with
      | next => obtain ⟨m, hm, hI⟩ := hf; exact g_pure ⟨rfl, by rw [goto_self hc]; exact ih m hm hI⟩
      | cont => obtain ⟨m, hm, hI⟩ := hf; exact g_pure ⟨rfl, by rw [goto_self hc]; exact ih m hm hI⟩
      | brk => exact g_pure hf
      | ret v => exact g_pure hf
theorem codeG_for {target : Expr} {it : Value} {body : List Stmt} (o : OkB (n + 1) Γ) (hc : Γ.code = .forLoop target it body [] env) (I : Nat → Shared → Prop)
    (turn : ∀ k s, Ok n Γ → I k s → wpG (model prog w) Γ (pyNext it) (fun r s₁ => match r with
      | none => R (.ok .next) s₁
      | some v => wpG (model prog w) Γ (letOwnedTupleGo target it v) (fun _ s₁' => wpG (model prog w) Γ (assign target env v) (fun _ s₂ => wpG (model prog w) Γ (execs body env) (fun f s₃ => match f with
        | .next | .cont => ∃ m, m < k ∧ I m s₃
        | .brk => R (.ok .next) s₃
        | .ret v => R (.ok (.ret v)) s₃) s₂) s₁') s₁) s) (k : Nat) (h : I k s) : codeG (model prog w) Γ R s := by
  have o' : Ok n Γ := o.room hc
  induction k using Nat.strongRecOn generalizing s with
  | ind k ih =>
    refine codeG_of_tree ?_
    have hd : (model prog w).den Γ.code = (forTurn target it body [] env).onRaise (fun x => do noteFrame x env; theTreesLotGoes x) := by rw [hc]; rfl
    rw [hd]
    unfold forTurn
    refine g_onRaise (g_at (g_bind (g_onRaise (g_mono (turn k s o' h) fun r s₁ hr => ?_))))
    cases r with
    | none =>
      refine g_pure ⟨rfl, codeG_of_tree ?_⟩
      show wpG _ (Γ.goto (.block [] env)) ((execs [] env).onRaise (fun x => do noteFrame x env; theTreesLotGoes x) >>= fun f => pure (PySem.Fin.done f)) _ _
      exact g_bind (g_onRaise (g_pure (a := Flow.next) (g_pure hr)))
    | some v =>
      refine g_bind (g_mono hr fun _ s₁' h1 => g_bind (g_mono h1 fun _ s₂ h2 => g_bind (g_mono h2 fun f s₃ hf => ?_)))
      cases f with
      | next => obtain ⟨m, hm, hI⟩ := hf; exact g_pure ⟨rfl, by rw [goto_self hc]; exact ih m hm hI⟩
      | cont => obtain ⟨m, hm, hI⟩ := hf; exact g_pure ⟨rfl, by rw [goto_self hc]; exact ih m hm hI⟩
      | brk => exact g_pure hf
      | ret v => exact g_pure hf
variable {Q : Flow → Shared → Prop}
theorem gx_While' {test : Expr} {body : List Stmt} {pos : Pos} (o : Ok (n + 1) Γ) (I : Nat → Shared → Prop)
    (turn : ∀ Γ' k s, Ok n Γ' → I k s → wpG (model prog w) Γ' (isTrue test env (eval test env)) (fun b s₁ => if b = true then wpG (model prog w) Γ' (execs body env) (fun f s₂ => match f with
      | .next | .cont => ∃ m, m < k ∧ I m s₂
      | .brk => Q .next s₂
      | .ret v => Q (.ret v) s₂) s₁ else Q .next s₁) s) (k : Nat) (h : I k s) : wpG (model prog w) Γ (exec (.While test body [] pos) env) Q s :=
  gx_While o fun Γ' hc o' => codeG_while (R := fun r s' => match r with | .ok f => Q f s' | _ => False) o' hc I (fun k s o'' hI => turn Γ' k s o'' hI) k h
theorem gx_For {target iter : Expr} {body : List Stmt} {pos : Pos} (o : Ok (n + 1) Γ) (hs : ∀ x, foldedSetIterable iter env x = pure x)
    (h : wpG (model prog w) Γ (eval iter env) (fun x s₁ => wpG (model prog w) Γ (pyIter x) (fun it s₂ => ∃ (I : Nat → Shared → Prop) (k : Nat), I k s₂ ∧
      ∀ Γ' k s, Ok n Γ' → I k s → wpG (model prog w) Γ' (pyNext it) (fun r s₁ => match r with
      | none => Q .next s₁
      | some v => wpG (model prog w) Γ' (letOwnedTupleGo target it v) (fun _ s₁' => wpG (model prog w) Γ' (assign target env v) (fun _ s₂ => wpG (model prog w) Γ' (execs body env) (fun f s₃ => match f with
        | .next | .cont => ∃ m, m < k ∧ I m s₃
        | .brk => Q .next s₃
        | .ret v => Q (.ret v) s₃) s₂) s₁') s₁) s) s₁) s) : wpG (model prog w) Γ (exec (.For target iter body [] pos) env) Q s := by
  rw [exec_For]
  refine g_at (g_bind (g_mono h fun x s₁ h₁ => ?_))
  rw [hs]
  refine g_bind (g_pure (g_at (g_bind (g_holding (g_mono h₁ fun it s₂ h₂ => ?_)))))
  obtain ⟨I, k, hI, turn⟩ := h₂
  exact g_runOwn (n := n + 1) o rfl fun Γ' hc o' => codeG_for (R := fun r s' => match r with | .ok f => Q f s' | _ => False) o' hc I (fun k s o'' hI => turn Γ' k s o'' hI) k hI
end
section
variable {M : Model} {Γ : Ctx} {s : Shared} {n : Nat} {env : Env} {Q : Value → Shared → Prop}
theorem gv_none (h : Q .none s) : wpG M Γ (valueOrNone (evalOpt none env)) Q s := g_pure (a := Value.none) h
theorem gv_some {e : Expr} (h : wpG M Γ (eval e env) Q s) : wpG M Γ (valueOrNone (evalOpt (some e) env)) Q s := h
theorem ge_Slice {l u st : Option Expr} {pos : Pos} (h : wpG M Γ (valueOrNone (evalOpt l env)) (fun lv s₁ => wpG M Γ (valueOrNone (evalOpt u env)) (fun uv s₂ => wpG M Γ (valueOrNone (evalOpt st env)) (fun sv s₃ => wpG M Γ (newFields "slice" [lv, uv, sv]) Q s₃) s₂) s₁) s) : wpG M Γ (eval (.Slice l u st pos) env) Q s := by
  rw [arm_eval_Slice]
  exact g_bind (g_mono h fun lv s₁ h₁ => g_bind (g_holding (g_mono h₁ fun uv s₂ h₂ => g_bind (g_holding (g_mono h₂ fun sv s₃ h₃ => h₃)))))
theorem ge_CallN0 {id : Str} {p pos : Pos} {args : List Expr} (h : wpG M Γ (eval (.Name id p) env) (fun f s₁ => wpG M Γ (callWith pos f [] (backTo pos (starEach args env)) []) Q s₁) s) : wpG M Γ (eval (.Call (.Name id p) args [] pos) env) Q s := ge_CallN h
theorem ge_CallM0 {name : Str} {o : Expr} {apos pos : Pos} {args : List Expr} {pl : Sem Bool}
    (he : eval (.Call (.Attribute o name apos) args [] pos) env = (do
      let ov ← eval o env
      standAt apos.atName
      let (f, first) ← holding [ov] (getMethod ov name pl)
      callWith pos f first (backTo pos (starEach args env)) (backToKw pos (keywordEach [] env))))
    (h : wpG M Γ (eval o env) (fun ov s₁ => wpG M Γ (getMethod ov name pl) (fun fx s₂ => wpG M Γ (callWith pos fx.1 fx.2 (backTo pos (starEach args env)) []) Q s₂) s₁) s) : wpG M Γ (eval (.Call (.Attribute o name apos) args [] pos) env) Q s := ge_CallM he h
end
end Mine
end

section
open PySem PySem.W PySem.Calls PyProof.Rows
set_option Elab.async false
set_option maxRecDepth 100000
namespace Mine
section
variable {I : PH} {env : Env} {vs vs' : Vs} {Mu Mu' : List (Addr × Obj)} {h h' : Heap} {a : Addr} {o o' : Obj}
theorem InF.lend (S : InF I env vs Mu h) : ∃ fr, Hp I (Mu ++ [fr]) h ∧ ∀ Mu' h', Hp I (Mu' ++ [fr]) h' → InF I env vs Mu' h' := by
  obtain ⟨e, oL, f, H⟩ := S
  exact ⟨(env.locals, oL), H.perm (List.perm_append_comm (l₁ := [(env.locals, oL)]) (l₂ := Mu)), fun Mu' h' H' => ⟨e, oL, f, H'.perm (List.perm_append_comm (l₁ := Mu') (l₂ := [(env.locals, oL)]))⟩⟩
theorem Ud.app (u : Ud a o o' Mu Mu') (r : List (Addr × Obj)) : Ud a o o' (Mu ++ r) (Mu' ++ r) := by
  induction u with
  | head => exact .head
  | tail u ih => exact .tail ih
end
theorem sb_lo {y : Int} {n : Nat} (h0 : 0 ≤ y) (h1 : y ≤ n) : sliceBounds (some y) none none n = ((y.toNat : Int), (n : Int), 1) := by
  rw [sliceBounds_plain]
  have : clipAt n y = y.toNat := by unfold clipAt; split <;> omega
  simp [this]
theorem sb_lohi {y z : Int} {n : Nat} (h0 : 0 ≤ y) (h1 : y ≤ n) (h2 : 0 ≤ z) (h3 : z ≤ n) : sliceBounds (some y) (some z) none n = ((y.toNat : Int), (z.toNat : Int), 1) := by
  rw [sliceBounds_plain]
  have e1 : clipAt n y = y.toNat := by unfold clipAt; split <;> omega
  have e2 : clipAt n z = z.toNat := by unfold clipAt; split <;> omega
  simp [e1, e2]
section
variable {prog : Program} {w : World} {Γ : Ctx} {n : Nat} {h : Heap} {g : Array GenState} {d : Drawn} {t : Nat} {os : OsState} {env : Env} {K : Frag} {mg mb : Str → Option Value} {I : PH} {vs vs' : Vs} {Mu Mu' : List (Addr × Obj)} {pos : Pos} {a b : Int} {ta tb : Tok} {Q : Value → Shared → Prop} {x y : Addr} {bs cs : Array UInt8}
theorem go_K1 {M : Model} {f : Value} {first : List Value} (o : Ok n Γ) (G : Gl K mg mb I) (hk : keepIn K f = true) {e : Expr} {rest : List Expr} (he : starEach (e :: rest) env = (false, eval e env) :: starEach rest env) (hplain : (backTo pos (starEach rest env)).any (·.1) = false)
    (hq : wpG M Γ (spliced (backTo pos (starEach (e :: rest) env))) (fun vs s₁ => K.In s₁.heap ∧ wpG M Γ (call f (first ++ vs)) Q s₁) ⟨h, g, d, t, os⟩) : wpG M Γ (callWith pos f first (backTo pos (starEach (e :: rest) env)) []) Q ⟨h, g, d, t, os⟩ := gc_K1 o hk he hplain hq
theorem go_K0 {M : Model} {f : Value} {first : List Value} (o : Ok n Γ) (G : Gl K mg mb I) (S : InF I env vs Mu h) (hk : keepIn K f = true) (hq : wpG M Γ (call f (first ++ [])) Q ⟨h, g, d, t, os⟩) : wpG M Γ (callWith pos f first (backTo pos (starEach [] env)) []) Q ⟨h, g, d, t, os⟩ :=
  gc_K0 o hk (Gl.kin G (InF.imm S)) hq
theorem go_gmS {M : Model} {F : Array UInt8} {tf : Tok} {st : Addr} {name : Str} {id : String} {pl : Sem Bool} {Q : Value × List Value → Shared → Prop} (o : Ok n Γ) (slot : Slot "_struct.Struct" name id) (hty : typeOf (.builtin id) = pure (.type "method_descriptor")) (hst : h.get? st = some (StO F tf))
    (hq : Q (.builtin id, [.ref st]) ⟨h, g, d, t, os⟩) : wpG M Γ (getMethod (.ref st) name pl) Q ⟨h, g, d, t, os⟩ :=
  g_leaf o (getMethod_builtin (s := ⟨h, g, d, t, os⟩) ⟨_, hst, rfl⟩ SF.pa slot hty (fun a e => by cases e; exact ⟨_, hst, rfl⟩) hq)
theorem g_ct {M : Model} {s : Shared} (o : Ok n Γ) {f : Value} {args : List Value} (hh : ∀ Γ' (R : Result → Shared → Prop), Γ'.code = .call f ⟨args, []⟩ → OkB n Γ' → (∀ v s', Q v s' → R (.ok (.ret v)) s') → codeG M Γ' R s) : wpG M Γ (call f args []) Q s :=
  g_call o fun Γ' hc o' => hh Γ' _ hc o' fun _ _ q => q
theorem go_len (o : Ok n Γ) (S : InF I env vs Mu h) (m : h.get? x = some (BaO bs)) (hz : bs.size < 2 ^ 20) (hq : ∀ t' k, Q (.int bs.size t') ⟨h, g, d, k, os⟩) : wpG (model prog w) Γ (call (.builtin "len") [.ref x]) Q ⟨h, g, d, t, os⟩ :=
  g_leaf o (ba_len (s := ⟨h, g, d, t, os⟩) m (by rw [sizeLine_eq]; omega) (hq _ _))
theorem go_lenN {N : Nat} (o : Ok n Γ) (S : InF I env vs Mu h) (m : h.get? x = some (BaO bs)) (hN : bs.size = N) (hz : N < 2 ^ 20) (hq : ∀ t' k, Q (.int N t') ⟨h, g, d, k, os⟩) : wpG (model prog w) Γ (call (.builtin "len") [.ref x]) Q ⟨h, g, d, t, os⟩ := by
  subst hN; exact go_len o S m hz hq
theorem go_min (o : Ok n Γ) (S : InF I env vs Mu h) (hq : ∀ t' h' k, InF I env vs Mu h' → Q (.int (min a b) t') ⟨h', g, d, k, os⟩) : wpG (model prog w) Γ (call (.builtin "min") [.int a ta, .int b tb]) Q ⟨h, g, d, t, os⟩ := by
  refine g_leaf o (min_two_ints (s := ⟨h, g, d, t, os⟩) rfl fun h' tk hk => ?_)
  by_cases e : b < a
  · rw [if_pos e, ← show min a b = b by omega]; exact hq _ _ _ (S.keep hk)
  · rw [if_neg e]; have := hq ta h' tk (S.keep hk); rwa [show min a b = a by omega] at this
theorem go_max (o : Ok n Γ) (S : InF I env vs Mu h) (hq : ∀ t' h' k, InF I env vs Mu h' → Q (.int (max a b) t') ⟨h', g, d, k, os⟩) : wpG (model prog w) Γ (call (.builtin "max") [.int a ta, .int b tb]) Q ⟨h, g, d, t, os⟩ := by
  refine g_leaf o (max_two_ints (s := ⟨h, g, d, t, os⟩) rfl fun h' tk hk => ?_)
  by_cases e : b > a
  · rw [if_pos e, ← show max a b = b by omega]; exact hq _ _ _ (S.keep hk)
  · rw [if_neg e]; have := hq ta h' tk (S.keep hk); rwa [show max a b = a by omega] at this
theorem go_intc (o : Ok n Γ) (hq : Q (.int a ta) ⟨h, g, d, t, os⟩) : wpG (model prog w) Γ (call (.type "int") [.int a ta]) Q ⟨h, g, d, t, os⟩ := g_leaf o (call_int_int hq)
theorem go_ba (o : Ok (n + 4) Γ) (S : InF I env vs Mu h) (h0 : 0 ≤ a) (h1 : a < 2 ^ 20) (hq : ∀ x h' k, InF I env vs ((x, BaO (Array.replicate a.toNat 0)) :: Mu) h' → Q (.ref x) ⟨h', g, d, k, os⟩) : wpG (model prog w) Γ (call (.type "bytearray") [.int a ta]) Q ⟨h, g, d, t, os⟩ := by
  obtain ⟨fr, SL, back⟩ := S.lend
  exact g_ba_int o SL h0 h1 fun x h' k S' => hq x h' k (back (_ :: _) _ S')
theorem go_slice {lv uv sv : Value} (o : Ok n Γ) (S : InF I env vs Mu h) (hq : ∀ x h', InF I env vs ((x, SlO lv uv sv) :: Mu) h' → Q (.ref x) ⟨h', g, d, t, os⟩) : wpG (model prog w) Γ (newFields "slice" [lv, uv, sv]) Q ⟨h, g, d, t, os⟩ := by
  refine g_leaf o ?_
  have := hq h.objs.size _ (S.push (SlO lv uv sv))
  wp_walk
  exact this
theorem go_getsl {value slice : Expr} {vl vu : Value} {lo hi : Option Int} {p q : Nat} (o : Ok n Γ) (S : InF I env vs Mu h) (ho : h.get? x = some (BaO bs)) (hs : h.get? y = some (SlO vl vu .none)) (pl : IsPart vl lo) (pu : IsPart vu hi)
    (hx : sliceBounds lo hi none bs.size = ((p : Int), (q : Int), 1)) (hz : bs.size < 2 ^ 20)
    (h1 : subscripted slice false (.ref x) (.ref y) = operate [.ref y, .ref x] (getItem (.ref x) (.ref y))) (h2 : ∀ r, letTemporaryGo value (.ref x) r = pure ())
    (hq : ∀ e h', InF I env vs ((e, BaO (cut bs p q)) :: Mu) h' → Q (.ref e) ⟨h', g, d, t, os⟩) : wpG (model prog w) Γ (subscriptTail value slice (.ref x) (.ref y)) Q ⟨h, g, d, t, os⟩ := by
  refine g_leaf o (subscriptTail_ops (s := ⟨h, g, d, t, os⟩) (ba_type ho) BF.slot_get.lookup ?_ h1 h2)
  exact ba_getslice (s := ⟨h, g, d, t, os⟩) ho hs pl pu hx hz (hq _ _ (S.push _))
theorem go_setba {Q : Unit → Shared → Prop} {e : Addr} {vl vu : Value} {lo hi : Option Int} {p q : Nat} (o : Ok n Γ) (S : InF I env vs Mu h) (u : Ud x (BaO bs) (BaO (lay bs cs p q)) Mu Mu') (he : h.get? e = some (BaO cs)) (hne : x ≠ e) (hs : h.get? y = some (SlO vl vu .none)) (pl : IsPart vl lo) (pu : IsPart vu hi)
    (hx : sliceBounds lo hi none bs.size = ((p : Int), (q : Int), 1)) (hpq : p ≤ q) (hcs : cs.size = q - p) (hz : bs.size + cs.size < 2 ^ 20)
    (hq : ∀ h', InF I env vs Mu' h' → Q () ⟨h', g, d, t, os⟩) : wpG (model prog w) Γ (setItem (.ref x) (.ref y) (.ref e)) Q ⟨h, g, d, t, os⟩ := by
  obtain ⟨pre, post, e1, e2⟩ := u.split
  refine g_leaf o (setItem_ba S.hp (e1 ▸ List.mem_append_right _ (List.mem_cons_self ..)) he hne hs pl pu hx hpq hcs hz (hq _ (S.upd u rfl)))
theorem go_setby {Q : Unit → Shared → Prop} {vl vu : Value} {lo hi : Option Int} {p q : Nat} (o : Ok (n + 6) Γ) (S : InF I env vs Mu h) (u : Ud x (BaO bs) (BaO (lay bs cs p q)) Mu Mu') (hs : List.Mem (y, SlO vl vu .none) Mu) (pl : IsPart vl lo) (pu : IsPart vu hi)
    (hx : sliceBounds lo hi none bs.size = ((p : Int), (q : Int), 1)) (hpq : p ≤ q) (hcs : cs.size = q - p) (hz : bs.size + cs.size < 2 ^ 20)
    (hq : ∀ h' k, InF I env vs Mu' h' → Q () ⟨h', g, d, k, os⟩) : wpG (model prog w) Γ (setItem (.ref x) (.ref y) (.bytes cs tb)) Q ⟨h, g, d, t, os⟩ := by
  obtain ⟨fr, SL, back⟩ := S.lend
  obtain ⟨pre, post, e1, e2⟩ := (u.app [fr]).split
  rw [e1] at SL
  refine g_setItem_bytes o SL (S.get hs) pl pu (e1 ▸ List.mem_append_left _ hs) hx hpq hcs hz fun h' k S' => hq h' k (back _ _ (e2 ▸ S'))
theorem go_setlo {Q : Unit → Shared → Prop} {e : Addr} {y0 : Int} {ty : Tok} (o : Ok n Γ) (S : InF I env vs Mu h) (u : Ud x (BaO bs) (BaO (lay bs cs y0.toNat bs.size)) Mu Mu') (hs : List.Mem (y, SlO (.int y0 ty) .none .none) Mu) (he : List.Mem (e, BaO cs) Mu) (hne : x ≠ e)
    (h0 : 0 ≤ y0) (h1 : y0 + cs.size = bs.size) (hz : bs.size + cs.size < 2 ^ 20) (hq : ∀ h', InF I env vs Mu' h' → Q () ⟨h', g, d, t, os⟩) : wpG (model prog w) Γ (setItem (.ref x) (.ref y) (.ref e)) Q ⟨h, g, d, t, os⟩ :=
  go_setba o S u (S.get he) hne (S.get hs) (.int _ _) .none (sb_lo h0 (by omega)) (by omega) (by omega) hz hq
theorem go_setlohi {Q : Unit → Shared → Prop} {y0 z0 : Int} {ty tz : Tok} (o : Ok (n + 6) Γ) (S : InF I env vs Mu h) (u : Ud x (BaO bs) (BaO (lay bs cs y0.toNat z0.toNat)) Mu Mu') (hs : List.Mem (y, SlO (.int y0 ty) (.int z0 tz) .none) Mu)
    (h0 : 0 ≤ y0) (h1 : y0 + cs.size = z0) (h2 : z0 ≤ bs.size) (hz : bs.size + cs.size < 2 ^ 20) (hq : ∀ h' k, InF I env vs Mu' h' → Q () ⟨h', g, d, k, os⟩) : wpG (model prog w) Γ (setItem (.ref x) (.ref y) (.bytes cs tb)) Q ⟨h, g, d, t, os⟩ :=
  go_setby o S u hs (.int _ _) (.int _ _) (sb_lohi h0 (by omega) (by omega) h2) (by omega) (by omega) hz hq
theorem go_getlo {value slice : Expr} {y0 : Int} {ty : Tok} (o : Ok n Γ) (S : InF I env vs Mu h) (hs : List.Mem (y, SlO (.int y0 ty) .none .none) Mu) (ho : List.Mem (x, BaO bs) Mu) (h0 : 0 ≤ y0) (hy : y0 ≤ bs.size) (hz : bs.size < 2 ^ 20)
    (h1 : subscripted slice false (.ref x) (.ref y) = operate [.ref y, .ref x] (getItem (.ref x) (.ref y))) (h2 : ∀ r, letTemporaryGo value (.ref x) r = pure ())
    (hq : ∀ e h', InF I env vs ((e, BaO (cut bs y0.toNat bs.size)) :: Mu) h' → Q (.ref e) ⟨h', g, d, t, os⟩) : wpG (model prog w) Γ (subscriptTail value slice (.ref x) (.ref y)) Q ⟨h, g, d, t, os⟩ :=
  go_getsl o S (S.get ho) (S.get hs) (.int _ _) .none (sb_lo h0 hy) hz h1 h2 hq
theorem go_bytes {b : List UInt8} {k} (hq : ∀ t' k, Q (.bytes b.toArray t') ⟨h, g, d, k, os⟩) : wpG (model prog w) Γ (eval (.Constant (.bytes b) k pos) env) Q ⟨h, g, d, t, os⟩ := fun _ => hq _ _
theorem go_bmul (o : Ok n Γ) (h1 : -1048576 ≤ a) (h2 : a ≤ 1048576) (hq : ∀ t' k, Q (.bytes (Array.replicate a.toNat 0) t') ⟨h, g, d, k, os⟩) : wpG (model prog w) Γ (binaryOp .Mult (.bytes #[0] tb) (.int a ta)) Q ⟨h, g, d, t, os⟩ := by
  refine g_leaf o (PySem.W.bytes_mul_any (b := [0]) (by decide) h1 h2 (by decide) fun t' k => ?_)
  have e : ((List.replicate a.toNat ([0] : List UInt8)).flatten).toArray = Array.replicate a.toNat 0 := by
    apply Array.ext'
    simp
  rw [e]; exact hq _ _
theorem go_pack {F : Array UInt8} {ch : Char} {wd : Nat} {tf : Tok} (f : Fmt F ch wd) {st : Addr} (o : Ok n Γ) (S : InF I env vs Mu h) (hst : I st = some (StO F tf)) (h0 : 0 ≤ a) (h1 : a + wd ≤ bs.size) (hx : 0 ≤ b) (hx1 : b < 2 ^ (8 * wd)) (hz : bs.size < 2 ^ 20)
    (u : Ud x (BaO bs) (BaO (lay bs (Builtin.Struct.intBytes false wd b) a.toNat (a.toNat + wd))) Mu Mu') (hq : ∀ h', InF I env vs Mu' h' → Q .none ⟨h', g, d, t, os⟩) :
    wpG (model prog w) Γ (call (.builtin "_struct.Struct.pack_into") [.ref st, .ref x, .int a ta, .int b tb]) Q ⟨h, g, d, t, os⟩ := by
  obtain ⟨fr, SL, back⟩ := S.lend
  obtain ⟨pre, post, e1, e2⟩ := (u.app [fr]).split
  rw [e1] at SL
  exact g_leaf o (pack_ f SL (SL.imm _ _ hst) h0 h1 hx hx1 hz fun h' S' => hq h' (back _ _ (e2 ▸ S')))
theorem go_unpack {F : Array UInt8} {ch : Char} {wd : Nat} {tf : Tok} (f : Fmt F ch wd) {st : Addr} (o : Ok n Γ) (S : InF I env vs Mu h) (hst : I st = some (StO F tf)) (ho : h.get? x = some (BaO bs)) (h0 : 0 ≤ a) (h1 : a + wd ≤ bs.size) (hz : bs.size < 2 ^ 20)
    (hq : ∀ e h' t' k, InF I env vs ((e, { cls := .type "tuple", data := .seq #[.int (Builtin.Struct.natOf false (bs.extract a.toNat (a.toNat + wd))) t'] }) :: Mu) h' → Q (.ref e) ⟨h', g, d, k, os⟩) :
    wpG (model prog w) Γ (call (.builtin "_struct.Struct.unpack_from") [.ref st, .ref x, .int a ta]) Q ⟨h, g, d, t, os⟩ := by
  obtain ⟨fr, SL, back⟩ := S.lend
  exact g_leaf o (unpack_ f SL ho (SL.imm _ _ hst) h0 h1 hz fun e h' S' => hq e h' _ _ (back (_ :: _) _ S'))
end
end Mine
end

section
open PySem PySem.W PySem.Calls PyProof.Rows
set_option Elab.async false
set_option maxRecDepth 100000
namespace Mine
def gsz (n : Nat) : Nat := if n = 0 then 1 else 2 * n
def grown (bs : Array UInt8) : Array UInt8 := lay (Array.replicate (gsz bs.size) 0) bs (gsz bs.size - bs.size) (gsz bs.size)
theorem gsz_gt (n : Nat) : n < gsz n := by unfold gsz; split <;> omega
def img (r : Nat) (tl : List UInt8) : Array UInt8 := (List.replicate (r - tl.length) 0 ++ tl).toArray
theorem img_size {r : Nat} {tl : List UInt8} (h : tl.length ≤ r) : (img r tl).size = r := by unfold img; simp; omega
theorem grown_img {r : Nat} {tl : List UInt8} (h : tl.length ≤ r) : grown (img r tl) = img (gsz r) tl := by
  have hg := gsz_gt r
  unfold grown
  rw [img_size h]
  apply Array.ext'
  unfold lay img
  simp only [Array.toList_append, Array.toList_extract, Array.toList_replicate, List.extract_eq_drop_take]
  have e1 : List.drop (gsz r) (List.take ((Array.replicate (gsz r) (0 : UInt8)).size - gsz r) (List.drop 0 (List.replicate (gsz r) (0 : UInt8)))) = [] := by simp
  simp [← List.append_assoc]
  omega
theorem lay_img {r : Nat} {tl : List UInt8} {c : Array UInt8} {x y : Nat} (h : c.size + tl.length ≤ r) (hx : x = r - tl.length - c.size) (hy : y = r - tl.length) : lay (img r tl) c x y = img r (c.toList ++ tl) := by
  subst hx hy
  apply Array.ext'
  unfold lay img
  simp only [Array.toList_append, Array.toList_extract, List.extract_eq_drop_take]
  simp
  rw [List.take_append_of_le_length (by simp), List.take_replicate]
  congr 1; omega
theorem pad_img {r n : Nat} {tl : List UInt8} {x y : Nat} (h : n + tl.length ≤ r) (hx : x = r - tl.length - n) (hy : y = r - tl.length) : lay (img r tl) (Array.replicate n 0) x y = img r (List.replicate n 0 ++ tl) := by
  rw [lay_img (by simpa using h) (by simpa using hx) hy]
  simp
theorem img_zeros {r n : Nat} {tl : List UInt8} (h : n + tl.length ≤ r) : img r (List.replicate n 0 ++ tl) = img r tl := by
  unfold img
  rw [← List.append_assoc, List.replicate_append_replicate]
  congr 3
  simp; omega
def roomUp (m r : Nat) : Nat := if r < m then roomUp m (gsz r) else r
termination_by m - r
decreasing_by have := gsz_gt r; omega
theorem roomUp_lt {m r : Nat} (h : r < m) : roomUp m r = roomUp m (gsz r) := by rw [roomUp, if_pos h]
theorem roomUp_ge {m r : Nat} (h : ¬ r < m) : roomUp m r = r := by rw [roomUp, if_neg h]
theorem roomUp_le (m r : Nat) : m ≤ roomUp m r := by
  fun_induction roomUp m r with
  | case1 r h ih => exact ih
  | case2 r h => omega
theorem le_roomUp (m r : Nat) : r ≤ roomUp m r := by
  fun_induction roomUp m r with
  | case1 r h ih => have := gsz_gt r; omega
  | case2 r h => omega
theorem roomUp_bound (m r : Nat) : roomUp m r ≤ max r (2 * m) := by
  fun_induction roomUp m r with
  | case1 r h ih => 
    have : gsz r ≤ 2 * m := by unfold gsz; split <;> omega
    omega
  | case2 r h => omega
end Mine
end

section
open PySem PySem.W PySem.Calls PyProof.Rows
set_option Elab.async false
set_option maxRecDepth 100000
namespace Mine
section
variable (P : Params)
noncomputable abbrev PW : Program := PySem.Challenge.pw_eh5018_01
noncomputable abbrev KK : Params → Frag := Mine.hd.heap_39
theorem gv_Builder : Gv (KK P) "Builder" (.ref 622) := .inl (by kernel_rfl)
theorem gv_BuilderNotFinishedError : Gv (KK P) "BuilderNotFinishedError" (.ref 217) := .inl (by kernel_rfl)
theorem gv_BuilderSizeError : Gv (KK P) "BuilderSizeError" (.ref 204) := .inl (by kernel_rfl)
theorem gv_FILE_IDENTIFIER_LENGTH : Gv (KK P) "FILE_IDENTIFIER_LENGTH" (.int (4) 581) := .inl (by kernel_rfl)
theorem gv_Get_encode : Gv (KK P) "Get_encode" (.ref 174) := .inl (by kernel_rfl)
theorem gv_Int32Flags : Gv (KK P) "Int32Flags" (.ref 120) := .inl (by kernel_rfl)
theorem gv_OffsetArithmeticError : Gv (KK P) "OffsetArithmeticError" (.ref 191) := .inl (by kernel_rfl)
theorem gv_Table : Gv (KK P) "Table" (.ref 717) := .inl (by kernel_rfl)
theorem gv_TypeError : Gv (KK P) "TypeError" (.type "TypeError") := .inr ⟨by kernel_rfl, by kernel_rfl, by decide +kernel⟩
theorem gv_UOffsetTFlags : Gv (KK P) "UOffsetTFlags" (.ref 146) := .inl (by kernel_rfl)
theorem gv_Uint16Flags : Gv (KK P) "Uint16Flags" (.ref 78) := .inl (by kernel_rfl)
theorem gv_Uint32Flags : Gv (KK P) "Uint32Flags" (.ref 92) := .inl (by kernel_rfl)
theorem gv_Uint64Flags : Gv (KK P) "Uint64Flags" (.ref 106) := .inl (by kernel_rfl)
theorem gv_Uint8Flags : Gv (KK P) "Uint8Flags" (.ref 64) := .inl (by kernel_rfl)
theorem gv_Write : Gv (KK P) "Write" (.ref 181) := .inl (by kernel_rfl)
theorem gv__law_flags : Gv (KK P) "_law_flags" (.ref 735) := .inl (by kernel_rfl)
theorem gv__law_lay : Gv (KK P) "_law_lay" (.ref 749) := .inl (by kernel_rfl)
theorem gv__law_room : Gv (KK P) "_law_room" (.ref 756) := .inl (by kernel_rfl)
theorem gv__law_up : Gv (KK P) "_law_up" (.ref 742) := .inl (by kernel_rfl)
theorem gv__law_widths : Gv (KK P) "_law_widths" (.ref 728) := .inl (by kernel_rfl)
theorem gv_all : Gv (KK P) "all" (.builtin "all") := .inr ⟨by kernel_rfl, by kernel_rfl, by decide +kernel⟩
theorem gv_bytearray : Gv (KK P) "bytearray" (.type "bytearray") := .inr ⟨by kernel_rfl, by kernel_rfl, by decide +kernel⟩
theorem gv_bytes : Gv (KK P) "bytes" (.type "bytes") := .inr ⟨by kernel_rfl, by kernel_rfl, by decide +kernel⟩
theorem gv_enforce_number : Gv (KK P) "enforce_number" (.ref 167) := .inl (by kernel_rfl)
theorem gv_len : Gv (KK P) "len" (.builtin "len") := .inr ⟨by kernel_rfl, by kernel_rfl, by decide +kernel⟩
theorem gv_max : Gv (KK P) "max" (.builtin "max") := .inr ⟨by kernel_rfl, by kernel_rfl, by decide +kernel⟩
theorem gv_min : Gv (KK P) "min" (.builtin "min") := .inr ⟨by kernel_rfl, by kernel_rfl, by decide +kernel⟩
theorem gv_range : Gv (KK P) "range" (.type "range") := .inr ⟨by kernel_rfl, by kernel_rfl, by decide +kernel⟩
theorem gv_reversed : Gv (KK P) "reversed" (.type "reversed") := .inr ⟨by kernel_rfl, by kernel_rfl, by decide +kernel⟩
theorem gv_str : Gv (KK P) "str" (.type "str") := .inr ⟨by kernel_rfl, by kernel_rfl, by decide +kernel⟩
theorem gv_unpack : Gv (KK P) "unpack" (.builtin "_struct.unpack") := .inl (by kernel_rfl)
theorem gv_uoffset : Gv (KK P) "uoffset" (.ref 52) := .inl (by kernel_rfl)
abbrev lo_enforce_number : List Str := ["n", "flags"]
abbrev gl_enforce_number : List (Str × Value) := [("TypeError", .type "TypeError"), ("str", .type "str")]
theorem F_enforce_number : FnF (KK P) 167 (fnAt (KK P) 167) (pB PW 18) lo_enforce_number gl_enforce_number := FnF.cast (.of (by kernel_rfl) rfl (by kernel_rfl) (List.forall_mem_cons.mpr ⟨gv_TypeError P, (List.forall_mem_cons.mpr ⟨gv_str P, (fun _ m => nomatch m)⟩)⟩)) (by kernel_rfl)
theorem bd_enforce_number (v0 v1 : Value) (S : Setting) : peek (KK P) S (bindArgs (fnAt (KK P) 167) ⟨[v0, v1], []⟩) = some ([("n", v0), ("flags", v1)] : List (Str × Value)) := by kernel_rfl
abbrev lo_Get : List Str := ["packer_type", "buf", "head"]
abbrev gl_Get : List (Str × Value) := []
theorem F_Get : FnF (KK P) 174 (fnAt (KK P) 174) (pB PW 21) lo_Get gl_Get := FnF.cast (.of (by kernel_rfl) rfl (by kernel_rfl) (fun _ m => nomatch m)) (by kernel_rfl)
theorem bd_Get (v0 v1 v2 : Value) (S : Setting) : peek (KK P) S (bindArgs (fnAt (KK P) 174) ⟨[v0, v1, v2], []⟩) = some ([("packer_type", v0), ("buf", v1), ("head", v2)] : List (Str × Value)) := by kernel_rfl
abbrev lo_Write : List Str := ["packer_type", "buf", "head", "n"]
abbrev gl_Write : List (Str × Value) := []
theorem F_Write : FnF (KK P) 181 (fnAt (KK P) 181) (pB PW 23) lo_Write gl_Write := FnF.cast (.of (by kernel_rfl) rfl (by kernel_rfl) (fun _ m => nomatch m)) (by kernel_rfl)
theorem bd_Write (v0 v1 v2 v3 : Value) (S : Setting) : peek (KK P) S (bindArgs (fnAt (KK P) 181) ⟨[v0, v1, v2, v3], []⟩) = some ([("packer_type", v0), ("buf", v1), ("head", v2), ("n", v3)] : List (Str × Value)) := by kernel_rfl
abbrev lo_BuilderU_initU : List Str := ["self", "initialSize", "msg"]
abbrev gl_BuilderU_initU : List (Str × Value) := [("Builder", .ref 622), ("BuilderSizeError", .ref 204), ("bytearray", .type "bytearray"), ("UOffsetTFlags", .ref 146)]
theorem F_BuilderU_initU : FnF (KK P) 236 (fnAt (KK P) 236) (mB PW 28 3) lo_BuilderU_initU gl_BuilderU_initU := FnF.cast (.of (by kernel_rfl) rfl (by kernel_rfl) (List.forall_mem_cons.mpr ⟨gv_Builder P, (List.forall_mem_cons.mpr ⟨gv_BuilderSizeError P, (List.forall_mem_cons.mpr ⟨gv_bytearray P, (List.forall_mem_cons.mpr ⟨gv_UOffsetTFlags P, (fun _ m => nomatch m)⟩)⟩)⟩)⟩)) (by kernel_rfl)
theorem bd_BuilderU_initU (v0 v1 : Value) (S : Setting) : peek (KK P) S (bindArgs (fnAt (KK P) 236) ⟨[v0, v1], []⟩) = some ([("self", v0), ("initialSize", v1)] : List (Str × Value)) := by kernel_rfl
abbrev lo_Builder_Output : List Str := ["self"]
abbrev gl_Builder_Output : List (Str × Value) := [("BuilderNotFinishedError", .ref 217)]
theorem F_Builder_Output : FnF (KK P) 250 (fnAt (KK P) 250) (mB PW 28 5) lo_Builder_Output gl_Builder_Output := FnF.cast (.of (by kernel_rfl) rfl (by kernel_rfl) (List.forall_mem_cons.mpr ⟨gv_BuilderNotFinishedError P, (fun _ m => nomatch m)⟩)) (by kernel_rfl)
theorem bd_Builder_Output (v0 : Value) (S : Setting) : peek (KK P) S (bindArgs (fnAt (KK P) 250) ⟨[v0], []⟩) = some ([("self", v0)] : List (Str × Value)) := by kernel_rfl
abbrev lo_Builder_GrowByteBuffer : List Str := ["self", "msg", "newSize", "bytes2"]
abbrev gl_Builder_GrowByteBuffer : List (Str × Value) := [("len", .builtin "len"), ("Builder", .ref 622), ("BuilderSizeError", .ref 204), ("min", .builtin "min"), ("bytearray", .type "bytearray")]
theorem F_Builder_GrowByteBuffer : FnF (KK P) 278 (fnAt (KK P) 278) (mB PW 28 9) lo_Builder_GrowByteBuffer gl_Builder_GrowByteBuffer := FnF.cast (.of (by kernel_rfl) rfl (by kernel_rfl) (List.forall_mem_cons.mpr ⟨gv_len P, (List.forall_mem_cons.mpr ⟨gv_Builder P, (List.forall_mem_cons.mpr ⟨gv_BuilderSizeError P, (List.forall_mem_cons.mpr ⟨gv_min P, (List.forall_mem_cons.mpr ⟨gv_bytearray P, (fun _ m => nomatch m)⟩)⟩)⟩)⟩)⟩)) (by kernel_rfl)
theorem bd_Builder_GrowByteBuffer (v0 : Value) (S : Setting) : peek (KK P) S (bindArgs (fnAt (KK P) 278) ⟨[v0], []⟩) = some ([("self", v0)] : List (Str × Value)) := by kernel_rfl
abbrev lo_Builder_Head : List Str := ["self"]
abbrev gl_Builder_Head : List (Str × Value) := []
theorem F_Builder_Head : FnF (KK P) 285 (fnAt (KK P) 285) (mB PW 28 10) lo_Builder_Head gl_Builder_Head := FnF.cast (.of (by kernel_rfl) rfl (by kernel_rfl) (fun _ m => nomatch m)) (by kernel_rfl)
theorem bd_Builder_Head (v0 : Value) (S : Setting) : peek (KK P) S (bindArgs (fnAt (KK P) 285) ⟨[v0], []⟩) = some ([("self", v0)] : List (Str × Value)) := by kernel_rfl
abbrev lo_Builder_Offset : List Str := ["self"]
abbrev gl_Builder_Offset : List (Str × Value) := [("len", .builtin "len")]
theorem F_Builder_Offset : FnF (KK P) 292 (fnAt (KK P) 292) (mB PW 28 11) lo_Builder_Offset gl_Builder_Offset := FnF.cast (.of (by kernel_rfl) rfl (by kernel_rfl) (List.forall_mem_cons.mpr ⟨gv_len P, (fun _ m => nomatch m)⟩)) (by kernel_rfl)
theorem bd_Builder_Offset (v0 : Value) (S : Setting) : peek (KK P) S (bindArgs (fnAt (KK P) 292) ⟨[v0], []⟩) = some ([("self", v0)] : List (Str × Value)) := by kernel_rfl
abbrev lo_Builder_Pad : List Str := ["self", "n", "new_head"]
abbrev gl_Builder_Pad : List (Str × Value) := []
theorem F_Builder_Pad : FnF (KK P) 299 (fnAt (KK P) 299) (mB PW 28 12) lo_Builder_Pad gl_Builder_Pad := FnF.cast (.of (by kernel_rfl) rfl (by kernel_rfl) (fun _ m => nomatch m)) (by kernel_rfl)
theorem bd_Builder_Pad (v0 v1 : Value) (S : Setting) : peek (KK P) S (bindArgs (fnAt (KK P) 299) ⟨[v0, v1], []⟩) = some ([("self", v0), ("n", v1)] : List (Str × Value)) := by kernel_rfl
abbrev lo_Builder_Prep : List Str := ["self", "size", "additionalBytes", "head", "buf_len", "alignSize", "needed", "oldBufSize"]
abbrev gl_Builder_Prep : List (Str × Value) := [("len", .builtin "len")]
theorem F_Builder_Prep : FnF (KK P) 306 (fnAt (KK P) 306) (mB PW 28 13) lo_Builder_Prep gl_Builder_Prep := FnF.cast (.of (by kernel_rfl) rfl (by kernel_rfl) (List.forall_mem_cons.mpr ⟨gv_len P, (fun _ m => nomatch m)⟩)) (by kernel_rfl)
theorem bd_Builder_Prep (v0 v1 v2 : Value) (S : Setting) : peek (KK P) S (bindArgs (fnAt (KK P) 306) ⟨[v0, v1, v2], []⟩) = some ([("self", v0), ("size", v1), ("additionalBytes", v2)] : List (Str × Value)) := by kernel_rfl
abbrev lo_Builder_PrependUOffsetTRelative : List Str := ["self", "off", "msg", "off2"]
abbrev gl_Builder_PrependUOffsetTRelative : List (Str × Value) := [("UOffsetTFlags", .ref 146), ("OffsetArithmeticError", .ref 191)]
theorem F_Builder_PrependUOffsetTRelative : FnF (KK P) 320 (fnAt (KK P) 320) (mB PW 28 15) lo_Builder_PrependUOffsetTRelative gl_Builder_PrependUOffsetTRelative := FnF.cast (.of (by kernel_rfl) rfl (by kernel_rfl) (List.forall_mem_cons.mpr ⟨gv_UOffsetTFlags P, (List.forall_mem_cons.mpr ⟨gv_OffsetArithmeticError P, (fun _ m => nomatch m)⟩)⟩)) (by kernel_rfl)
theorem bd_Builder_PrependUOffsetTRelative (v0 v1 : Value) (S : Setting) : peek (KK P) S (bindArgs (fnAt (KK P) 320) ⟨[v0, v1], []⟩) = some ([("self", v0), ("off", v1)] : List (Str × Value)) := by kernel_rfl
abbrev lo_BuilderU_Finish : List Str := ["self", "rootTable", "sizePrefix", "file_identifier", "prepSize", "i", "size"]
abbrev gl_BuilderU_Finish : List (Str × Value) := [("enforce_number", .ref 167), ("UOffsetTFlags", .ref 146), ("Int32Flags", .ref 120), ("FILE_IDENTIFIER_LENGTH", .int (4) 581), ("unpack", .builtin "_struct.unpack"), ("range", .type "range"), ("Uint8Flags", .ref 64), ("len", .builtin "len")]
theorem F_BuilderU_Finish : FnF (KK P) 392 (fnAt (KK P) 392) (mB PW 28 25) lo_BuilderU_Finish gl_BuilderU_Finish := FnF.cast (.of (by kernel_rfl) rfl (by kernel_rfl) (List.forall_mem_cons.mpr ⟨gv_enforce_number P, (List.forall_mem_cons.mpr ⟨gv_UOffsetTFlags P, (List.forall_mem_cons.mpr ⟨gv_Int32Flags P, (List.forall_mem_cons.mpr ⟨gv_FILE_IDENTIFIER_LENGTH P, (List.forall_mem_cons.mpr ⟨gv_unpack P, (List.forall_mem_cons.mpr ⟨gv_range P, (List.forall_mem_cons.mpr ⟨gv_Uint8Flags P, (List.forall_mem_cons.mpr ⟨gv_len P, (fun _ m => nomatch m)⟩)⟩)⟩)⟩)⟩)⟩)⟩)⟩)) (by kernel_rfl)
abbrev lo_Builder_Finish : List Str := ["self", "rootTable", "file_identifier"]
abbrev gl_Builder_Finish : List (Str × Value) := []
theorem F_Builder_Finish : FnF (KK P) 400 (fnAt (KK P) 400) (mB PW 28 26) lo_Builder_Finish gl_Builder_Finish := FnF.cast (.of (by kernel_rfl) rfl (by kernel_rfl) (fun _ m => nomatch m)) (by kernel_rfl)
abbrev lo_Builder_Prepend : List Str := ["self", "flags", "off"]
abbrev gl_Builder_Prepend : List (Str × Value) := []
theorem F_Builder_Prepend : FnF (KK P) 415 (fnAt (KK P) 415) (mB PW 28 28) lo_Builder_Prepend gl_Builder_Prepend := FnF.cast (.of (by kernel_rfl) rfl (by kernel_rfl) (fun _ m => nomatch m)) (by kernel_rfl)
theorem bd_Builder_Prepend (v0 v1 v2 : Value) (S : Setting) : peek (KK P) S (bindArgs (fnAt (KK P) 415) ⟨[v0, v1, v2], []⟩) = some ([("self", v0), ("flags", v1), ("off", v2)] : List (Str × Value)) := by kernel_rfl
abbrev lo_Builder_Place : List Str := ["self", "x", "flags", "new_head"]
abbrev gl_Builder_Place : List (Str × Value) := [("enforce_number", .ref 167), ("Write", .ref 181)]
theorem F_Builder_Place : FnF (KK P) 597 (fnAt (KK P) 597) (mB PW 28 54) lo_Builder_Place gl_Builder_Place := FnF.cast (.of (by kernel_rfl) rfl (by kernel_rfl) (List.forall_mem_cons.mpr ⟨gv_enforce_number P, (List.forall_mem_cons.mpr ⟨gv_Write P, (fun _ m => nomatch m)⟩)⟩)) (by kernel_rfl)
theorem bd_Builder_Place (v0 v1 v2 : Value) (S : Setting) : peek (KK P) S (bindArgs (fnAt (KK P) 597) ⟨[v0, v1, v2], []⟩) = some ([("self", v0), ("x", v1), ("flags", v2)] : List (Str × Value)) := by kernel_rfl
abbrev lo_Builder_PlaceUOffsetT : List Str := ["self", "x", "new_head"]
abbrev gl_Builder_PlaceUOffsetT : List (Str × Value) := [("enforce_number", .ref 167), ("UOffsetTFlags", .ref 146), ("Write", .ref 181), ("uoffset", .ref 52)]
theorem F_Builder_PlaceUOffsetT : FnF (KK P) 618 (fnAt (KK P) 618) (mB PW 28 57) lo_Builder_PlaceUOffsetT gl_Builder_PlaceUOffsetT := FnF.cast (.of (by kernel_rfl) rfl (by kernel_rfl) (List.forall_mem_cons.mpr ⟨gv_enforce_number P, (List.forall_mem_cons.mpr ⟨gv_UOffsetTFlags P, (List.forall_mem_cons.mpr ⟨gv_Write P, (List.forall_mem_cons.mpr ⟨gv_uoffset P, (fun _ m => nomatch m)⟩)⟩)⟩)⟩)) (by kernel_rfl)
theorem bd_Builder_PlaceUOffsetT (v0 v1 : Value) (S : Setting) : peek (KK P) S (bindArgs (fnAt (KK P) 618) ⟨[v0, v1], []⟩) = some ([("self", v0), ("x", v1)] : List (Str × Value)) := by kernel_rfl
abbrev lo_TableU_initU : List Str := ["self", "buf", "pos"]
abbrev gl_TableU_initU : List (Str × Value) := [("enforce_number", .ref 167), ("UOffsetTFlags", .ref 146)]
theorem F_TableU_initU : FnF (KK P) 650 (fnAt (KK P) 650) (mB PW 30 1) lo_TableU_initU gl_TableU_initU := FnF.cast (.of (by kernel_rfl) rfl (by kernel_rfl) (List.forall_mem_cons.mpr ⟨gv_enforce_number P, (List.forall_mem_cons.mpr ⟨gv_UOffsetTFlags P, (fun _ m => nomatch m)⟩)⟩)) (by kernel_rfl)
theorem bd_TableU_initU (v0 v1 v2 : Value) (S : Setting) : peek (KK P) S (bindArgs (fnAt (KK P) 650) ⟨[v0, v1, v2], []⟩) = some ([("self", v0), ("buf", v1), ("pos", v2)] : List (Str × Value)) := by kernel_rfl
abbrev lo_Table_Indirect : List Str := ["self", "off"]
abbrev gl_Table_Indirect : List (Str × Value) := [("enforce_number", .ref 167), ("UOffsetTFlags", .ref 146), ("Get_encode", .ref 174)]
theorem F_Table_Indirect : FnF (KK P) 664 (fnAt (KK P) 664) (mB PW 30 3) lo_Table_Indirect gl_Table_Indirect := FnF.cast (.of (by kernel_rfl) rfl (by kernel_rfl) (List.forall_mem_cons.mpr ⟨gv_enforce_number P, (List.forall_mem_cons.mpr ⟨gv_UOffsetTFlags P, (List.forall_mem_cons.mpr ⟨gv_Get_encode P, (fun _ m => nomatch m)⟩)⟩)⟩)) (by kernel_rfl)
theorem bd_Table_Indirect (v0 v1 : Value) (S : Setting) : peek (KK P) S (bindArgs (fnAt (KK P) 664) ⟨[v0, v1], []⟩) = some ([("self", v0), ("off", v1)] : List (Str × Value)) := by kernel_rfl
abbrev lo_Table_Get : List Str := ["self", "flags", "off"]
abbrev gl_Table_Get : List (Str × Value) := [("enforce_number", .ref 167), ("UOffsetTFlags", .ref 146), ("Get_encode", .ref 174)]
theorem F_Table_Get : FnF (KK P) 699 (fnAt (KK P) 699) (mB PW 30 8) lo_Table_Get gl_Table_Get := FnF.cast (.of (by kernel_rfl) rfl (by kernel_rfl) (List.forall_mem_cons.mpr ⟨gv_enforce_number P, (List.forall_mem_cons.mpr ⟨gv_UOffsetTFlags P, (List.forall_mem_cons.mpr ⟨gv_Get_encode P, (fun _ m => nomatch m)⟩)⟩)⟩)) (by kernel_rfl)
theorem bd_Table_Get (v0 v1 v2 : Value) (S : Setting) : peek (KK P) S (bindArgs (fnAt (KK P) 699) ⟨[v0, v1, v2], []⟩) = some ([("self", v0), ("flags", v1), ("off", v2)] : List (Str × Value)) := by kernel_rfl
abbrev lo__law_widths : List Str := []
abbrev gl__law_widths : List (Str × Value) := []
theorem F__law_widths : FnF (KK P) 728 (fnAt (KK P) 728) (pB PW 32) lo__law_widths gl__law_widths := FnF.cast (.of (by kernel_rfl) rfl (by kernel_rfl) (fun _ m => nomatch m)) (by kernel_rfl)
theorem bd__law_widths (S : Setting) : peek (KK P) S (bindArgs (fnAt (KK P) 728) ⟨[], []⟩) = some ([] : List (Str × Value)) := by kernel_rfl
abbrev lo__law_flags : List Str := ["k", "kinds"]
abbrev gl__law_flags : List (Str × Value) := [("Uint8Flags", .ref 64), ("Uint16Flags", .ref 78), ("Uint32Flags", .ref 92), ("Uint64Flags", .ref 106)]
theorem F__law_flags : FnF (KK P) 735 (fnAt (KK P) 735) (pB PW 33) lo__law_flags gl__law_flags := FnF.cast (.of (by kernel_rfl) rfl (by kernel_rfl) (List.forall_mem_cons.mpr ⟨gv_Uint8Flags P, (List.forall_mem_cons.mpr ⟨gv_Uint16Flags P, (List.forall_mem_cons.mpr ⟨gv_Uint32Flags P, (List.forall_mem_cons.mpr ⟨gv_Uint64Flags P, (fun _ m => nomatch m)⟩)⟩)⟩)⟩)) (by kernel_rfl)
theorem bd__law_flags (v0 : Value) (S : Setting) : peek (KK P) S (bindArgs (fnAt (KK P) 735) ⟨[v0], []⟩) = some ([("k", v0)] : List (Str × Value)) := by kernel_rfl
abbrev lo__law_up : List Str := ["pile", "width", "ahead"]
abbrev gl__law_up : List (Str × Value) := [("len", .builtin "len")]
theorem F__law_up : FnF (KK P) 742 (fnAt (KK P) 742) (pB PW 34) lo__law_up gl__law_up := FnF.cast (.of (by kernel_rfl) rfl (by kernel_rfl) (List.forall_mem_cons.mpr ⟨gv_len P, (fun _ m => nomatch m)⟩)) (by kernel_rfl)
theorem bd__law_up (v0 v1 v2 : Value) (S : Setting) : peek (KK P) S (bindArgs (fnAt (KK P) 742) ⟨[v0, v1, v2], []⟩) = some ([("pile", v0), ("width", v1), ("ahead", v2)] : List (Str × Value)) := by kernel_rfl
abbrev lo__law_lay : List Str := ["pile", "x", "width", "worth", "j"]
abbrev gl__law_lay : List (Str × Value) := [("reversed", .type "reversed"), ("range", .type "range")]
theorem F__law_lay : FnF (KK P) 749 (fnAt (KK P) 749) (pB PW 35) lo__law_lay gl__law_lay := FnF.cast (.of (by kernel_rfl) rfl (by kernel_rfl) (List.forall_mem_cons.mpr ⟨gv_reversed P, (List.forall_mem_cons.mpr ⟨gv_range P, (fun _ m => nomatch m)⟩)⟩)) (by kernel_rfl)
theorem bd__law_lay (v0 v1 v2 : Value) (S : Setting) : peek (KK P) S (bindArgs (fnAt (KK P) 749) ⟨[v0, v1, v2], []⟩) = some ([("pile", v0), ("x", v1), ("width", v2)] : List (Str × Value)) := by kernel_rfl
abbrev lo__law_room : List Str := ["room", "pile", "width", "need"]
abbrev gl__law_room : List (Str × Value) := [("len", .builtin "len")]
theorem F__law_room : FnF (KK P) 756 (fnAt (KK P) 756) (pB PW 36) lo__law_room gl__law_room := FnF.cast (.of (by kernel_rfl) rfl (by kernel_rfl) (List.forall_mem_cons.mpr ⟨gv_len P, (fun _ m => nomatch m)⟩)) (by kernel_rfl)
theorem bd__law_room (v0 v1 v2 : Value) (S : Setting) : peek (KK P) S (bindArgs (fnAt (KK P) 756) ⟨[v0, v1, v2], []⟩) = some ([("room", v0), ("pile", v1), ("width", v2)] : List (Str × Value)) := by kernel_rfl
theorem me_BuilderU_initU : MethF (KK P) 622 "__init__" 236 := .of (by kernel_rfl)
theorem me_Builder_Output : MethF (KK P) 622 "Output" 250 := .of (by kernel_rfl)
theorem me_Builder_GrowByteBuffer : MethF (KK P) 622 "GrowByteBuffer" 278 := .of (by kernel_rfl)
theorem me_Builder_Head : MethF (KK P) 622 "Head" 285 := .of (by kernel_rfl)
theorem me_Builder_Offset : MethF (KK P) 622 "Offset" 292 := .of (by kernel_rfl)
theorem me_Builder_Pad : MethF (KK P) 622 "Pad" 299 := .of (by kernel_rfl)
theorem me_Builder_Prep : MethF (KK P) 622 "Prep" 306 := .of (by kernel_rfl)
theorem me_Builder_PrependUOffsetTRelative : MethF (KK P) 622 "PrependUOffsetTRelative" 320 := .of (by kernel_rfl)
theorem me_BuilderU_Finish : MethF (KK P) 622 "_Builder__Finish" 392 := .of (by kernel_rfl)
theorem me_Builder_Finish : MethF (KK P) 622 "Finish" 400 := .of (by kernel_rfl)
theorem me_Builder_Prepend : MethF (KK P) 622 "Prepend" 415 := .of (by kernel_rfl)
theorem me_Builder_Place : MethF (KK P) 622 "Place" 597 := .of (by kernel_rfl)
theorem me_Builder_PlaceUOffsetT : MethF (KK P) 622 "PlaceUOffsetT" 618 := .of (by kernel_rfl)
theorem sl_Builder_Bytes : SlotF (KK P) 622 "Bytes" 623 0 := .of (by kernel_rfl)
theorem sl_Builder_current_vtable : SlotF (KK P) 622 "current_vtable" 624 1 := .of (by kernel_rfl)
theorem sl_Builder_finished : SlotF (KK P) 622 "finished" 625 2 := .of (by kernel_rfl)
theorem sl_Builder_forceDefaults : SlotF (KK P) 622 "forceDefaults" 626 3 := .of (by kernel_rfl)
theorem sl_Builder_head : SlotF (KK P) 622 "head" 627 4 := .of (by kernel_rfl)
theorem sl_Builder_minalign : SlotF (KK P) 622 "minalign" 628 5 := .of (by kernel_rfl)
theorem sl_Builder_nested : SlotF (KK P) 622 "nested" 629 6 := .of (by kernel_rfl)
theorem sl_Builder_objectEnd : SlotF (KK P) 622 "objectEnd" 630 7 := .of (by kernel_rfl)
theorem sl_Builder_sharedStrings : SlotF (KK P) 622 "sharedStrings" 631 8 := .of (by kernel_rfl)
theorem sl_Builder_vectorNumElems : SlotF (KK P) 622 "vectorNumElems" 632 9 := .of (by kernel_rfl)
theorem sl_Builder_vtables : SlotF (KK P) 622 "vtables" 633 10 := .of (by kernel_rfl)
theorem me_TableU_initU : MethF (KK P) 717 "__init__" 650 := .of (by kernel_rfl)
theorem me_Table_Indirect : MethF (KK P) 717 "Indirect" 664 := .of (by kernel_rfl)
theorem me_Table_Get : MethF (KK P) 717 "Get" 699 := .of (by kernel_rfl)
theorem sl_Table_Bytes : SlotF (KK P) 717 "Bytes" 718 0 := .of (by kernel_rfl)
theorem sl_Table_Pos : SlotF (KK P) 717 "Pos" 719 1 := .of (by kernel_rfl)
theorem ca_Uint8Flags_bytewidth : ClsF (KK P) 64 "bytewidth" (.int (1) 362) := .of (by kernel_rfl) (by kernel_rfl) (by kernel_rfl)
theorem ca_Uint8Flags_min_val : ClsF (KK P) 64 "min_val" (.int (0) 364) := .of (by kernel_rfl) (by kernel_rfl) (by kernel_rfl)
theorem ca_Uint8Flags_max_val : ClsF (KK P) 64 "max_val" (.int (255) 370) := .of (by kernel_rfl) (by kernel_rfl) (by kernel_rfl)
theorem ca_Uint8Flags_py_type : ClsT (KK P) 64 "py_type" "int" := .of (by kernel_rfl) (by kernel_rfl) (by kernel_rfl) (by kernel_rfl)
theorem ga_Uint8Flags : specialIn (KK P) (.ref 64) "__getattribute__" = some (some (.builtin "type.__getattribute__")) := by kernel_rfl
theorem ca_Uint8Flags_packer_type : ClsF (KK P) 64 "packer_type" (.ref 50) := .of (by kernel_rfl) (by kernel_rfl) (by kernel_rfl)
theorem ca_Uint16Flags_bytewidth : ClsF (KK P) 78 "bytewidth" (.int (2) 396) := .of (by kernel_rfl) (by kernel_rfl) (by kernel_rfl)
theorem ca_Uint16Flags_min_val : ClsF (KK P) 78 "min_val" (.int (0) 398) := .of (by kernel_rfl) (by kernel_rfl) (by kernel_rfl)
theorem ca_Uint16Flags_max_val : ClsF (KK P) 78 "max_val" (.int (65535) 404) := .of (by kernel_rfl) (by kernel_rfl) (by kernel_rfl)
theorem ca_Uint16Flags_py_type : ClsT (KK P) 78 "py_type" "int" := .of (by kernel_rfl) (by kernel_rfl) (by kernel_rfl) (by kernel_rfl)
theorem ga_Uint16Flags : specialIn (KK P) (.ref 78) "__getattribute__" = some (some (.builtin "type.__getattribute__")) := by kernel_rfl
theorem ca_Uint16Flags_packer_type : ClsF (KK P) 78 "packer_type" (.ref 51) := .of (by kernel_rfl) (by kernel_rfl) (by kernel_rfl)
theorem ca_Uint32Flags_bytewidth : ClsF (KK P) 92 "bytewidth" (.int (4) 430) := .of (by kernel_rfl) (by kernel_rfl) (by kernel_rfl)
theorem ca_Uint32Flags_min_val : ClsF (KK P) 92 "min_val" (.int (0) 432) := .of (by kernel_rfl) (by kernel_rfl) (by kernel_rfl)
theorem ca_Uint32Flags_max_val : ClsF (KK P) 92 "max_val" (.int (4294967295) 438) := .of (by kernel_rfl) (by kernel_rfl) (by kernel_rfl)
theorem ca_Uint32Flags_py_type : ClsT (KK P) 92 "py_type" "int" := .of (by kernel_rfl) (by kernel_rfl) (by kernel_rfl) (by kernel_rfl)
theorem ga_Uint32Flags : specialIn (KK P) (.ref 92) "__getattribute__" = some (some (.builtin "type.__getattribute__")) := by kernel_rfl
theorem ca_Uint32Flags_packer_type : ClsF (KK P) 92 "packer_type" (.ref 52) := .of (by kernel_rfl) (by kernel_rfl) (by kernel_rfl)
theorem ca_Uint64Flags_bytewidth : ClsF (KK P) 106 "bytewidth" (.int (8) 464) := .of (by kernel_rfl) (by kernel_rfl) (by kernel_rfl)
theorem ca_Uint64Flags_min_val : ClsF (KK P) 106 "min_val" (.int (0) 466) := .of (by kernel_rfl) (by kernel_rfl) (by kernel_rfl)
theorem ca_Uint64Flags_max_val : ClsF (KK P) 106 "max_val" (.int (18446744073709551615) 472) := .of (by kernel_rfl) (by kernel_rfl) (by kernel_rfl)
theorem ca_Uint64Flags_py_type : ClsT (KK P) 106 "py_type" "int" := .of (by kernel_rfl) (by kernel_rfl) (by kernel_rfl) (by kernel_rfl)
theorem ga_Uint64Flags : specialIn (KK P) (.ref 106) "__getattribute__" = some (some (.builtin "type.__getattribute__")) := by kernel_rfl
theorem ca_Uint64Flags_packer_type : ClsF (KK P) 106 "packer_type" (.ref 53) := .of (by kernel_rfl) (by kernel_rfl) (by kernel_rfl)
theorem ca_UOffsetTFlags_bytewidth : ClsF (KK P) 146 "bytewidth" (.int (4) 430) := .of (by kernel_rfl) (by kernel_rfl) (by kernel_rfl)
theorem ca_UOffsetTFlags_min_val : ClsF (KK P) 146 "min_val" (.int (0) 432) := .of (by kernel_rfl) (by kernel_rfl) (by kernel_rfl)
theorem ca_UOffsetTFlags_max_val : ClsF (KK P) 146 "max_val" (.int (4294967295) 438) := .of (by kernel_rfl) (by kernel_rfl) (by kernel_rfl)
theorem ca_UOffsetTFlags_py_type : ClsT (KK P) 146 "py_type" "int" := .of (by kernel_rfl) (by kernel_rfl) (by kernel_rfl) (by kernel_rfl)
theorem ga_UOffsetTFlags : specialIn (KK P) (.ref 146) "__getattribute__" = some (some (.builtin "type.__getattribute__")) := by kernel_rfl
theorem ca_UOffsetTFlags_packer_type : ClsF (KK P) 146 "packer_type" (.ref 52) := .of (by kernel_rfl) (by kernel_rfl) (by kernel_rfl)
theorem ca_Builder_MAX_BUFFER_SIZE : ClsF (KK P) 622 "MAX_BUFFER_SIZE" (.int (2147483648) 686) := .of (by kernel_rfl) (by kernel_rfl) (by kernel_rfl)
end
end Mine
end

section
open PySem PySem.W PySem.Calls PyProof.Rows
set_option Elab.async false
namespace Mine
def al (len ad sz : Nat) : Nat := (sz - (len + ad) % sz) % sz
theorem al_lt {len ad sz : Nat} (h : 0 < sz) : al len ad sz < sz := Nat.mod_lt _ h
theorem al_zero {len ad sz : Nat} (h : 0 < sz) : (len + ad + al len ad sz) % sz = 0 := by
  unfold al
  have h1 := Nat.mod_lt (len + ad) h
  by_cases e : (len + ad) % sz = 0
  · rw [e, Nat.sub_zero, Nat.mod_self, Nat.add_zero, e]
  · rw [Nat.mod_eq_of_lt (a := sz - (len + ad) % sz) (by omega)]
    have h2 := Nat.div_add_mod (len + ad) sz
    have : len + ad + (sz - (len + ad) % sz) = sz * ((len + ad) / sz + 1) := by rw [Nat.mul_add, Nat.mul_one]; omega
    rw [this, Nat.mul_mod_right]
theorem al_done {len ad sz : Nat} (h : (len + ad) % sz = 0) : al len ad sz = 0 := by
  unfold al; rw [h, Nat.sub_zero, Nat.mod_self]
theorem al_step {len ad sz : Nat} (h : 0 < sz) (e : (len + ad) % sz ≠ 0) : al len ad sz = al (len + 1) ad sz + 1 := by
  have h1 := Nat.mod_lt (len + ad) h
  have h3 : (len + 1 + ad) % sz = if (len + ad) % sz + 1 = sz then 0 else (len + ad) % sz + 1 := by
    have h2 := Nat.div_add_mod (len + ad) sz
    split
    · rename_i e2
      have : len + 1 + ad = sz * ((len + ad) / sz + 1) := by rw [Nat.mul_add, Nat.mul_one]; omega
      rw [this, Nat.mul_mod_right]
    · have : len + 1 + ad = (len + ad) % sz + 1 + sz * ((len + ad) / sz) := by omega
      rw [this, Nat.add_mul_mod_self_left, Nat.mod_eq_of_lt (by omega)]
  unfold al
  rw [h3, Nat.mod_eq_of_lt (a := sz - (len + ad) % sz) (by omega)]
  split
  · rename_i e2; rw [Nat.sub_zero, Nat.mod_self]; omega
  · rw [Nat.mod_eq_of_lt (a := sz - ((len + ad) % sz + 1)) (by omega)]; omega
theorem band_eq (a : Int) (k : Nat) : Builtin.bitAnd a ((2 ^ k : Nat) - 1 : Int) = a % (2 ^ k : Nat) := by
  have hp : 0 < 2 ^ k := Nat.two_pow_pos k
  have hy : (0 : Int) ≤ (2 ^ k : Nat) - 1 := by omega
  have ht : (((2 ^ k : Nat) : Int) - 1).toNat = 2 ^ k - 1 := by omega
  unfold Builtin.bitAnd
  rw [show decide ((0 : Int) ≤ (2 ^ k : Nat) - 1) = true by simpa using hy]
  by_cases h : 0 ≤ a
  · rw [show decide (0 ≤ a) = true by simpa using h]
    simp only [ht]
    rw [Nat.and_two_pow_sub_one_eq_mod]
    have : a = (a.toNat : Int) := by omega
    rw [this]; simp
  · rw [show decide (0 ≤ a) = false by simpa using h]
    simp only [ht]
    rw [Nat.and_comm, Nat.and_two_pow_sub_one_eq_mod]
    unfold Builtin.bitNot
    obtain ⟨m, rfl⟩ : ∃ m : Nat, a = -(m : Int) - 1 := ⟨(-a - 1).toNat, by omega⟩
    have e1 : (-(-(m : Int) - 1) - 1).toNat = m := by omega
    rw [e1]
    have h2 := Nat.div_add_mod m (2 ^ k)
    have h1 := Nat.mod_lt m hp
    generalize 2 ^ k = q at *
    have e2 : (-(m : Int) - 1) = ((q : Int) - 1 - ((m % q : Nat) : Int)) + (q : Int) * (-((m / q : Nat) : Int) - 1) := by
      rw [Int.mul_sub, Int.mul_neg, Int.mul_one, ← Int.natCast_mul]
      omega
    rw [e2, Int.add_mul_emod_self_left, Int.emod_eq_of_lt (by omega) (by omega)]
theorem al_int (len ad k : Nat) : (-((len : Int) + ad)) % (2 ^ k : Nat) = (al len ad (2 ^ k) : Nat) := by
  have hp : 0 < 2 ^ k := Nat.two_pow_pos k
  have h0 := al_zero (len := len) (ad := ad) hp
  have h1 := al_lt (len := len) (ad := ad) hp
  generalize 2 ^ k = q at *
  have h2 := Nat.div_add_mod (len + ad + al len ad q) q
  have e : -((len : Int) + ad) = (al len ad q : Nat) + (q : Int) * (-(((len + ad + al len ad q) / q : Nat) : Int)) := by
    rw [Int.mul_neg, ← Int.natCast_mul]
    omega
  rw [e, Int.add_mul_emod_self_left, Int.emod_eq_of_lt (by omega) (by omega)]
end Mine
end

section
open PySem PySem.W PySem.Calls PyProof.Rows
set_option Elab.async false
set_option maxRecDepth 100000
namespace Mine
section
variable {M : Model} {Γ : Ctx} {n : Nat} {h : Heap} {g : Array GenState} {d : Drawn} {t : Nat} {os : OsState} {env : Env} {K : Frag} {mg mb : Str → Option Value} {I : PH} {vs : Vs} {Mu : List (Addr × Obj)} {pos : Pos} {Q : Value → Shared → Prop}
theorem go_K1k {f : Value} {first : List Value} {name : Str} {ke : Expr} {kp : Pos} (o : Ok n Γ) (G : Gl K mg mb I) (hk : keepIn K f = true) {e : Expr} {rest : List Expr} (he : starEach (e :: rest) env = (false, eval e env) :: starEach rest env) (hplain : (backTo pos (starEach rest env)).any (·.1) = false)
    (hq : wpG M Γ (spliced (backTo pos (starEach (e :: rest) env))) (fun vs s₁ => wpG M Γ (eval ke env) (fun kv s₂ => K.In s₂.heap ∧ wpG M Γ (call f (first ++ vs) [(name, kv)]) Q s₂) s₁) ⟨h, g, d, t, os⟩) :
    wpG M Γ (callWith pos f first (backTo pos (starEach (e :: rest) env)) (backToKw pos (keywordEach [⟨some name, ke, kp⟩] env))) Q ⟨h, g, d, t, os⟩ := by
  rw [he] at hq ⊢
  refine gc_of o (P := K.In) (by show ((false || (backTo pos (starEach rest env)).any (·.1)) || (false || false)) = false; rw [hplain]; rfl) (keeps_K hk) ?_
  unfold evalArgs
  show wpG M Γ (spliced (backTo pos ((false, eval e env) :: starEach rest env)) >>= _) _ _
  refine g_bind (g_mono hq fun vs s' h' => g_bind (g_pure (g_holding ?_)))
  refine g_tt rfl ?_
  refine g_bind (g_bind (g_bind (g_mono h' fun kv s₂ h₂ => g_at (g_pure (g_bind (g_holding (g_pure (a := []) (g_pure (g_bind (g_pure (g_pure h₂))))))))))) 
end
end Mine
end

section
open PySem PySem.W PySem.Calls PyProof.Rows
set_option Elab.async false
set_option maxRecDepth 100000
namespace Mine
section
variable {prog : Program} {w : World} {Γ : Ctx} {n : Nat} {h : Heap} {g : Array GenState} {d : Drawn} {t : Nat} {os : OsState} {K : Frag} {mg mb : Str → Option Value} {I : PH} {Mu : List (Addr × Obj)} {C fI : Addr} {Q : Value → Shared → Prop}
theorem w_tr (C : Addr) (vs : List Value) : (Code.builtin "type.__call__" ⟨.ref C :: vs, []⟩).weight ≤ 2 := Nat.le_of_ble_eq_true (by kernel_rfl)
theorem u_tr (C : Addr) (vs : List Value) : (Code.builtin "type.__call__" ⟨.ref C :: vs, []⟩).cUnits ≤ 10 := Nat.le_of_ble_eq_true (by kernel_rfl)
set_option maxHeartbeats 4000000 in
theorem g_make (o : Ok (n + 4) Γ) (G : Gl K mg mb I) (S : Hp I Mu h) (hm : makesIn K C = true) (hi : findIn K (.ref C) "__init__" = some (some (.ref fI))) (hf : typeIn K (.ref fI) = some (.type "function")) {rest : List Value}
    (hin : ∀ Γ' R' x dx J h', Γ'.code = .call (.ref fI) ⟨.ref x :: rest, []⟩ → OkB (n + 2) Γ' → Gl K mg mb J → Le I J → J dx = some (dictOf [] 0) → Hp J ((x, InstO C dx []) :: Mu) h' → (∀ s, Q (.ref x) s → R' (.ok (.ret .none)) s) → codeG (model prog w) Γ' R' ⟨h', g, d, t, os⟩) :
    wpG (model prog w) Γ (call (.ref C) rest []) Q ⟨h, g, d, t, os⟩ := by
  have X : K.In h := G.kin S.imm
  have Y := makes_of (M := model prog w) X hm
  have Y' := Y
  have hin' := looks_findIn (M := model prog w) X hi
  have hb := fun self => bind_fn (M := model prog w) X self hf
  obtain ⟨⟨oc, od, cd, sl, hC, e1, e2, e4⟩, made, base, self, top, call, typ⟩ := Y
  refine g_call o fun Γ' hc o' => codeG_of_tree ?_
  rw [hc]
  have oc' : Ok (n + 3) Γ' := o'.ok (by rw [hc]; exact Nat.le_of_ble_eq_true rfl) (by rw [hc]; exact Nat.le_of_ble_eq_true rfl)
  show wpG _ _ (callAny (.ref C) _) _ _
  refine g_leaf oc' ?_
  refine nd_load hC ?_
  show wpAny _ _ (callAny.viaDunder (.ref C) _) _ _ _
  unfold callAny.viaDunder
  refine wpAny_bind (call.at ?_)
  dsimp only
  rw [tc_bind]
  refine wpAny_bind (wpAny_pure (wpAny_bind (wpAny_pure ?_)))
  refine wpAny_pure (a := Fin.again (.call (.builtin "type.__call__") ⟨.ref C :: rest, []⟩)) (And.intro rfl ?_)
  have o1 : OkB (n + 4) (Γ'.goto (.call (.builtin "type.__call__") ⟨.ref C :: rest, []⟩)) := o'.goto _ rfl
  have o1' : Ok (n + 3) (Γ'.goto (.call (.builtin "type.__call__") ⟨.ref C :: rest, []⟩)) := o1.ok (Nat.le_of_ble_eq_true rfl) (Nat.le_of_ble_eq_true rfl)
  refine codeG_callbi o1' rfl (fun Q hQ => check_slot tc_kind tc_split typ (tc_args _ _ _) hQ) (q_tc _) ?_
  have o2 : Ok (n + 3) ((Γ'.goto (.call (.builtin "type.__call__") ⟨.ref C :: rest, []⟩)).goto (.builtin "type.__call__" ⟨.ref C :: rest, []⟩)) := (o1.goto _ (n_tc _)).ok (w_tr _ _) (u_tr _ _)
  refine codeG_bi entry_type_call rfl ?_
  generalize (Γ'.goto (.call (.builtin "type.__call__") ⟨.ref C :: rest, []⟩)).goto (.builtin "type.__call__" ⟨.ref C :: rest, []⟩) = Γ₂ at o2 ⊢
  have hmr : Looks (model prog w) h (mroOf (.ref C)) cd.mro := ((Looks.ld (part := none) hC).andThen .now).andThen .now
  unfold Builtin.«type.__call__»
  dsimp only
  refine g_ff Bool.false_ne_true ?_
  refine g_bind (g_leaf o2 (hmr.here ?_))
  refine g_ff (by rw [e4]; decide) ?_
  refine g_bind (g_leaf o2 (made.here ?_))
  refine g_bind (g_pure ?_)
  refine g_bind (g_holding (g_leaf o2 (wpAny_call (new_K Y' hin' (.inl rfl) ?_))))
  have k : ∀ b o, h.get? b = some o → ((h.push emptyDict).push (instObj C h.objs.size)).get? b = some o := fun b o e => Heap.get?_push_of_some _ (Heap.get?_push_of_some _ e)
  have S1 : Hp I ((h.objs.size, emptyDict) :: Mu) (h.push emptyDict) := S.push emptyDict
  have S2 : Hp I (((h.push emptyDict).objs.size, instObj C h.objs.size) :: (h.objs.size, emptyDict) :: Mu) ((h.push emptyDict).push (instObj C h.objs.size)) := S1.push _
  rw [Heap.size_push] at S2
  have hx := S2.get (.head _)
  have t1 : Looks (model prog w) ((h.push emptyDict).push (instObj C h.objs.size)) (typeOf (.ref (h.objs.size + 1))) (.ref C) := (Looks.ld hx).andThen .now
  have s1 := self.keeps k
  have i1 := hin'.keeps k
  have b1 := (hb (.ref (h.objs.size + 1))).keeps k
  have ii : Looks (model prog w) ((h.push emptyDict).push (instObj C h.objs.size)) (isInstance (.ref (h.objs.size + 1)) (.ref C)) true := t1.andThen s1
  refine g_bind (g_leaf o2 (ii.here ?_))
  refine g_ff (by decide) ?_
  refine g_bind (g_holding ?_)
  unfold callSpecial? specialOf
  refine g_bind (g_leaf o2 ((t1.andThen i1).here ?_))
  dsimp only
  refine g_holding (g_bind (g_leaf o2 (b1.here ?_)))
  dsimp only
  have S3 := Hp.freeze (pre := [_]) S2
  have lj := Le.put (Hp.none_of (pre := [_]) S2) (o := emptyDict)
  refine g_bind ?_
  refine g_call o2 fun Γ₃ hc3 o3 => ?_
  refine hin _ _ _ _ _ _ hc3 (o3.le (by omega)) (G.le lj) lj put_self S3 fun s hs => ?_
  refine g_pure ?_
  refine g_ff (by decide) ?_
  exact g_pure hs
end
end Mine
end

section
open PySem PySem.W PySem.Calls PyProof.Rows
set_option Elab.async false
set_option maxRecDepth 100000
namespace Mine
abbrev LiO (xs : List Value) (n : Nat) : Obj := { cls := .type "list", dict := none, data := .seq xs.toArray n, slots := #[] }
abbrev TuO (xs : List Value) : Obj := { cls := .type "tuple", dict := none, data := .seq xs.toArray 0, slots := #[] }
abbrev ItO (l : Addr) (i : Nat) : Obj := { cls := .type "list_iterator", data := .fields #[.ref l, .int i 0] }
theorem InF.lendJ {I : PH} {env : Env} {vs : Vs} {Mu : List (Addr × Obj)} {h : Heap} (S : InF I env vs Mu h) : ∃ fr, Hp I (Mu ++ [fr]) h ∧ ∀ J Mu' h', Hp J (Mu' ++ [fr]) h' → InF J env vs Mu' h' := by
  obtain ⟨e, oL, f, H⟩ := S
  exact ⟨(env.locals, oL), H.perm (List.perm_append_comm (l₁ := [(env.locals, oL)]) (l₂ := Mu)), fun J Mu' h' H' => ⟨e, oL, f, H'.perm (List.perm_append_comm (l₁ := Mu') (l₂ := [(env.locals, oL)]))⟩⟩
section
variable {prog : Program} {w : World} {Γ : Ctx} {n : Nat} {h : Heap} {g : Array GenState} {d : Drawn} {t : Nat} {os : OsState} {env : Env} {K : Frag} {mg mb : Str → Option Value} {I : PH} {vs vs' : Vs} {Mu Mu' : List (Addr × Obj)} {pos : Pos} {Q : Value → Shared → Prop} {l b : Addr} {xs ys : List Value} {e e2 : Nat} {k a c : Int} {u u2 : Tok}
theorem li_is (hl : h.get? l = some (LiO xs e)) : h.IsList l xs.toArray := ⟨_, hl, rfl, e, rfl⟩
theorem tu_is (hl : h.get? l = some (TuO xs)) : IsTup h l xs.toArray := ⟨_, hl, rfl, 0, rfl⟩
theorem it_is {i : Nat} (hl : h.get? b = some (ItO l i)) : h.IsListIter b l i := ⟨_, hl, rfl, rfl⟩
theorem go_list (o : Ok n Γ) (S : InF I env vs Mu h) (hz : xs.length ≤ sizeLine) (hq : ∀ x h', InF I env vs ((x, LiO xs 0) :: Mu) h' → Q (.ref x) ⟨h', g, d, t, os⟩) : wpG (model prog w) Γ (newList xs) Q ⟨h, g, d, t, os⟩ :=
  g_leaf o (wpAny_newList (hq _ _ (S.push _)) hz)
theorem go_tuple (o : Ok n Γ) (S : InF I env vs Mu h) (hz : xs.length ≤ sizeLine) (hq : ∀ x h', InF I env vs ((x, TuO xs) :: Mu) h' → Q (.ref x) ⟨h', g, d, t, os⟩) : wpG (model prog w) Γ (newTuple xs) Q ⟨h, g, d, t, os⟩ :=
  g_leaf o (wpAny_newTuple (hq _ _ (S.push _)) hz)
theorem go_getL {value slice : Expr} {v : Value} (o : Ok n Γ) (hl : h.get? l = some (LiO xs e)) (h0 : 0 ≤ k) (h1 : k < 2 ^ 63) (hx : xs[k.toNat]? = some v)
    (hs : subscripted slice false (.ref l) (.int k u) = operate [.ref l, .int k u] (getItem (.ref l) (.int k u))) (hq : Q v ⟨h, g, d, t, os⟩) : wpG (model prog w) Γ (subscriptTail value slice (.ref l) (.int k u)) Q ⟨h, g, d, t, os⟩ := by
  refine g_leaf o (kba_turn (value' := .Name (Str.ofString "x") default) (fun r => rfl) ?_)
  exact subscriptTail_ops (s := ⟨h, g, d, t, os⟩) (li_is hl).typeIs slot_list_getitem.lookup (wpAny_getItem_list (s := ⟨h, g, d, t, os⟩) (li_is hl) h0 h1 (by rw [List.getElem?_toArray]; exact hx) hq) hs (fun r => rfl)
theorem go_getLn {value slice : Expr} {v : Value} (o : Ok n Γ) (hl : h.get? l = some (LiO xs e)) (h0 : k < 0) (h1 : -(xs.length : Int) ≤ k) (h2 : -(2 ^ 63) ≤ k) (hx : xs[(k + xs.length).toNat]? = some v)
    (hs : subscripted slice false (.ref l) (.int k u) = operate [.ref l, .int k u] (getItem (.ref l) (.int k u))) (hq : Q v ⟨h, g, d, t, os⟩) : wpG (model prog w) Γ (subscriptTail value slice (.ref l) (.int k u)) Q ⟨h, g, d, t, os⟩ := by
  refine g_leaf o (kba_turn (value' := .Name (Str.ofString "x") default) (fun r => rfl) ?_)
  exact subscriptTail_ops (s := ⟨h, g, d, t, os⟩) (li_is hl).typeIs slot_list_getitem.lookup (wpAny_getItem_list_neg (s := ⟨h, g, d, t, os⟩) (li_is hl) h0 h1 h2 (by rw [List.getElem?_toArray]; exact hx) hq) hs (fun r => rfl)
theorem go_getT {value slice : Expr} {v : Value} {j : Nat} (o : Ok n Γ) (hl : h.get? l = some (TuO xs)) (h0 : -(2 ^ 63) ≤ k) (h1 : k < 2 ^ 63) (hj : seqIndex? k xs.length = some j) (hx : xs[j]? = some v)
    (hs : subscripted slice false (.ref l) (.int k u) = operate [.ref l, .int k u] (getItem (.ref l) (.int k u))) (hq : Q v ⟨h, g, d, t, os⟩) : wpG (model prog w) Γ (subscriptTail value slice (.ref l) (.int k u)) Q ⟨h, g, d, t, os⟩ := by
  refine g_leaf o (kba_turn (value' := .Name (Str.ofString "x") default) (fun r => rfl) ?_)
  exact item_tuple (s := ⟨h, g, d, t, os⟩) (tu_is hl) h0 h1 hj (by rw [List.getElem?_toArray]; exact hx) hq hs (fun r => rfl)
theorem go_slL {value slice : Expr} {sl : Addr} {vl vu vst : Value} {lo hi st : Option Int} (o : Ok n Γ) (S : InF I env vs Mu h) (hl : h.get? l = some (LiO xs e)) (hsl : h.get? sl = some (SlO vl vu vst)) (pl : IsPart vl lo) (pu : IsPart vu hi) (ps : IsPart vst st) (h0 : st ≠ some 0) (hz : xs.length < 2 ^ 20)
    (hs : subscripted slice false (.ref l) (.ref sl) = operate [.ref sl, .ref l] (getItem (.ref l) (.ref sl)))
    (hq : ∀ x h', InF I env vs ((x, LiO (slicePick xs.toArray lo hi st).toList 0) :: Mu) h' → Q (.ref x) ⟨h', g, d, t, os⟩) : wpG (model prog w) Γ (subscriptTail value slice (.ref l) (.ref sl)) Q ⟨h, g, d, t, os⟩ := by
  refine g_leaf o (kba_turn (value' := .Name (Str.ofString "x") default) (fun r => rfl) ?_)
  refine subscriptTail_ops (s := ⟨h, g, d, t, os⟩) (li_is hl).typeIs slot_list_getitem.lookup ?_ hs (fun r => rfl)
  exact wpAny_getItem_list_slice (s := ⟨h, g, d, t, os⟩) (li_is hl) ⟨_, hsl, rfl, rfl⟩ pl pu ps h0 (hq _ _ (S.push _)) (by rw [List.size_toArray, sizeLine_eq]; omega)
theorem go_lenL (o : Ok n Γ) (hl : h.get? l = some (LiO xs e)) (hz : xs.length < 2 ^ 20) (hq : ∀ t' k, Q (.int xs.length t') ⟨h, g, d, k, os⟩) : wpG (model prog w) Γ (call (.builtin "len") [.ref l]) Q ⟨h, g, d, t, os⟩ :=
  g_leaf o (call_len_list (s := ⟨h, g, d, t, os⟩) (li_is hl) (by rw [List.size_toArray]; omega) (hq _ _))
theorem go_trL {Q : Bool → Shared → Prop} (o : Ok n Γ) (hl : h.get? l = some (LiO xs e)) (hz : xs.length < 2 ^ 20) (hq : ∀ k, Q (!xs.isEmpty) ⟨h, g, d, k, os⟩) : wpG (model prog w) Γ (truthy (.ref l)) Q ⟨h, g, d, t, os⟩ := by
  refine g_leaf o (wpAny_truthy_list (s := ⟨h, g, d, t, os⟩) (li_is hl) (by rw [List.size_toArray]; omega) ?_)
  rw [show xs.toArray.isEmpty = xs.isEmpty by cases xs <;> rfl]; exact hq _
theorem go_apm {pl : Sem Bool} {Q : Value × List Value → Shared → Prop} (o : Ok n Γ) (hl : h.get? l = some (LiO xs e)) (hq : Q (.builtin "list.append", [.ref l]) ⟨h, g, d, t, os⟩) : wpG (model prog w) Γ (getMethod (.ref l) "append" pl) Q ⟨h, g, d, t, os⟩ :=
  g_leaf o (getMethod_list_append (s := ⟨h, g, d, t, os⟩) hl rfl rfl hq)
theorem go_exm {pl : Sem Bool} {Q : Value × List Value → Shared → Prop} (o : Ok n Γ) (hl : h.get? l = some (LiO xs e)) (hq : Q (.builtin "list.extend", [.ref l]) ⟨h, g, d, t, os⟩) : wpG (model prog w) Γ (getMethod (.ref l) "extend" pl) Q ⟨h, g, d, t, os⟩ :=
  g_leaf o (getMethod_builtin (s := ⟨h, g, d, t, os⟩) ⟨_, hl, rfl⟩ PySem.F.plainAttrs_list PySem.F.slot_list_extend PySem.F.type_list_extend (fun a e => by cases e; exact ⟨_, hl, rfl⟩) hq)
theorem push_li {v : Value} : Obj.mapSeq (fun ys => ys.push v) (LiO xs e) = LiO (xs ++ [v]) (e + 1) := by
  unfold Obj.mapSeq; dsimp only; rw [if_neg (by simp)]; simp
theorem app_li : Obj.mapSeq (fun zs => zs ++ ys.toArray) (LiO xs e) = LiO (xs ++ ys) (if ys = [] then e else e + 1) := by
  unfold Obj.mapSeq; dsimp only; rw [List.append_toArray, List.size_toArray, List.size_toArray, List.length_append]
  by_cases q : ys = []
  · subst q; simp
  · rw [if_neg q, if_neg]
    have := List.length_pos_iff.mpr q
    rw [beq_iff_eq]; omega
theorem go_app {v : Value} (o : Ok n Γ) (S : InF I env vs Mu h) (uu : Ud l (LiO xs e) (LiO (xs ++ [v]) (e + 1)) Mu Mu') (hz : xs.length < 2 ^ 20) (hq : ∀ h', InF I env vs Mu' h' → Q .none ⟨h', g, d, t, os⟩) : wpG (model prog w) Γ (call (.builtin "list.append") [.ref l, v]) Q ⟨h, g, d, t, os⟩ := by
  have hl := S.get uu.mem
  exact g_leaf o (call_meets slot_list_append ⟨_, hl, rfl⟩ entry_list_append (args_list_append _ _) (AutoListH.list_append_list_val_0 l xs.toArray e v (by rw [List.size_toArray, sizeLine_eq]; omega)) ⟨hl, hq _ (S.upd uu push_li)⟩)
theorem go_ext (o : Ok n Γ) (S : InF I env vs Mu h) (uu : Ud l (LiO xs e) (LiO (xs ++ ys) (if ys = [] then e else e + 1)) Mu Mu') (hb : h.get? b = some (LiO ys e2)) (hz : xs.length < 2 ^ 20) (hz2 : ys.length < 2 ^ 20) (hq : ∀ h', InF I env vs Mu' h' → Q .none ⟨h', g, d, t, os⟩) : wpG (model prog w) Γ (call (.builtin "list.extend") [.ref l, .ref b]) Q ⟨h, g, d, t, os⟩ := by
  have hl := S.get uu.mem
  refine g_leaf o (call_meets PySem.F.slot_list_extend ⟨_, hl, rfl⟩ PySem.F.entry_list_extend (PySem.F.args_list_extend_2 _ _) (PySem.AutoSeq1.list_extend_list_list_0 l xs.toArray e b ys.toArray e2 ?_ ?_ ?_) ⟨hl, hb, hq _ (S.upd uu app_li)⟩)
  · simp [Builtin.List.listTooLong, sizeLine_eq]; omega
  · rw [List.size_toArray, sizeLine_eq]; omega
  · rw [List.size_toArray, List.size_toArray, sizeLine_eq]; omega
theorem rep_li {v : Value} : ∀ {k : Nat} {acc : Array Value}, List.foldl (fun x1 x2 => x1 ++ x2) acc (List.replicate k #[v]) = (acc.toList ++ List.replicate k v).toArray
  | 0, acc => by simp
  | k + 1, acc => by rw [List.replicate_succ, List.foldl_cons, rep_li, List.replicate_succ]; simp
theorem go_lmul {v : Value} (o : Ok n Γ) (S : InF I env vs Mu h) (hl : h.get? l = some (LiO [v] e)) (h0 : 0 ≤ k) (h1 : k < 2 ^ 20) (hq : ∀ x h', InF I env vs ((x, LiO (List.replicate k.toNat v) 0) :: Mu) h' → Q (.ref x) ⟨h', g, d, t, os⟩) : wpG (model prog w) Γ (binaryOp .Mult (.ref l) (.int k u)) Q ⟨h, g, d, t, os⟩ := by
  refine g_leaf o (wpAny_binaryOp_repeat_ref (s := ⟨h, g, d, t, os⟩) (T := "list") (U := "int") (by decide) ⟨_, hl, rfl⟩ (fun s' => typeIs_int s' k u) noFill_list_mul PySem.F.fills_int_mul PySem.F.slot_int_rmul repeat_list PySem.F.slot_int_index.lookup
    (call_meets PySem.F.slot_int_rmul (typeIs_int _ k u) PySem.F.entry_int_rmul (PySem.F.args_int_rmul_2 _ _) (int___rmul___int_list k u l [v].toArray e)
      ⟨hl, rfl, ⟨_, hl, rfl⟩, call_meets PySem.F.slot_list_mul ⟨_, hl, rfl⟩ PySem.F.entry_list_mul (PySem.F.args_list_mul_2 _ _)
        (AutoListH.list___mul___list_int_3 l [v].toArray e k u (by simp [Builtin.List.listFitsIndex]; omega) (by simp; omega) (by simp [Builtin.List.listTooLong, sizeLine_eq]; omega))
        ⟨hl, ?_⟩⟩))
  have e1 : (List.foldl (fun x1 x2 => x1 ++ x2) #[] (List.replicate (if [v].toArray.isEmpty = true then 0 else k.toNat) [v].toArray)) = (List.replicate k.toNat v).toArray := by
    rw [if_neg (by simp)]; exact (rep_li (acc := #[])).trans (by simp)
  show Q _ _
  rw [e1]
  exact hq _ _ (S.push (LiO (List.replicate k.toNat v) 0))
theorem go_neE (o : Ok n Γ) (hl : h.get? l = some (LiO xs e)) (hb : h.get? b = some (LiO [] e2)) (hq : Q (.bool (!xs.isEmpty)) ⟨h, g, d, t, os⟩) : wpG (model prog w) Γ (compareOp .NotEq (.ref l) (.ref b)) Q ⟨h, g, d, t, os⟩ := by
  refine g_leaf o ?_
  cases xs with
  | nil => exact PySem.SeqAt.RcNeAt.lists (s := ⟨h, g, d, t, os⟩) (e := fun _ => true) (li_is hl) (li_is hb) rfl A0_units (fun j h1 => nomatch h1) _ _ _ _ hq
  | cons x r => exact PySem.SeqAt.RcNeAt.lists_lengths (s := ⟨h, g, d, t, os⟩) (li_is hl) (li_is hb) (by simp) A0_units _ _ _ _ hq
theorem go_iterL (o : Ok n Γ) (S : InF I env vs Mu h) (hl : h.get? l = some (LiO xs e)) (hq : ∀ it h', InF I env vs ((it, ItO l 0) :: Mu) h' → Q (.ref it) ⟨h', g, d, t, os⟩) : wpG (model prog w) Γ (pyIter (.ref l)) Q ⟨h, g, d, t, os⟩ :=
  g_leaf o (wpAny_pyIter_list (s := ⟨h, g, d, t, os⟩) (li_is hl) (hq _ _ (S.push (ItO l 0))))
theorem go_fdiv (o : Ok n Γ) (h0 : c ≠ 0) (h1 : Builtin.divisionGoesByPylong a c = false) (hq : ∀ t' k, Q (.int (a.fdiv c) t') ⟨h, g, d, k, os⟩) : wpG (model prog w) Γ (binaryOp .FloorDiv (.int a u) (.int c u2)) Q ⟨h, g, d, t, os⟩ :=
  g_leaf o (PySem.AutoIntOps.floordiv_1 (s := ⟨h, g, d, t, os⟩) (by simpa using h0) (by rw [h1]; decide) (hq _ _))
end
end Mine
end

section
open PySem PySem.W PySem.Calls PyProof.Rows
set_option Elab.async false
set_option maxRecDepth 100000
namespace Mine
def ItP (o : Obj) (l : Addr) (i : Nat) : Prop := o.cls = .type "list_iterator" ∧ o.data = .fields #[.ref l, .int i 0]
theorem itp (l : Addr) (i : Nat) : ItP (ItO l i) l i := ⟨rfl, rfl⟩
abbrev RiO (x left step : Int) : Obj := { cls := .type "range_iterator", dict := none, data := .fields #[rawInt x, rawInt left, rawInt step], slots := #[] }
abbrev RaO (a b c : Int) (t u v : Tok) : Obj := { cls := .type "range", dict := none, data := .fields #[.int a t, .int b u, .int c v], slots := #[] }
theorem InF.headAt {I : PH} {env : Env} {vs : Vs} {Mu : List (Addr × Obj)} {h h' : Heap} {a : Addr} {o o' : Obj} (S : InF I env vs ((a, o) :: Mu) h) (hs : Heap.SameBut a h h') (ho : h'.get? a = some o') : InF I env vs ((a, o') :: Mu) h' := S.at_ .head (fun b hb => hs.2 b hb) ho
theorem InF.headOff {I : PH} {env : Env} {vs : Vs} {Mu : List (Addr × Obj)} {h h' : Heap} {a : Addr} {o : Obj} (S : InF I env vs ((a, o) :: Mu) h) (hs : Heap.ExtBut a h h') : InF I env vs Mu h' := by
  obtain ⟨e, oL, f, H⟩ := S
  obtain ⟨n1, n2⟩ := H.ne (pre := [(env.locals, oL)])
  have ha := H.none_of (pre := [(env.locals, oL)])
  have H2 : Hp I ((env.locals, oL) :: Mu) h := H.sub (.cons₂ _ (.cons _ (.refl _)))
  refine ⟨e, oL, f, fun b x q => hs b x (fun z => ?_) (H2.imm b x q), fun p m => ⟨hs _ _ ?_ (H2.mu p m).1, (H2.mu p m).2⟩, H2.nd⟩
  · subst z; rw [ha] at q; cases q
  · rcases List.mem_cons.mp m with rfl | m
    · exact n1 _ (.head _)
    · exact n2 p m
section
variable {prog : Program} {w : World} {Γ : Ctx} {n : Nat} {h : Heap} {g : Array GenState} {d : Drawn} {t : Nat} {os : OsState} {env : Env} {K : Frag} {mg mb : Str → Option Value} {I : PH} {vs vs' : Vs} {Mu Mu' : List (Addr × Obj)} {pos : Pos} {l b it r : Addr} {xs ys : List Value} {e e2 i : Nat} {k a c : Int} {u u2 : Tok} {io : Obj} {v : Value}
theorem go_nextL {Q : Option Value → Shared → Prop} (o : Ok n Γ) (S : InF I env vs ((it, io) :: Mu) h) (hi : ItP io l i) (hl : h.get? l = some (LiO xs e)) (hx : xs[i]? = some v) (hq : ∀ io' h', ItP io' l (i + 1) → InF I env vs ((it, io') :: Mu) h' → Q (some v) ⟨h', g, d, t, os⟩) : wpG (model prog w) Γ (pyNext (.ref it)) Q ⟨h, g, d, t, os⟩ :=
  g_leaf o (wpAny_pyNext_list_item (s := ⟨h, g, d, t, os⟩) ⟨io, S.get (.head _), hi.1, hi.2⟩ (li_is hl) (by rw [List.getElem?_toArray]; exact hx) fun h' ⟨o', ho', hc, hd⟩ hs => hq o' h' ⟨hc, hd⟩ (S.headAt hs ho'))
theorem go_nextLe {Q : Option Value → Shared → Prop} (o : Ok n Γ) (S : InF I env vs ((it, io) :: Mu) h) (hi : ItP io l i) (hl : h.get? l = some (LiO xs e)) (hx : xs[i]? = none) (hq : ∀ h', InF I env vs Mu h' → Q none ⟨h', g, d, t, os⟩) : wpG (model prog w) Γ (pyNext (.ref it)) Q ⟨h, g, d, t, os⟩ :=
  g_leaf o (wpAny_pyNext_list_end (s := ⟨h, g, d, t, os⟩) rfl ⟨io, S.get (.head _), hi.1, hi.2⟩ (li_is hl) (by rw [List.getElem?_toArray]; exact hx) fun h' hs => hq h' (S.headOff hs))
theorem go_nextR {Q : Option Value → Shared → Prop} (o : Ok n Γ) (S : InF I env vs ((it, RiO a k c) :: Mu) h) (hk : 0 < k) (hq : ∀ h' t' k', InF I env vs ((it, RiO (a + c) (k - 1) c) :: Mu) h' → Q (some (.int a t')) ⟨h', g, d, k', os⟩) : wpG (model prog w) Γ (pyNext (.ref it)) Q ⟨h, g, d, t, os⟩ :=
  g_leaf o (wpAny_pyNext_range_item (s := ⟨h, g, d, t, os⟩) (S.get (.head _)) hk fun h' ho hs => hq h' _ _ (S.headAt hs ho))
theorem go_nextRe {Q : Option Value → Shared → Prop} (o : Ok n Γ) (S : InF I env vs ((it, RiO a k c) :: Mu) h) (hk : k ≤ 0) (hq : ∀ h', InF I env vs Mu h' → Q none ⟨h', g, d, t, os⟩) : wpG (model prog w) Γ (pyNext (.ref it)) Q ⟨h, g, d, t, os⟩ :=
  g_leaf o (wpAny_pyNext_range_end (s := ⟨h, g, d, t, os⟩) rfl (S.get (.head _)) hk fun h' hs => hq h' (S.headOff hs))
variable {Q : Value → Shared → Prop}
theorem go_range1 (o : Ok n Γ) (S : InF I env vs Mu h) (hq : ∀ r h' t1 t2 k', InF I env vs ((r, RaO 0 k 1 t1 u t2) :: Mu) h' → Q (.ref r) ⟨h', g, d, k', os⟩) : wpG (model prog w) Γ (call (.type "range") [.int k u]) Q ⟨h, g, d, t, os⟩ :=
  g_leaf o (call_range_1 (s := ⟨h, g, d, t, os⟩) (hq _ _ _ _ _ (S.push (RaO 0 k 1 _ u _))))
theorem it_ri {A : Around} {E : Value → Shared → Prop} {s : Shared} (ho : s.heap.get? it = some (RiO a k c)) (hq : Q (.ref it) s) : wpAny (model prog w) A (pyIter (.ref it)) Q E s := by
  have hT : s.TypeIs (.ref it) "range_iterator" := ⟨_, ho, rfl⟩
  refine wpAny_pyIter_slot hT PySem.F.slot_range_iterator_iter (wpAny_call_entry PySem.F.slot_range_iterator_iter hT PySem.F.entry_range_iterator_iter ?_ (PySem.F.args_range_iterator_iter_1 _))
  show wpAny _ _ (ret (.ref it)) _ _ s
  exact wpAny_pure ⟨_, rfl, "range_iterator", _, hT, PySem.F.slot_range_iterator_next.lookup, hq⟩
theorem go_iterR (o : Ok n Γ) (ho : h.get? it = some (RiO a k c)) (hq : Q (.ref it) ⟨h, g, d, t, os⟩) : wpG (model prog w) Γ (pyIter (.ref it)) Q ⟨h, g, d, t, os⟩ := g_leaf o (it_ri (s := ⟨h, g, d, t, os⟩) ho hq)
end
section
variable {prog : Program} {w : World} {A : Around} {E : Value → Shared → Prop} {s : Shared} {r : Addr} {k : Int} {t u v : Tok} {Q : Value → Shared → Prop}
theorem ra_size (h0 : 0 ≤ k) : Builtin.Range.rangeSize 0 k 1 = k := by rw [rangeSize_nat]; omega
theorem ra_rev (hr : s.heap.get? r = some (RaO 0 k 1 t u v)) (h0 : 0 ≤ k) (h1 : k < 2 ^ 20) (h : Q (.ref s.heap.objs.size) { s with heap := s.heap.push (RiO (k - 1) k (-1)) }) : wpAny (model prog w) A (call (.builtin "range.__reversed__") [.ref r]) Q E s := by
  have hT : s.TypeIs (.ref r) "range" := ⟨_, hr, rfl⟩
  refine wpAny_call_entry PySem.F.slot_range_reversed hT PySem.F.entry_range_reversed ?_ (PySem.F.args_range_reversed_1 _)
  unfold Builtin.«range.__reversed__»
  refine wpAny_bind (wpAny_of_eq (a := Value.ref r) rfl ?_)
  have f0 : Builtin.Range.rangeFitsLong 0 = true := by decide
  have f1 : Builtin.Range.rangeFitsLong 1 = true := by decide
  have f2 : Builtin.Range.rangeFitsLong (-1) = true := by decide
  have f3 : Builtin.Range.rangeFitsLong (0 - 1) = true := by decide
  have fk : Builtin.Range.rangeFitsLong k = true := by unfold Builtin.Range.rangeFitsLong; simp; omega
  have hs := ra_size h0
  unfold Builtin.Range.rangeFields
  wp_walk
  rw [hs, f0, f1, f2, f3, fk]
  have e1 : 0 + (k - 1) * 1 = k - 1 := by omega
  rw [e1]
  exact ⟨_, rfl, h⟩
theorem code_rev (hr : s.heap.get? r = some (RaO 0 k 1 t u v)) (h0 : 0 ≤ k) (h1 : k < 2 ^ 20) {Q₁ : Value → Shared → Prop}
    (h : Q₁ (.ref s.heap.objs.size) { s with heap := s.heap.push (RiO (k - 1) k (-1)) }) :
    codeAny (model prog w) A (.call (.builtin "reversed.__new__") ⟨[.type "reversed", .ref r], []⟩) (wants Q₁ E) s := by
  have hT : s.TypeIs (.ref r) "range" := ⟨_, hr, rfl⟩
  refine codeAny_of_tree ?_
  show wpAny _ A.in1 (do checkBuiltinCall "reversed.__new__" ⟨[.type "reversed", .ref r], []⟩; again (.builtin "reversed.__new__" ⟨[.type "reversed", .ref r], []⟩)) _ _ s
  refine wpAny_bind (wpAny_of_eq (PySem.F.newCall_reversed_1 _) (wpAny_pure ⟨plainId_quiet PySem.F.plain_reversed_new _, codeAny_builtin PySem.F.entry_reversed_new ?_⟩))
  rw [Around.under_plainId PySem.F.plain_reversed_new _]
  unfold Builtin.«reversed.__new__»
  refine wpAny_bind (wpAny_of_eq (PySem.newClass_reversed _) ?_)
  try dsimp only
  refine wpAny_bind (wpAny_of_eq (a := ()) (by first | rfl | kernel_rfl) ?_)
  refine wpAny_bind (wpAny_of_eq (a := ()) (by first | rfl | kernel_rfl) ?_)
  try dsimp only
  refine wpAny_bind (wpAny_specialOf hT PySem.F.slot_range_reversed.lookup ?_)
  try dsimp only
  refine wpAny_bind (wpAny_of_eq (PySem.F.slot_range_reversed.bind _) ?_)
  try dsimp only
  first
  | rw [if_neg (show ¬ ((Value.builtin "range.__reversed__" == Value.none) = true) from Bool.false_ne_true)]
  | (show wpAny _ _ (if (Value.builtin "range.__reversed__" == Value.none) = true then _ else _) _ _ _; rw [if_neg (show ¬ ((Value.builtin "range.__reversed__" == Value.none) = true) from Bool.false_ne_true)])
  refine wpAny_bind (wpAny_rule ?_)
  refine wpAny_bind (m := runValue (.call (.builtin "range.__reversed__") ⟨[.ref r], []⟩)) (show wpAny _ _ (call (.builtin "range.__reversed__") [.ref r]) _ _ _ from ra_rev hr h0 h1 ?_)
  first
  | exact wpAny_pure h
  | exact wpAny_bind (wpAny_pure (wpAny_pure h))
theorem sub_ri_reversed : isSubtype (.type "range_iterator") (.type "reversed") = pure false := by rw [isSubtype_type]; kernel_rfl
theorem call_rev (hr : s.heap.get? r = some (RaO 0 k 1 t u v)) (h0 : 0 ≤ k) (h1 : k < 2 ^ 20) (h : Q (.ref s.heap.objs.size) { s with heap := s.heap.push (RiO (k - 1) k (-1)) }) : wpAny (model prog w) A (call (.type "reversed") [.ref r]) Q E s := by
  refine PySem.callType_other (U := "range_iterator") (Q₁ := fun obj s₁ => obj = .ref s.heap.objs.size ∧ s₁ = { s with heap := s.heap.push (RiO (k - 1) k (-1)) }) (by decide +kernel) PySem.F.create_reversed ⟨_, _, PySem.F.mro_reversed⟩ PySem.F.made_reversed sub_ri_reversed (PySem.F.typeCall_reversed_1 _) (code_rev hr h0 h1 ⟨rfl, rfl⟩) ?_
  rintro obj s₁ ⟨rfl, rfl⟩
  exact ⟨⟨_, Heap.get?_push_size _ rfl, rfl⟩, h⟩
end
section
variable {prog : Program} {w : World} {Γ : Ctx} {n : Nat} {h : Heap} {g : Array GenState} {d : Drawn} {t : Nat} {os : OsState} {env : Env} {I : PH} {vs : Vs} {Mu : List (Addr × Obj)} {r : Addr} {k : Int} {t1 u t2 : Tok} {Q : Value → Shared → Prop}
theorem go_rev (o : Ok n Γ) (S : InF I env vs Mu h) (hr : h.get? r = some (RaO 0 k 1 t1 u t2)) (h0 : 0 ≤ k) (h1 : k < 2 ^ 20) (hq : ∀ it h', InF I env vs ((it, RiO (k - 1) k (-1)) :: Mu) h' → Q (.ref it) ⟨h', g, d, t, os⟩) : wpG (model prog w) Γ (call (.type "reversed") [.ref r]) Q ⟨h, g, d, t, os⟩ :=
  g_leaf o (call_rev (s := ⟨h, g, d, t, os⟩) hr h0 h1 (hq _ _ (S.push (RiO (k - 1) k (-1)))))
end
end Mine
end

section
open PySem PySem.W PySem.Calls PyProof.Rows
set_option Elab.async false
set_option maxRecDepth 100000
namespace Mine
theorem InF.extNew {I : PH} {env : Env} {vs : Vs} {Mu : List (Addr × Obj)} {h h' : Heap} (S : InF I env vs Mu h) (hs : Heap.ExtBut h.objs.size h h') : InF I env vs Mu h' := S.keep fun b x q => hs b x (fun z => by subst z; exact absurd (Heap.lt_size q) (Nat.lt_irrefl _)) q
section
variable {prog : Program} {w : World} {Γ : Ctx} {n : Nat} {h : Heap} {g : Array GenState} {d : Drawn} {t : Nat} {os : OsState} {env : Env} {K : Frag} {mg mb : Str → Option Value} {I : PH} {vs vs' vs1 vs2 vs3 : Vs} {Mu Mu' : List (Addr × Obj)} {pos : Pos} {l : Addr} {a b c : Value} {x y z : Str} {p1 p2 p3 : Pos}
theorem go_unp3 {k : Nat} {Q : Unit → Shared → Prop} (o : Ok n Γ) (S : InF I env vs Mu h) (ht : h.get? l = some (TuO [a, b, c])) (u1 : UV x a vs vs1) (u2 : UV y b vs1 vs2) (u3 : UV z c vs2 vs3) (hq : ∀ h' k, InF I env vs3 Mu h' → Q () ⟨h', g, d, k, os⟩) : wpG (model prog w) Γ (assign (.Tuple [.Name x p1, .Name y p2, .Name z p3] k pos) env (.ref l)) Q ⟨h, g, d, t, os⟩ := by
  rw [arm_assign_Tuple]
  refine g_at (g_leaf o (wpAny_unpack_tuple (s := ⟨h, g, d, t, os⟩) rfl (tu_is ht) rfl (by with_unfolding_all rfl) fun h1 hs => ?_))
  show wpAny _ _ (assignInOrder [assign (.Name x p1) env, assign (.Name y p2) env, assign (.Name z p3) env] [a, b, c]) _ _ _
  refine wpAny_assignInOrder_more ?_
  rw [arm_assign_Name]
  refine wpAny_bind (wpAny_standAt (wpAny_bindName (st_L (s := ⟨h1, g, d, t, os⟩) (S.extNew hs) u1 fun h2 S2 => ?_)))
  refine wpAny_assignInOrder_more ?_
  rw [arm_assign_Name]
  refine wpAny_bind (wpAny_standAt (wpAny_bindName (st_L (s := ⟨h2, g, d, t + 1, os⟩) S2 u2 fun h3 S3 => ?_)))
  refine wpAny_assignInOrder_more ?_
  rw [arm_assign_Name]
  refine wpAny_bind (wpAny_standAt (wpAny_bindName (st_L (s := ⟨h3, g, d, t + 1 + 1, os⟩) S3 u3 fun h4 S4 => ?_)))
  exact wpAny_assignInOrder_none (hq _ _ S4)
theorem go_unp2 {k : Nat} {Q : Unit → Shared → Prop} (o : Ok n Γ) (S : InF I env vs Mu h) (ht : h.get? l = some (TuO [a, b])) (u1 : UV x a vs vs1) (u2 : UV y b vs1 vs2) (hq : ∀ h' k, InF I env vs2 Mu h' → Q () ⟨h', g, d, k, os⟩) : wpG (model prog w) Γ (assign (.Tuple [.Name x p1, .Name y p2] k pos) env (.ref l)) Q ⟨h, g, d, t, os⟩ := by
  rw [arm_assign_Tuple]
  refine g_at (g_leaf o (wpAny_unpack_tuple (s := ⟨h, g, d, t, os⟩) rfl (tu_is ht) rfl (by with_unfolding_all rfl) fun h1 hs => ?_))
  show wpAny _ _ (assignInOrder [assign (.Name x p1) env, assign (.Name y p2) env] [a, b]) _ _ _
  refine wpAny_assignInOrder_more ?_
  rw [arm_assign_Name]
  refine wpAny_bind (wpAny_standAt (wpAny_bindName (st_L (s := ⟨h1, g, d, t, os⟩) (S.extNew hs) u1 fun h2 S2 => ?_)))
  refine wpAny_assignInOrder_more ?_
  rw [arm_assign_Name]
  refine wpAny_bind (wpAny_standAt (wpAny_bindName (st_L (s := ⟨h2, g, d, t + 1, os⟩) S2 u2 fun h3 S3 => ?_)))
  exact wpAny_assignInOrder_none (hq _ _ S3)
theorem go_asN {v : Value} {Q : Unit → Shared → Prop} (o : Ok n Γ) (S : InF I env vs Mu h) (u1 : UV x v vs vs1) (hq : ∀ h' k, InF I env vs1 Mu h' → Q () ⟨h', g, d, k, os⟩) : wpG (model prog w) Γ (assign (.Name x p1) env v) Q ⟨h, g, d, t, os⟩ := by
  rw [arm_assign_Name]
  exact g_at (g_bindName (g_leaf o (st_L (s := ⟨h, g, d, t, os⟩) S u1 fun h2 S2 => hq _ _ S2)))
end
section
variable {prog : Program} {w : World} {Γ : Ctx} {n : Nat} {h : Heap} {g : Array GenState} {d : Drawn} {t : Nat} {os : OsState} {a b c : Int} {u u2 : Tok} {Q : Value → Shared → Prop}
theorem go_pow2 (o : Ok n Γ) (h0 : 0 ≤ b) (h1 : b < 2 ^ 20) (hq : ∀ t' k, Q (.int (2 ^ b.toNat) t') ⟨h, g, d, k, os⟩) : wpG (model prog w) Γ (binaryOp .Pow (.int 2 u) (.int b u2)) Q ⟨h, g, d, t, os⟩ := by
  refine g_leaf o ?_
  by_cases e : b = 0
  · subst e; exact PySem.AutoIntOps.pow_0 (s := ⟨h, g, d, t, os⟩) (by decide) (by decide) (hq _ _)
  · refine PySem.AutoIntOps.pow_4 (s := ⟨h, g, d, t, os⟩) h0 (by simpa using e) (by decide) (by decide) ?_ (hq _ _)
    have : Builtin.Int.intBits 2 = 2 := by decide +kernel
    rw [this]; unfold Builtin.Int.intTooBig; simp [bitsLine]; omega
theorem go_pow256 (o : Ok n Γ) (h0 : 0 ≤ b) (h1 : b < 2 ^ 20) (hq : ∀ t' k, Q (.int (256 ^ b.toNat) t') ⟨h, g, d, k, os⟩) : wpG (model prog w) Γ (binaryOp .Pow (.int 256 u) (.int b u2)) Q ⟨h, g, d, t, os⟩ := by
  refine g_leaf o ?_
  by_cases e : b = 0
  · subst e; exact PySem.AutoIntOps.pow_0 (s := ⟨h, g, d, t, os⟩) (by decide) (by decide) (hq _ _)
  · refine PySem.AutoIntOps.pow_4 (s := ⟨h, g, d, t, os⟩) h0 (by simpa using e) (by decide) (by decide) ?_ (hq _ _)
    have : Builtin.Int.intBits 256 = 9 := by decide +kernel
    rw [this]; unfold Builtin.Int.intTooBig; simp [bitsLine]; omega
theorem go_fdivS (o : Ok n Γ) (h0 : 0 < c) (h1 : c.natAbs.log2 < 9000) (hq : ∀ t' k, Q (.int (a.fdiv c) t') ⟨h, g, d, k, os⟩) : wpG (model prog w) Γ (binaryOp .FloorDiv (.int a u) (.int c u2)) Q ⟨h, g, d, t, os⟩ :=
  go_fdiv o (by omega) (PyProof.noPylong_of_log2 h1) hq
end
end Mine
end

section
open PySem PySem.W PySem.Calls PyProof.Rows
set_option Elab.async false
set_option maxRecDepth 100000
namespace Mine
theorem lk_ab : typeLookup (.type "bytearray") (Str.ofString "__bytes__") = pure none := by rw [typeLookup_type, builtinLookup_eq_fast]; kernel_rfl
theorem lk_ai : typeLookup (.type "bytearray") (Str.ofString "__index__") = pure none := by rw [typeLookup_type, builtinLookup_eq_fast]; kernel_rfl
theorem lk_abu : typeLookup (.type "bytearray") (Str.ofString "__buffer__") = pure (some (.builtin "bytearray.__buffer__")) := by rw [typeLookup_type, builtinLookup_eq_fast]; kernel_rfl
theorem lk_arb : typeLookup (.type "bytearray") (Str.ofString "__release_buffer__") = pure (some (.builtin "bytearray.__release_buffer__")) := by rw [typeLookup_type, builtinLookup_eq_fast]; kernel_rfl
theorem ew_ab : ("bytearray.__buffer__").endsWith ("." ++ "__buffer__") = true := by decide +kernel
theorem dr_ab : ("bytearray.__buffer__").dropRight ("__buffer__".length + 1) = "bytearray" := by decide +kernel
theorem ew_ar : ("bytearray.__release_buffer__").endsWith ("." ++ "__release_buffer__") = true := by decide +kernel
theorem dr_ar : ("bytearray.__release_buffer__").dropRight ("__release_buffer__".length + 1) = "bytearray" := by decide +kernel
theorem sub_ab : isSubtype (.type "bytearray") (.type "bytearray") = pure true := by rw [isSubtype_type]; kernel_rfl
section
variable {prog : Program} {w : World} {A : Around} {E : Value → Shared → Prop} {s : Shared} {a : Addr} {bs : Array UInt8} {Q : Value → Shared → Prop}
theorem ba_bytes_new (ho : s.heap.get? a = some (BaO bs)) (hz : bs.size < 2 ^ 20)
    (h : Q (.bytes bs s.toks) { s with toks := s.toks + 1 }) :
    codeAny (model prog w) A (.call (.builtin "bytes.__new__") ⟨[.type "bytes", .ref a], []⟩) (wants Q E) s := by
  refine codeAny_of_tree ?_
  show wpAny _ A.in1 (do checkBuiltinCall "bytes.__new__" ⟨[.type "bytes", .ref a], []⟩; again (.builtin "bytes.__new__" ⟨[.type "bytes", .ref a], []⟩)) _ _ s
  refine wpAny_bind (wpAny_of_eq (PySem.F.bm_newCall _) (wpAny_pure ⟨plainId_quiet PySem.F.bm_plain _, codeAny_builtin PySem.F.bm_entry ?_⟩))
  rw [Around.under_plainId PySem.F.bm_plain _]
  have hT : s.TypeIs (.ref a) "bytearray" := ba_type ho
  unfold Builtin.«bytes.__new__»
  refine wpAny_bind (wpAny_of_eq (a := true) rfl ?_)
  refine bm_if_false rfl ?_
  refine wpAny_bind (wpAny_of_eq PySem.F.bm_sub ?_)
  refine bm_if_false rfl ?_
  refine wpAny_bind (wpAny_of_eq (PySem.F.bm_bind _) ?_)
  refine wpAny_bind (wpAny_of_eq (a := ()) rfl ?_)
  refine wpAny_bind (wpAny_of_eq (a := ()) rfl ?_)
  refine bm_if_false rfl ?_
  refine wpAny_bind (wpAny_specialOf hT lk_ab ?_)
  refine wpAny_bind (wpAny_bind ?_)
  show wpAny _ _ (load a >>= _) _ _ _
  refine wpAny_bind (wpAny_load ho ?_)
  refine wpAny_pure (wpAny_pure ?_)
  refine bm_if_false rfl ?_
  refine wpAny_bind (wpAny_specialOf hT lk_ai ?_)
  refine bm_if_true rfl ?_
  first
    | show wpAny _ _ (Builtin.Bytes.buffer? "bytes.__new__" (.ref a) true >>= _) _ _ _
    | (refine wpAny_bind ?_; show wpAny _ _ (Builtin.Bytes.buffer? "bytes.__new__" (.ref a) true >>= _) _ _ _)
  refine wpAny_bind ?_
  unfold Builtin.Bytes.buffer?
  have l1 := lk_abu
  have l2 := lk_arb
  wp_walk
  rw [if_neg (by rw [ew_ab]; decide), dr_ab]
  have l5 := sub_ab
  wp_walk
  rw [if_neg (by rw [ew_ar]; decide), dr_ar]
  wp_walk
  rw [if_neg (by rw [sizeLine_eq]; omega)]
  wp_walk
  exact h
theorem call_bytes_ba (ho : s.heap.get? a = some (BaO bs)) (hz : bs.size < 2 ^ 20) (hQ : Q (.bytes bs s.toks) { s with toks := s.toks + 1 }) : wpAny (model prog w) A (call (.type "bytes") [.ref a]) Q E s := by
  refine callType_codes (Q₁ := fun obj s₁ => s₁.TypeIs obj "bytes" ∧ Q obj s₁) PySem.F.bm_called (PySem.F.bm_typeCall _) PySem.F.entry_object_init
    (ba_bytes_new ho hz ⟨PySem.W.typeIs_bytes _ _ _, hQ⟩) fun obj s₁ h₁ => ?_
  exact ⟨h₁.1, PySem.F.args_object_init_2 obj _, object_init_meets PySem.F.bm_called.init.lookup PySem.F.bm_called.made (by decide) prog w A.in1 _ s₁ ⟨h₁.1, rfl, h₁.2⟩⟩
end
section
variable {prog : Program} {w : World} {Γ : Ctx} {n : Nat} {h : Heap} {g : Array GenState} {d : Drawn} {t : Nat} {os : OsState} {env : Env} {I : PH} {vs : Vs} {Mu M1 : List (Addr × Obj)} {Q : Value → Shared → Prop} {l a : Addr} {xs : List Value} {e : Nat} {bs : Array UInt8} {u u2 : Tok} {b c : Array UInt8} {k : Nat}
theorem go_bytesB (o : Ok n Γ) (ho : h.get? a = some (BaO bs)) (hz : bs.size < 2 ^ 20) (hq : ∀ t' k, Q (.bytes bs t') ⟨h, g, d, k, os⟩) : wpG (model prog w) Γ (call (.type "bytes") [.ref a]) Q ⟨h, g, d, t, os⟩ :=
  g_leaf o (call_bytes_ba (s := ⟨h, g, d, t, os⟩) ho hz (hq _ _))
theorem go_bytesL {ns : List Int} (o : Ok n Γ) (S : InF I env vs Mu h) (hl : h.get? l = some (LiO xs e)) (hi : IntsAre xs ns) (hr : ∀ n ∈ ns, 0 ≤ n ∧ n < 256) (hz : xs.length < 2 ^ 20) (hq : ∀ h' t' k, InF I env vs Mu h' → Q (.bytes (byteArr ns) t') ⟨h', g, d, k, os⟩) : wpG (model prog w) Γ (call (.type "bytes") [.ref l]) Q ⟨h, g, d, t, os⟩ :=
  g_leaf o (call_bytes_ints (s := ⟨h, g, d, t, os⟩) (li_is hl) hi hr (by rw [sizeLine_eq]; omega) rfl fun h' t' k hk => hq h' t' k (S.keep hk))
theorem go_neB (o : Ok n Γ) (hq : Q (.bool (b.toList != c.toList)) ⟨h, g, d, t, os⟩) : wpG (model prog w) Γ (compareOp .NotEq (.bytes b u) (.bytes c u2)) Q ⟨h, g, d, t, os⟩ := g_leaf o (ne_bytes hq)
theorem go_all (o : Ok n Γ) (S : InF I env vs Mu h) (hl : h.get? l = some (LiO (List.replicate k (.bool true)) e)) (hq : ∀ h' k', InF I env vs Mu h' → Q (.bool true) ⟨h', g, d, k', os⟩) : wpG (model prog w) Γ (call (.builtin "all") [.ref l]) Q ⟨h, g, d, t, os⟩ := by
  refine g_leaf o (call_all_walk (wpAny_pyIter_list (s := ⟨h, g, d, t, os⟩) (li_is hl) ?_))
  have S1 := S.push (ItO l 0)
  have hlt : l ≠ h.objs.size := Nat.ne_of_lt (Heap.lt_size hl)
  have h2 := Heap.get?_push_of_some (ItO l 0) hl
  refine ⟨h.objs.size, _, _, _, _, _, fun _ => true, rfl, Walks.list rfl h.objs.size l hlt (List.replicate k (.bool true)).toArray, ⟨⟨_, Heap.get?_push_size _ rfl, rfl, rfl⟩, li_is h2⟩, ?_, ?_⟩
  · intro i v s Q E hP hQ
    have : v = .bool true := by
      rw [List.getElem?_toArray] at hP
      exact (List.mem_replicate.mp (List.mem_of_getElem? hP)).2
    subst this
    exact fun Γ p hΓ => hQ
  · intro h' tk hk
    have := hq h' tk ((S.keep fun b x e => hk b x (by simp; exact fun z => by subst z; exact absurd (Heap.lt_size e) (Nat.lt_irrefl _)) (Heap.get?_push_of_some _ e)))
    rw [show ((List.range ((List.replicate k (Value.bool true)).toArray.size)).all fun _ => true) = true from List.all_eq_true.mpr fun _ _ => rfl]
    exact this
end
end Mine
end

section
open PySem PySem.W PySem.Calls PyProof.Rows
set_option Elab.async false
set_option maxRecDepth 100000
namespace Mine
theorem cells_skip {r : List (Str × NameKind)} : ∀ {l : List (Str × NameKind)} {n : Nat} {acc : List (Str × Addr)}, (∀ x ∈ l, x.2 ≠ .cell) → cellsFrom n (l ++ r) acc = cellsFrom n r acc
  | [], _, _, _ => rfl
  | (x, k) :: l, n, acc, hk => by
    have h1 : (k == NameKind.cell) = false := by rw [beq_eq_false_iff_ne]; exact hk (x, k) (.head _)
    show (if (k == NameKind.cell) = true then cellsFrom (n + 1) (l ++ r) ((x, n) :: acc) else cellsFrom n (l ++ r) acc) = cellsFrom n r acc
    rw [h1]
    exact cells_skip (fun y m => hk y (.tail _ m))
theorem cells_none {l : List (Str × NameKind)} {n : Nat} {acc : List (Str × Addr)} (hk : ∀ x ∈ l, x.2 ≠ .cell) : cellsFrom n l acc = acc := by
  have := cells_skip (r := []) (n := n) (acc := acc) hk
  rw [List.append_nil] at this; exact this
structure FnC (K : Frag) (f : Addr) (fd : FuncData) (body : List Stmt) (lo : List Str) (y1 y2 : Str) (gl : List (Str × Value)) : Prop where
  at_ : ∃ oc od osl, K.lookup f = some ⟨oc, od, .func fd, osl⟩
  code : codeIn K fd.code fd.qualname = true
  body : fd.body = .stmts body
  co : fd.scope.isCoroutine = false
  gen : fd.scope.isGenerator = false
  kind : fd.scope.kind = .function
  clo : fd.closure = []
  cells : ∀ n, cellsFrom n fd.scope.names [] = [(y2, n + 1), (y1, n)]
  k1 : fd.scope.names.lookup y1 = some .cell
  k2 : fd.scope.names.lookup y2 = some .cell
  ne : y1 ≠ y2
  d1 : (y1 == ("__debug__" : Str)) = false
  d2 : (y2 == ("__debug__" : Str)) = false
  glo : fd.globals = mainGlobals
  bui : fd.builtins = builtinsNs
  lond : lo.Nodup
  lok : ∀ x ∈ lo, fd.scope.names.lookup x = some .local ∧ (x == ("__debug__" : Str)) = false
  glk : ∀ p ∈ gl, fd.scope.names.lookup p.1 = some .globalImplicit ∧ (p.1 == ("__debug__" : Str)) = false ∧ Gv K p.1 p.2
theorem FnC.cast {K : Frag} {a : Addr} {fd : FuncData} {b b' : List Stmt} {lo : List Str} {y1 y2 : Str} {gl : List (Str × Value)} (F : FnC K a fd b lo y1 y2 gl) (e : b = b') : FnC K a fd b' lo y1 y2 gl := e ▸ F
theorem FnC.of {K : Frag} {a : Addr} {lo1 lo2 : List Str} {y1 y2 : Str} {gl : List (Str × Value)} (h : isFnAt K a = true) (hcl : (fnAt K a).closure = [])
    (hn : (fnAt K a).scope.names = lo1.map (fun x => (x, .local)) ++ (y1, .cell) :: (y2, .cell) :: (lo2.map (fun x => (x, .local)) ++ gl.map (fun p => (p.1, .globalImplicit))))
    (hc : ndp ((lo1 ++ y1 :: y2 :: (lo2 ++ gl.map (fun p => p.1)) ++ [("__debug__" : Str)]).map cdS) = true) (hg : ∀ p ∈ gl, Gv K p.1 p.2) : FnC K a (fnAt K a) (bodyOf (fnAt K a)) (lo1 ++ lo2) y1 y2 gl := by
  have nd := nodup_of_map (ndp_nodup hc)
  have nd1 := List.nodup_append.mp nd
  have nd2 := List.nodup_append.mp nd1.1
  have keys : ((fnAt K a).scope.names.map (·.1)) = lo1 ++ y1 :: y2 :: (lo2 ++ gl.map (·.1)) := by
    rw [hn]
    simp only [List.map_append, List.map_cons, List.map_map]
    have e1 : ∀ l : List Str, List.map ((fun x : Str × NameKind => x.1) ∘ fun x => (x, NameKind.local)) l = l := fun l => List.map_id _
    rw [e1, e1]; rfl
  have ndk : ((fnAt K a).scope.names.map (·.1)).Nodup := keys ▸ nd1.1
  have dbg : ∀ x ∈ lo1 ++ y1 :: y2 :: (lo2 ++ gl.map (·.1)), (x == ("__debug__" : Str)) = false := fun x m => by
    rw [beq_eq_false_iff_ne]; exact nd1.2.2 x m _ (.head _)
  have ndl : (lo1 ++ lo2).Nodup := by
    have s : List.Sublist (lo1 ++ lo2) (lo1 ++ y1 :: y2 :: (lo2 ++ gl.map (·.1))) := List.Sublist.append (.refl _) (.cons _ (.cons _ (List.sublist_append_left _ _)))
    exact s.nodup nd1.1
  unfold isFnAt at h
  split at h
  · rename_i oc od f osl e
    have ef : fnAt K a = f := by unfold fnAt; rw [e]
    simp only [Bool.and_eq_true, Bool.not_eq_true', beq_iff_eq] at h
    obtain ⟨⟨⟨⟨⟨⟨h1, h2⟩, h3⟩, h4⟩, h5⟩, h6⟩, h7⟩ := h
    refine ⟨⟨oc, od, osl, by rw [ef]; exact e⟩, ef ▸ h1, ?_, ef ▸ h3, ef ▸ h4, ef ▸ h5, hcl, fun n => ?_, ?_, ?_, ?_, dbg y1 (by simp), dbg y2 (by simp), ef ▸ Nat.eq_of_beq_eq_true h6, ef ▸ Nat.eq_of_beq_eq_true h7, ndl, fun x m => ⟨?_, dbg x ?_⟩, fun p m => ⟨?_, dbg p.1 ?_, hg p m⟩⟩
    · rw [ef]
      unfold bodyOf
      split
      · rename_i q; rw [q]
      · rename_i q
        split at h2
        · rename_i b q2; exact absurd q2 (q b)
        · cases h2
    · rw [hn, cells_skip (fun x m => by obtain ⟨y, _, rfl⟩ := List.mem_map.mp m; exact fun e => nomatch e)]
      unfold cellsFrom
      rw [if_pos (by decide)]
      unfold cellsFrom
      rw [if_pos (by decide)]
      refine cells_none fun x m => ?_
      rcases List.mem_append.mp m with m | m
      · obtain ⟨y, _, rfl⟩ := List.mem_map.mp m; exact fun e => nomatch e
      · obtain ⟨y, _, rfl⟩ := List.mem_map.mp m; exact fun e => nomatch e
    · exact lookup_mem ndk (by rw [hn]; simp)
    · exact lookup_mem ndk (by rw [hn]; simp)
    · have := nd2.2.1
      rw [List.nodup_cons] at this
      exact fun q => this.1 (q ▸ .head _)
    · exact lookup_mem ndk (by
        rw [hn]
        rcases List.mem_append.mp m with m | m
        · exact List.mem_append_left _ (List.mem_map.mpr ⟨x, m, rfl⟩)
        · exact List.mem_append_right _ (.tail _ (.tail _ (List.mem_append_left _ (List.mem_map.mpr ⟨x, m, rfl⟩)))))
    · rcases List.mem_append.mp m with m | m <;> simp [m]
    · exact lookup_mem ndk (by rw [hn]; exact List.mem_append_right _ (.tail _ (.tail _ (List.mem_append_right _ (List.mem_map.mpr ⟨p, m, rfl⟩)))))
    · simp only [List.mem_append, List.mem_cons]
      exact .inr (.inr (.inr (.inr (List.mem_map_of_mem m))))
  · cases h
structure CeF (env : Env) (y : Str) (c : Addr) : Prop where
  k : env.kindOf y = some .cell
  c : env.cells.lookup y = some c
  d : (y == ("__debug__" : Str)) = false
section
variable {prog : Program} {w : World} {A : Around} {E : Value → Shared → Prop} {s : Shared}
theorem call_treeC {a : Addr} {args : Args} {o : Obj} {fd : FuncData} {body : List Stmt} {x0 : Str} {v0 : Value} {lo : List Str} {y1 y2 : Str} {gl : List (Str × Value)} {K : Frag} (F : FnC K a fd body lo y1 y2 gl) (hroom : A.depth < recursionLimit) (ho : s.heap.get? a = some o)
    (hd' : o.data = .func fd) (hcd : s.heap.CodeRec fd.code fd.qualname) (hlim : s.heap.NoLimit)
    (hbind : BindsTo s fd args [(x0, v0)]) (hx : x0 ∈ lo) {Q : Fin → Shared → Prop}
    (h : ∀ h₀ t₀, h₀.Ns s.heap.objs.size (fun x => if x = x0 then some v0 else none) → (∀ b x, s.heap.get? b = some x → h₀.get? b = some x) → h₀.IsCell (s.heap.objs.size + 1) none → h₀.IsCell (s.heap.objs.size + 1 + 1) none → Q (.again (.func body (callEnvC fd s.heap.objs.size a))) { s with heap := h₀, toks := t₀ }) :
    wpAny (model prog w) A (callAny (.ref a) args) Q E s := by
  simp only [callAny]
  refine wpAny_bind (wpAny_load ho ?_)
  obtain ⟨c, oc, vs, tq, hc, hoc, hdc, hq⟩ := hcd
  simp only [hd', callFunction, F.co, F.gen, F.body, hc]
  refine wpAny_bind (m := field (.ref c) 1) (wpAny_field hoc hdc hq (wpAny_bind (wpAny_pure ?_)))
  refine wpAny_bind (hbind _ _ _ _ (wpAny_bind ?_))
  rw [F.clo]
  have kx := (F.lok x0 hx).1
  refine wpAny_newFunctionEnv_cells F.kind (fun y m => by rw [List.mem_singleton] at m; subst m; exact .inl kx) fun env' he s' X => ?_
  subst he
  obtain ⟨h₁, tk, e, hk⟩ := X.done
  subst e
  have cs := X.cell
  have ns := X.toInCall.ns
  refine wpAny_bind (wpAny_enterFrame (hlim.keeps hk) hroom (wpAny_pure ?_))
  have hb : bindL (newEnv fd.scope s.heap.objs.size fd.globals (cellsFrom (s.heap.objs.size + 1) fd.scope.names []) (fd.qualname ++ ".<locals>.") (some a) (.ref c) none fd.builtins).kindOf [(x0, v0)] (fun _ => none) = fun x => if x = x0 then some v0 else none := by
    unfold bindL bindL
    exact if_pos kx
  have hb2 : bindC (newEnv fd.scope s.heap.objs.size fd.globals (cellsFrom (s.heap.objs.size + 1) fd.scope.names []) (fd.qualname ++ ".<locals>.") (some a) (.ref c) none fd.builtins).kindOf [(x0, v0)] (fun _ => none) = fun x => none := by
    unfold bindC bindC
    exact if_pos kx
  rw [hb] at ns
  rw [hb2] at cs
  have hce := F.cells (s.heap.objs.size + 1)
  have g1 := cs y1 (s.heap.objs.size + 1) (by
    show (cellsFrom (s.heap.objs.size + 1) fd.scope.names []).lookup y1 = _
    rw [hce, List.lookup_cons, beq_eq_false_iff_ne.mpr F.ne]; simp)
  have g2 := cs y2 (s.heap.objs.size + 1 + 1) (by
    show (cellsFrom (s.heap.objs.size + 1) fd.scope.names []).lookup y2 = _
    rw [hce, List.lookup_cons, beq_self_eq_true])
  have := h h₁ tk ns hk g1 g2
  unfold callEnvC at this
  rw [hc] at this
  exact this
end
section
variable {prog : Program} {w : World} {Γ : Ctx} {n : Nat} {h : Heap} {g : Array GenState} {d : Drawn} {t : Nat} {os : OsState} {env : Env} {I : PH} {vs : Vs} {Mu Mu' : List (Addr × Obj)} {pos : Pos} {y : Str} {c : Addr} {ob : Obj} {v : Value} {v0 : Option Value}
theorem go_nmC {Q : Value → Shared → Prop} (o : Ok n Γ) (S : InF I env vs Mu h) (C : CeF env y c) (m : h.get? c = some ob) (hd : ob.data = .cell (some v)) (hq : Q v ⟨h, g, d, t, os⟩) : wpG (model prog w) Γ (eval (.Name y pos) env) Q ⟨h, g, d, t, os⟩ :=
  g_leaf o (wpAny_Name (wpAny_loadName_cell (s := ⟨h, g, d, t, os⟩) S.ef.fn C.k C.c ⟨ob, m, hd⟩ hq) C.d)
theorem go_stC {Q : Unit → Shared → Prop} (o : Ok n Γ) (S : InF I env vs ((c, ob) :: Mu) h) (C : CeF env y c) (hd : ob.data = .cell v0) (hq : ∀ h' ob', ob'.data = .cell (some v) → InF I env vs ((c, ob') :: Mu) h' → Q () ⟨h', g, d, t, os⟩) : wpG (model prog w) Γ (storeName env y v) Q ⟨h, g, d, t, os⟩ :=
  g_leaf o (wpAny_storeName_cell (s := ⟨h, g, d, t, os⟩) S.ef.fn C.k C.c ⟨ob, S.get (.head _), hd⟩ fun h' ⟨o', ho', hd'⟩ hs => hq h' o' hd' (S.headAt hs ho'))
end
section
variable {prog : Program} {w : World} {Γ : Ctx} {R : Result → Shared → Prop} {h : Heap} {g : Array GenState} {d : Drawn} {t : Nat} {os : OsState} {K : Frag} {mg mb : Str → Option Value} {I : PH} {Mu : List (Addr × Obj)} {f : Addr} {fd : FuncData} {body : List Stmt} {lo unb : List Str} {y1 y2 : Str} {gl : List (Str × Value)} {args : Args} {x0 : Str} {v0 : Value} {n : Nat}
theorem inC (F : FnC K f fd body lo y1 y2 gl) (hb : ∀ S, peek K S (bindArgs fd args) = some [(x0, v0)]) (hlo : x0 :: unb = lo) (hc : Γ.code = .call (.ref f) args) (o : OkB (n + 1) Γ) (G : Gl K mg mb I) (S : Hp I Mu h)
    (k : ∀ Γ' env h' t' c1 c2 o1 o2, Ok n Γ' → CeF env y1 c1 → CeF env y2 c2 → o1.data = .cell none → o2.data = .cell none → InF I env ((x0, some v0) :: unb.map fun y => (y, none)) ((c1, o1) :: (c2, o2) :: Mu) h' → Kg K env gl →
      wpG (model prog w) Γ' (execs body env) (fun fl s' => R (.ok (.ret (match fl with | .ret v => v | _ => .none))) s') ⟨h', g, d, t', os⟩) :
    codeG (model prog w) Γ R ⟨h, g, d, t, os⟩ := by
  obtain ⟨oc, od, osl, hK⟩ := F.at_
  obtain ⟨_, _, hlim⟩ := G.ns h S.imm
  have hkeys : ((x0, some v0) :: unb.map fun y => (y, (none : Option Value))).map (·.1) = lo := by
    rw [List.map_cons, List.map_map, ← hlo]
    congr 1
    exact List.map_id _
  have hx : x0 ∈ lo := hlo ▸ .head _
  have o' : Ok n Γ := o.ok (by rw [hc]; exact Nat.le_of_ble_eq_true rfl) (by rw [hc]; exact Nat.le_of_ble_eq_true rfl)
  refine codeG_of_tree ?_
  rw [hc]
  show wpG _ Γ (callAny (.ref f) args) _ _
  refine g_leaf o' (call_treeC (s := ⟨h, g, d, t, os⟩) F A0_room (S.imm _ _ (G.k _ _ hK)) rfl (codeRec_of (G.kin S.imm) F.code) hlim (fun M A E Q hq => (Looks.of_peek (M := M) (G.kin S.imm) (hb _)).here hq) hx
    fun h₀ t₀ hns hk i1 i2 => ⟨rfl, ?_⟩)
  refine codeG_func (n := n) (o.goto _ rfl) rfl fun o2 => ?_
  have hce := F.cells (h.objs.size + 1)
  have E : EnvF (callEnvC fd h.objs.size f) lo := ⟨F.kind, F.lond, F.lok⟩
  obtain ⟨oL, es, ep, ho, hd, hks, hf⟩ := hns
  obtain ⟨o1, ho1, hd1⟩ := i1
  obtain ⟨o3, ho3, hd3⟩ := i2
  have C1 : CeF (callEnvC fd h.objs.size f) y1 (h.objs.size + 1) := ⟨F.k1, by
    show (cellsFrom (h.objs.size + 1) fd.scope.names []).lookup y1 = _
    rw [hce, List.lookup_cons, beq_eq_false_iff_ne.mpr F.ne]; simp, F.d1⟩
  have C2 : CeF (callEnvC fd h.objs.size f) y2 (h.objs.size + 1 + 1) := ⟨F.k2, by
    show (cellsFrom (h.objs.size + 1) fd.scope.names []).lookup y2 = _
    rw [hce, List.lookup_cons, beq_self_eq_true], F.d2⟩
  refine k _ (callEnvC fd h.objs.size f) h₀ t₀ _ _ o1 o3 o2 C1 C2 hd1 hd3 ⟨hkeys ▸ E, oL, ⟨es, ep, hd, hks, fun y => ?_⟩, ?_⟩ ⟨F.glo, F.bui, fun p m => F.glk p m⟩
  · refine (hf y).trans (Eq.trans ?_ (lookup_binds [(x0, v0)] unb y).symm)
    rw [List.lookup_cons]
    by_cases q : y = x0
    · subst q; rw [beq_self_eq_true]; exact if_pos rfl
    · rw [beq_eq_false_iff_ne.mpr q]; exact if_neg q
  · have P := S.keep hk
    have fr : ∀ j, I (h.objs.size + j) = none := fun j => by
      cases q : I (h.objs.size + j) with
      | none => rfl
      | some o => exact absurd (Heap.lt_size (S.imm _ _ q)) (Nat.not_lt.mpr (Nat.le_add_right _ _))
    refine ⟨P.imm, fun p m => ?_, ?_⟩
    · rcases List.mem_cons.mp m with rfl | m
      · exact ⟨ho, fr 0⟩
      · rcases List.mem_cons.mp m with rfl | m
        · exact ⟨ho1, fr 1⟩
        · rcases List.mem_cons.mp m with rfl | m
          · exact ⟨ho3, fr 2⟩
          · exact P.mu p m
    · have lt : ∀ j, h.objs.size + j ∉ Mu.map (·.1) := fun j m => by
        obtain ⟨p, hp, e⟩ := List.mem_map.mp m
        have := S.lt hp
        rw [e] at this
        exact absurd this (Nat.not_lt.mpr (Nat.le_add_right _ _))
      refine List.nodup_cons.mpr ⟨fun m => ?_, List.nodup_cons.mpr ⟨fun m => ?_, List.nodup_cons.mpr ⟨lt 2, S.nd⟩⟩⟩
      · rcases List.mem_cons.mp m with e | m
        · exact absurd e (by show h.objs.size ≠ h.objs.size + 1; omega)
        · rcases List.mem_cons.mp m with e | m
          · exact absurd e (by show h.objs.size ≠ h.objs.size + 1 + 1; omega)
          · exact lt 0 m
      · rcases List.mem_cons.mp m with e | m
        · exact absurd e (by show h.objs.size + 1 ≠ h.objs.size + 1 + 1; omega)
        · exact lt 1 m
end
end Mine
end

section
open PySem PySem.W PySem.Calls PyProof.Rows
set_option Elab.async false
set_option maxRecDepth 100000
namespace Mine
section
variable (P : Params)
abbrev lo1_law : List Str := ["script", "options", "room", "b", "pile", "numbers", "ways", "grown", "big", "number", "door", "k", "rest", "wider", "target", "width", "x", "root"]
abbrev lo2_law : List Str := ["place"]
abbrev gl_law : List (Str × Value) := [("Builder", .ref 622), ("len", .builtin "len"), ("_law_room", .ref 756), ("_law_up", .ref 742), ("_law_lay", .ref 749), ("max", .builtin "max"), ("_law_widths", .ref 728), ("_law_flags", .ref 735), ("bytes", .type "bytes"), ("Table", .ref 717), ("all", .builtin "all")]
theorem F_law : FnC (KK P) 761 (fnAt (KK P) 761) (pB PW 37) (lo1_law ++ lo2_law) "made" "t" gl_law := FnC.cast (.of (by kernel_rfl) (by kernel_rfl) rfl (by kernel_rfl) (List.forall_mem_cons.mpr ⟨gv_Builder P, List.forall_mem_cons.mpr ⟨gv_len P, List.forall_mem_cons.mpr ⟨gv__law_room P, List.forall_mem_cons.mpr ⟨gv__law_up P, List.forall_mem_cons.mpr ⟨gv__law_lay P, List.forall_mem_cons.mpr ⟨gv_max P, List.forall_mem_cons.mpr ⟨gv__law_widths P, List.forall_mem_cons.mpr ⟨gv__law_flags P, List.forall_mem_cons.mpr ⟨gv_bytes P, List.forall_mem_cons.mpr ⟨gv_Table P, List.forall_mem_cons.mpr ⟨gv_all P, fun _ m => nomatch m⟩⟩⟩⟩⟩⟩⟩⟩⟩⟩⟩)) (by kernel_rfl)
theorem bd_law (v0 : Value) (S : Setting) : peek (KK P) S (bindArgs (fnAt (KK P) 761) ⟨[v0], []⟩) = some ([("script", v0)] : List (Str × Value)) := by kernel_rfl
end
end Mine
end

section
open PySem PySem.W PySem.Calls PyProof.Rows
set_option Elab.async false
set_option maxRecDepth 100000
namespace Mine
section
variable {M : Model} {Γ : Ctx} {n : Nat} {s : Shared} {env : Env}
theorem g_run (o : Ok n Γ) {c : Code} {Q : Flow → Shared → Prop} (hc : noDec c = true)
    (h : ∀ Γ', Γ'.code = c → OkB n Γ' → codeG M Γ' (fun r s' => match r with | .ok f => Q f s' | _ => False) s) : wpG M Γ (run c none) Q s := by
  intro p
  rw [Sem.wp_run]
  refine wpCode_mono ?_ (h (Γ.enter c none p) rfl (o.enter c p hc) p)
  rintro (e | f) s' z <;> exact z
theorem g_comp {elt target iter : Expr} {scope : Scope} {pos : Pos} {cl : List (Str × Addr)} {Q : Value → Shared → Prop} (o : Ok n Γ)
    (hs : ∀ x, foldedSetIterable iter env x = pure x) (hclos : closureFor scope env = pure cl)
    (hkind : scope.kind = .function) (hnames : ∀ x ∈ scope.names, x.2 = .local → scope.names.lookup x.1 = some .local)
    (h : wpG M Γ (eval iter env) (fun x s₁ => wpG M Γ (pyIter x) (fun it s₂ => wpG M Γ (newList []) (fun acc s₃ =>
      wpG M Γ (newFunctionEnv scope env.globals cl [] env.qual none .none (some env)) (fun cenv s₄ =>
        ∀ Γ', Γ'.code = .compStart (.ListComp elt [⟨target, iter, [], 0⟩] scope pos) 0 it acc { cenv with scope := relabel scope env } → OkB n Γ' → codeG M Γ' (fun r s' => match r with
          | .ok _ => ∃ m, s'.heap.Ns cenv.locals m ∧ ∀ h', Heap.SameBut cenv.locals s'.heap h' → Q acc { s' with heap := h' }
          | _ => False) s₄) s₃) s₂) s₁) s) :
    wpG M Γ (eval (.ListComp elt [⟨target, iter, [], 0⟩] scope pos) env) Q s := by
  rw [eval_ListComp]
  unfold comprehension
  rw [hclos]
  show wpG M Γ (eval iter env >>= _) Q s
  refine g_bind (g_mono h fun x s₁ h₁ => ?_)
  refine g_bind (g_standAt ?_)
  show wpG M Γ (foldedSetIterable iter env x >>= _) Q s₁
  rw [hs]
  refine g_bind (g_pure ?_)
  refine g_bind (g_holding (g_mono h₁ fun it s₂ h₂ => ?_))
  show wpG M Γ (newList [] >>= _) Q s₂
  refine g_bind (g_mono h₂ fun acc s₃ h₃ => ?_)
  refine g_bind (g_pure ?_)
  refine g_bind (g_mono h₃ fun cenv s₄ h₄ => ?_)
  have hv : ∀ x ∈ (scope.names.filter fun x => (x.2 == .local || x.2 == .cell) && x.1 != (".0" : Str)).reverse, x.2 = .local →
      Env.kindOf { cenv with scope := relabel scope env } x.1 = some .local := fun x hx hl => lookup_relabel_local (hnames x (List.mem_filter.mp (List.mem_reverse.mp hx)).1 hl)
  dsimp only
  refine g_holding (g_bind (g_attempt (g_holding (g_run o rfl fun Γ' hc o' => codeG_mono (h₄ Γ' hc o') fun r s' hr => ?_))))
  cases r with
  | error e => exact hr
  | ok f =>
    obtain ⟨m, hn, hq⟩ := hr
    dsimp only
    refine g_bind (g_holding (g_leaf o (wpAny_comp_letGo (cenv := { cenv with scope := relabel scope env }) hkind _ s' m hv hn fun h' m' _ hs' => ?_)))
    exact g_pure (hq h' hs')
end
section
variable {prog : Program} {w : World} {Γ : Ctx} {R : Result → Shared → Prop} {s : Shared} {n : Nat} {env : Env}
theorem codeG_comp {elt target iter : Expr} {scope : Scope} {pos : Pos} {it acc : Value} (o : OkB (n + 1) Γ) (hc : Γ.code = .compLoop (.ListComp elt [⟨target, iter, [], 0⟩] scope pos) 0 it acc env) (I : Nat → Shared → Prop)
    (turn : ∀ k s, Ok n Γ → I k s → wpG (model prog w) Γ (pyNext it) (fun r s₁ => match r with
      | none => R (.ok .next) s₁
      | some v => wpG (model prog w) Γ (letOwnedTupleGo target it v) (fun _ s₁' => wpG (model prog w) Γ (assign target env v) (fun _ s₂ => wpG (model prog w) Γ (eval elt env) (fun x s₃ => wpG (model prog w) Γ (call (.builtin "list.append") [acc, x]) (fun _ s₄ => ∃ m, m < k ∧ I m s₄) s₃) s₂) s₁') s₁) s) (k : Nat) (h : I k s) : codeG (model prog w) Γ R s := by
  have o' : Ok n Γ := o.room hc
  induction k using Nat.strongRecOn generalizing s with
  | ind k ih =>
    refine codeG_of_tree ?_
    have hd : (model prog w).den Γ.code = (compTurn (.ListComp elt [⟨target, iter, [], 0⟩] scope pos) 0 it acc env).onRaise (fun x => do noteFrame x env; theTreesLotGoes x) := by rw [hc]; rfl
    rw [hd, compTurn_list1]
    refine g_onRaise (g_at (g_bind (g_mono (turn k s o' h) fun r s₁ hr => ?_)))
    cases r with
    | none => exact g_pure hr
    | some v =>
      refine g_bind (g_mono hr fun _ s₁' h1 => g_bind (g_mono h1 fun _ s₂ h2 => g_bind (g_bind (g_mono h2 fun x s₃ h3 => g_bind (g_mono h3 fun _ s₄ h4 => g_pure ?_)))))
      obtain ⟨m, hm, hI⟩ := h4
      exact g_pure ⟨rfl, by rw [goto_self hc]; exact ih m hm hI⟩
theorem codeG_compStart {elt target iter : Expr} {scope : Scope} {pos : Pos} {it acc : Value} (o : OkB (n + 1) Γ) (hc : Γ.code = .compStart (.ListComp elt [⟨target, iter, [], 0⟩] scope pos) 0 it acc env)
    (h0 : ∀ Γ', Γ'.code = .compLoop (.ListComp elt [⟨target, iter, [], 0⟩] scope pos) 0 it acc env → OkB (n + 1) Γ' → codeG (model prog w) Γ' R s)
    (hi : wpAny (model prog w) A0 (pyIter it) (fun it' s' => it' = it ∧ s' = s) (fun _ _ => False) s) : codeG (model prog w) Γ R s := by
  have o' : Ok n Γ := o.room hc
  refine codeG_of_tree ?_
  have hd : (model prog w).den Γ.code = (compStart (.ListComp elt [⟨target, iter, [], 0⟩] scope pos) 0 it acc env).onRaise (fun x => do noteFrame x env; standAt theWindowsPlace) := by rw [hc]; rfl
  rw [hd]
  have h1 := h0 (Γ.goto (.compLoop (.ListComp elt [⟨target, iter, [], 0⟩] scope pos) 0 it acc env)) rfl (o.goto _ rfl)
  refine g_onRaise (g_leaf o' ?_)
  unfold compStart
  show wpAny _ _ (ask >>= _) _ _ s
  refine wpAny_bind (wpAny_askSetting (wpAny_ite ?_))
  split
  · first
      | exact wpAny_bind (wpAny_pure (wpAny_pure (And.intro rfl h1)))
      | exact wpAny_pure (And.intro rfl h1)
  · first
      | exact wpAny_bind (wpAny_rule (wpAny_bind (wpAny_standAt (wpAny_bind (wpAny_mono hi (fun it' s' h' => by obtain ⟨rfl, rfl⟩ := h'; exact wpAny_pure (And.intro rfl h1)) fun _ _ x => x)))))
      | (refine wpAny_bind (wpAny_rule ?_); show wpAny _ _ (standAt iter.pos >>= _) _ _ s; exact wpAny_bind (wpAny_standAt (wpAny_bind (wpAny_mono hi (fun it' s' h' => by obtain ⟨rfl, rfl⟩ := h'; exact wpAny_pure (And.intro rfl h1)) fun _ _ x => x))))
end
end Mine
end

section
open PySem PySem.W PySem.Calls PyProof.Rows
set_option maxRecDepth 100000
set_option linter.unusedVariables false
namespace Mine

local macro_rules | `(tactic| k_caughtB) => `(tactic| with_reducible (first | exact List.Mem.head _ | (refine' List.Mem.tail _ ?zz; (case zz => k_caughtB))))
local macro_rules | `(tactic| k_caught0) => `(tactic| with_reducible (first | exact UV.head | (refine' UV.tail ?zz; (case zz => k_caught0))))
local macro_rules | `(tactic| k_caughtN0) => `(tactic| with_reducible (first | exact Ud.head | (refine' Ud.tail ?zz; (case zz => k_caughtN0))))
local macro_rules | `(tactic| k_caughtNB) => `(tactic| with_reducible (first | exact Rm1.head | (refine' Rm1.tail ?zz; (case zz => k_caughtNB))))
local macro_rules | `(tactic| k_clsL) => `(tactic| ((with_reducible rename InF _ _ _ _ _ => S0); first | (refine' InF.get S0 ?mm; (case mm => k_caughtB)) | (refine' InF.imm S0 _ _ ?mm; (case mm => assumption))))
local macro_rules | `(tactic| keq_rows) => `(tactic| first | decide | ((try simp only [decide_eq_true_eq, decide_eq_false_iff_not, Bool.not_eq_true', Bool.not_eq_false', Bool.not_true, Bool.not_false, Bool.not_eq_true, Bool.not_eq_false, beq_iff_eq, bne_iff_ne, ne_eq, Bool.and_eq_true, Bool.or_eq_true, beq_eq_false_iff_ne, bne_eq_false_iff_eq, Bool.true_eq_false, Bool.false_eq_true, not_false_eq_true, not_true_eq_false]); omega))
local macro_rules | `(tactic| kct_strs) => `(tactic| first
  | ((with_reducible show wpG _ _ (eval _ _) _ _); (first
  | ((with_reducible show wpG _ _ (eval (Expr.Name _ _) _) _ _); (((with_reducible rename InF _ _ _ _ _ => S0); first
  | ((with_reducible refine' go_nmL (by assumption) S0 ?mm ?_); (case mm => k_caughtB))
  | ((with_reducible refine' go_nmG (by assumption) (by assumption) S0 (by assumption) ?mm ?_); (case mm => k_caughtB)))))
  | ((with_reducible refine go_int ?_); intro _ _)
  | ((with_reducible refine go_bytes ?_); intro _ _)
  | with_reducible refine ge_none ?_
  | with_reducible refine ge_bool ?_
  | ((with_reducible refine go_str ?_); intro _ _)
  | ((with_reducible refine ge_Attr ?he ?ht ?_); (case he => with_unfolding_all rfl); (case ht => intro _ _; with_unfolding_all rfl))
  | with_reducible refine ge_BinOp ?_
  | ((with_reducible refine' ge_CallM0 ?he ?_); (case he => rfl))
  | with_reducible refine ge_CallN0 ?_
  | ((with_reducible refine' ge_CallM ?he ?_); (case he => rfl))
  | with_reducible refine ge_CallN ?_
  | with_reducible refine ge_Sub ?_
  | ((with_reducible refine ge_Compare1 ?hm ?_); (case hm => with_unfolding_all rfl))
  | with_reducible refine ge_UnaryOp ?_
  | with_reducible refine ge_IfExp ?_
  | with_reducible refine ge_Slice ?_
  | with_reducible refine ge_List ?_
  | with_reducible refine ge_Tuple ?_))
  | ((with_reducible show wpG _ _ (exec _ _) _ _); (first
  | with_reducible refine gx_nil ?_
  | with_reducible refine gx_one ?_
  | with_reducible refine gx_cons ?_
  | with_reducible refine gx_If ?_
  | ((with_reducible refine gx_Assign_N ?hs ?_); (case hs => exact rfl))
  | ((with_reducible refine gx_Assign_A ?hs ?_); (case hs => exact rfl))
  | ((with_reducible refine gx_Assign_S ?hs ?_); (case hs => exact rfl))
  | with_reducible refine gx_Aug_N ?_
  | with_reducible refine gx_Return ?_
  | with_reducible refine gx_ReturnN ?_
  | ((with_reducible rename InF _ _ _ _ _ => S0); ((with_reducible refine gx_Expr (InF.ef S0).fn ?hs ?_); (case hs => exact rfl)))
  | with_reducible refine gx_Continue ?_))
  | ((with_reducible show wpG _ _ (execs _ _) _ _); (first
  | with_reducible refine gx_nil ?_
  | with_reducible refine gx_one ?_
  | with_reducible refine gx_cons ?_
  | with_reducible refine gx_If ?_
  | ((with_reducible refine gx_Assign_N ?hs ?_); (case hs => exact rfl))
  | ((with_reducible refine gx_Assign_A ?hs ?_); (case hs => exact rfl))
  | ((with_reducible refine gx_Assign_S ?hs ?_); (case hs => exact rfl))
  | with_reducible refine gx_Aug_N ?_
  | with_reducible refine gx_Return ?_
  | with_reducible refine gx_ReturnN ?_
  | ((with_reducible rename InF _ _ _ _ _ => S0); ((with_reducible refine gx_Expr (InF.ef S0).fn ?hs ?_); (case hs => exact rfl)))
  | with_reducible refine gx_Continue ?_))
  | ((with_reducible show wpG _ _ (isTrue _ _ _) _ _); (first
  | ((with_reducible refine gi_Compare1 ?hm ?_); (case hm => with_unfolding_all rfl))
  | with_reducible refine gi_not ?_
  | with_reducible refine gi_and_nil ?_
  | with_reducible refine gi_and ?_
  | with_reducible refine gi_or_nil ?_
  | with_reducible refine gi_or ?_
  | ((with_reducible refine gi_chain ?hm ?_); (case hm => with_unfolding_all rfl))
  | ((with_reducible refine gi_plain ?he ?_); (case he => rfl))))
  | ((with_reducible show wpG _ _ (spliced _) _ _); (first
  | with_reducible refine ga_nil ?_
  | ((with_reducible refine ga_cons ?he ?_); (case he => rfl))))
  | ((with_reducible show wpG _ _ (callWith _ _ _ _ _) _ _); (first
  | ((with_reducible refine gc_b1 ?he ?hp ?_); (case he => rfl); (case hp => rfl))
  | with_reducible refine gc_b0 ?_
  | ((with_reducible refine gc_t1 ?he ?hp ?_); (case he => rfl); (case hp => rfl))
  | ((with_reducible show wpG _ _ (callWith _ (Value.ref _) _ _ _) _ _); (with_reducible rename InF _ _ _ _ _ => S0); first
    | ((with_reducible refine go_K1 (by assumption) (by assumption) ?kp ?he ?hp ?_); (case kp => k_subL); (case he => rfl); (case hp => rfl))
    | ((with_reducible refine go_K0 (by assumption) (by assumption) S0 ?kp ?_); (case kp => k_subL)))))
  | (first
  | ((with_reducible refine go_add (by assumption) ?_); intro _ _)
  | ((with_reducible refine go_sub (by assumption) ?_); intro _ _)
  | ((with_reducible refine go_bmul (by assumption) ?h1 ?h2 ?_); (case h1 => omega); (case h2 => omega); intro _ _)
  | ((with_reducible refine go_mul (by assumption) ?nz ?_); (case nz => mul_fits); intro _ _)
  | with_reducible refine go_le (by assumption) ?_
  | with_reducible refine go_lt (by assumption) ?_
  | with_reducible refine go_gt (by assumption) ?_
  | with_reducible refine go_ge (by assumption) ?_
  | with_reducible refine go_eq (by assumption) ?_
  | with_reducible refine go_ne (by assumption) ?_
  | with_reducible refine go_isnn (by assumption) ?_
  | with_reducible refine go_isnotnn (by assumption) ?_
  | ((with_reducible refine go_isn (by assumption) ?vv ?_); (case vv => (intro e; cases e)))
  | ((with_reducible refine go_isnotn (by assumption) ?vv ?_); (case vv => (intro e; cases e)))
  | with_reducible refine go_tb ?_
  | with_reducible refine go_tn ?_
  | with_reducible refine go_ti (by assumption) ?_
  | ((with_reducible refine go_and (by assumption) ?_); intro _ _)
  | ((with_reducible refine go_iand (by assumption) ?_); intro _ _)
  | ((with_reducible refine go_iadd (by assumption) ?_); intro _ _)
  | ((with_reducible refine go_isub (by assumption) ?_); intro _ _)
  | ((with_reducible refine go_inv (by assumption) ?_); intro _ _)
  | ((with_reducible refine go_neg (by assumption) ?_); intro _ _)
  | ((with_reducible refine go_mod (by assumption) ?nz ?_); (case nz => first | decide | omega); intro _ _))
  | (((with_reducible rename InF _ _ _ _ _ => S0); first
  | ((with_reducible refine' go_st (by assumption) S0 ?uu ?_); (case uu => k_caught0); intro _ _ S1; clear S0)
  | ((with_reducible refine' go_cls (by assumption) (by assumption) S0 ?ff ?_); (case ff => first | with_reducible assumption | k_places); intro _)
  | ((with_reducible refine' go_slot (by assumption) (by assumption) S0 ?ff ?hx ?hd ?hv ?hh ?_); (case hx => k_clsL); (case ff => krn_off); (case hd => assumption); (case hv => exact rfl); (case hh => exact rfl); intro _)
  | ((with_reducible refine' go_meth (by assumption) (by assumption) S0 ?ff ?hx ?hd ?_); (case hx => k_clsL); (case ff => got_up); (case hd => assumption))
  | ((with_reducible refine' go_set (by assumption) (by assumption) S0 ?ff ?hd ?uu ?hs ?_); (case uu => k_caughtN0); (case ff => krn_off); (case hd => assumption); (case hs => exact rfl); intro _ _ S1; clear S0)
  | ((with_reducible refine' go_gmT (by assumption) (by assumption) S0 ?ff ?gg ?_); (case ff => k_places); (case gg => k_places); intro _)
  | ((with_reducible refine' go_lnL (by assumption) S0 ?mm ?_); (case mm => k_caughtB))))
  | with_reducible refine gv_none ?_
  | with_reducible refine gv_some ?_
  | ((with_reducible rename InF _ _ _ _ _ => S0); (with_reducible refine' go_slice (by assumption) S0 ?_); intro _ _ S1; clear S0)
  | kd_addB
  | with_reducible refine gt_link ?_
  | with_reducible refine gt_last ?_
  | with_reducible refine gt_last' ?_
  | (((with_reducible show Frag.In _ _ ∧ _); (with_reducible rename InF _ _ _ _ _ => S0); refine ⟨Gl.kin (by assumption) (InF.imm S0), ?_⟩))
  | (first | ((with_reducible refine ite_pos ?cc ?_); (case cc => keq_rows)) | ((with_reducible refine ite_neg ?cc ?_); (case cc => keq_rows))))
local macro_rules | `(tactic| k_offL) => `(tactic| repeat (first | kct_strs | (dsimp only [List.nil_append, List.cons_append]; kct_strs)))
local macro_rules | `(tactic| k_subL) => `(tactic| kernel_rfl)
local macro_rules | `(tactic| krn_off) => `(tactic| with_reducible (first | exact sl_Builder_Bytes _ | exact sl_Builder_head _ | exact sl_Builder_minalign _ | exact sl_Builder_finished _ | exact sl_Table_Bytes _ | exact sl_Table_Pos _))
local macro_rules | `(tactic| got_up) => `(tactic| with_reducible (first | exact me_Builder_Head _ | exact me_Builder_Offset _ | exact me_Builder_GrowByteBuffer _ | exact me_Builder_Pad _ | exact me_Builder_Prep _ | exact me_Builder_Place _ | exact me_Builder_PlaceUOffsetT _ | exact me_Builder_Prepend _ | exact me_Builder_PrependUOffsetTRelative _ | exact me_Builder_Finish _ | exact me_BuilderU_Finish _ | exact me_Builder_Output _ | exact me_Table_Indirect _ | exact me_Table_Get _))
local macro_rules | `(tactic| k_places) => `(tactic| with_reducible (first | assumption | exact ca_Builder_MAX_BUFFER_SIZE _))
local macro_rules | `(tactic| kd_addB) => `(tactic| ((with_reducible rename InF _ _ _ _ _ => S0); first
  | ((with_reducible refine' go_lenN (by assumption) S0 ?hm ?hN ?hz ?_); (case hm => k_clsL); (case hN => first | (with_reducible assumption) | exact rfl); (case hz => omega); intro _ _)
  | with_reducible refine go_intc (by assumption) ?_
  | ((with_reducible refine' go_min (by assumption) S0 ?_); intro _ _ _ S1; clear S0)
  | ((with_reducible refine' go_ba (by assumption) S0 ?h0 ?h1 ?_); (case h0 => omega); (case h1 => omega); intro _ _ _ S1; clear S0)))
abbrev Bl (dx ba : Addr) (fin : Bool) (hd : Int) (th : Tok) (ma : Int) (tm : Tok) (vt : Value) : Obj :=
  InstO 622 dx [some (.ref ba), some .none, some (.bool fin), some (.bool false), some (.int hd th), some (.int ma tm), some (.bool false), some .none, some .none, none, some vt]
section
variable {prog : Program} {w : World} {Γ : Ctx} {R : Result → Shared → Prop} {h : Heap} {g : Array GenState} {d : Drawn} {t : Nat} {os : OsState} {mg mb : Str → Option Value} {I : PH} {Mu : List (Addr × Obj)} {P : Params} {B dx ba : Addr} {fin : Bool} {hd ma : Int} {th tm : Tok} {vt : Value} {bs : Array UInt8}
theorem Hp.pick2 {a b c e : Addr × Obj} (S : Hp I (a :: b :: c :: e :: Mu) h) : Hp I (c :: b :: Mu) h := (S.sub (.cons _ (.cons₂ _ (.cons₂ _ (.cons _ (.refl _)))))).perm (.swap _ _ _)
theorem Head_ok (hc : Γ.code = .call (.ref 285) ⟨[.ref B], []⟩) (o : OkB 1 Γ) (G : Gl (KK P) mg mb I) (hdx : I dx = some (dictOf [] 0)) (S : Hp I ((B, Bl dx ba fin hd th ma tm vt) :: Mu) h)
    (k : ∀ h' t', Hp I ((B, Bl dx ba fin hd th ma tm vt) :: Mu) h' → R (.ok (.ret (.int hd th))) ⟨h', g, d, t', os⟩) : codeG (model prog w) Γ R ⟨h, g, d, t, os⟩ := by
  refine inS (F_Builder_Head P) (bd_Builder_Head P _) (unb := []) rfl hc o G S rfl ?_
  intro Γ' env h' t' o' S' kg
  clear S
  dsimp only [List.map, List.append, List.cons_append, List.nil_append] at S'
  refine gx_cons ?_
  k_offL
  exact k _ _ (InF.hp (by assumption))
theorem Offset_ok (hc : Γ.code = .call (.ref 292) ⟨[.ref B], []⟩) (o : OkB 1 Γ) (G : Gl (KK P) mg mb I) (hdx : I dx = some (dictOf [] 0)) (S : Hp I ((B, Bl dx ba fin hd th ma tm vt) :: (ba, BaO bs) :: Mu) h) (hz : bs.size < 2 ^ 20)
    (k : ∀ h' t' tt, Hp I ((B, Bl dx ba fin hd th ma tm vt) :: (ba, BaO bs) :: Mu) h' → R (.ok (.ret (.int (bs.size - hd) tt))) ⟨h', g, d, t', os⟩) : codeG (model prog w) Γ R ⟨h, g, d, t, os⟩ := by
  refine inS (F_Builder_Offset P) (bd_Builder_Offset P _) (unb := []) rfl hc o G S rfl ?_
  intro Γ' env h' t' o' S' kg
  clear S
  dsimp only [List.map, List.append, List.cons_append, List.nil_append] at S'
  refine gx_cons ?_
  k_offL
  exact k _ _ _ (InF.hp (by assumption))
theorem Grow_ok (hc : Γ.code = .call (.ref 278) ⟨[.ref B], []⟩) (o : OkB 6 Γ) (G : Gl (KK P) mg mb I) (hdx : I dx = some (dictOf [] 0)) (S : Hp I ((B, Bl dx ba fin hd th ma tm vt) :: (ba, BaO bs) :: Mu) h) (hz : bs.size < 2 ^ 18)
    (k : ∀ h' t' b2, Hp I ((B, Bl dx b2 fin hd th ma tm vt) :: (b2, BaO (grown bs)) :: Mu) h' → R (.ok (.ret .none)) ⟨h', g, d, t', os⟩) : codeG (model prog w) Γ R ⟨h, g, d, t, os⟩ := by
  refine inS (F_Builder_GrowByteBuffer P) (bd_Builder_GrowByteBuffer P _) (unb := ["msg", "newSize", "bytes2"]) rfl hc o G S rfl ?_
  intro Γ' env h' t' o' S' kg
  clear S
  dsimp only [List.map, List.append, List.cons_append, List.nil_append] at S'
  have hz2 : bs.size < 2 ^ 20 := by omega
  refine gx_cons ?_
  have key : ∀ N : Int, N.toNat = gsz bs.size → lay (Array.replicate N.toNat 0) bs (N - bs.size).toNat N.toNat = grown bs := by
    intro N e
    have : (N - bs.size).toNat = N.toNat - bs.size := by omega
    rw [this, e]; rfl
  by_cases h0 : (bs.size : Int) = 0
  all_goals (
    k_offL
    (with_reducible rename InF _ _ _ _ _ => S0)
    have nd := S0.hp.nd
    simp only [List.map, List.nodup_cons, List.mem_cons, not_or] at nd
    refine' go_setlo (bs := Array.replicate _ 0) (cs := bs) (by assumption) S0 ?u ?hs ?he ?hne ?h0 ?h1 ?hz ?_
    case u => k_caughtN0
    case hs => k_caughtB
    case he => k_caughtB
    case hne => exact nd.2.1.2.1
    case h0 => omega
    case h1 => rw [Array.size_replicate]; omega
    case hz => rw [Array.size_replicate]; omega
    intro _ S1
    clear S0
    k_offL
    (with_reducible rename InF _ _ _ _ _ => S9)
    have S2 := Hp.pick2 S9.hp
    rw [Array.size_replicate, key] at S2
    · exact k _ _ _ S2
    · unfold gsz; split <;> omega)
theorem Grow_img {r : Nat} {tl : List UInt8} (hc : Γ.code = .call (.ref 278) ⟨[.ref B], []⟩) (o : OkB 6 Γ) (G : Gl (KK P) mg mb I) (hdx : I dx = some (dictOf [] 0)) (S : Hp I ((B, Bl dx ba fin hd th ma tm vt) :: (ba, BaO (img r tl)) :: Mu) h) (hl : tl.length ≤ r) (hz : r < 2 ^ 18)
    (k : ∀ h' t' b2, Hp I ((B, Bl dx b2 fin hd th ma tm vt) :: (b2, BaO (img (gsz r) tl)) :: Mu) h' → R (.ok (.ret .none)) ⟨h', g, d, t', os⟩) : codeG (model prog w) Γ R ⟨h, g, d, t, os⟩ :=
  Grow_ok hc o G hdx S (by rw [img_size hl]; omega) fun h' t' b2 S' => k h' t' b2 (by rw [grown_img hl] at S'; exact S')
end

section
variable {prog : Program} {w : World} {Γ : Ctx} {R : Result → Shared → Prop} {h : Heap} {g : Array GenState} {d : Drawn} {t : Nat} {os : OsState} {mg mb : Str → Option Value} {I : PH} {Mu : List (Addr × Obj)} {P : Params} {B dx ba : Addr} {fin : Bool} {hd ma : Int} {th tm : Tok} {vt : Value} {bs : Array UInt8}
theorem lay_same {bs : Array UInt8} {x : Nat} (h : x ≤ bs.size) : lay bs #[] x x = bs := by
  apply Array.ext_getElem?
  intro i
  rw [lay_get (Nat.le_refl _) h (by simp), if_neg (by omega)]
theorem Hp.drop1 {a : Addr × Obj} (S : Hp I (a :: Mu) h) : Hp I Mu h := S.tail
theorem bitNot_eq (a : Int) : Builtin.bitNot a = -a - 1 := by first | rfl | (unfold Builtin.bitNot; omega)
theorem Pad_ok {r : Nat} {tl : List UInt8} {n : Int} {tn : Tok} (hc : Γ.code = .call (.ref 299) ⟨[.ref B, .int n tn], []⟩) (o : OkB 8 Γ) (G : Gl (KK P) mg mb I) (hdx : I dx = some (dictOf [] 0)) (S : Hp I ((B, Bl dx ba fin hd th ma tm vt) :: (ba, BaO (img r tl)) :: Mu) h) (hn : 0 ≤ n) (hh : hd = r - tl.length) (hl : n.toNat + tl.length ≤ r) (hz : r < 2 ^ 18)
    (k : ∀ h' t' th', Hp I ((B, Bl dx ba fin (hd - n) th' ma tm vt) :: (ba, BaO (img r (List.replicate n.toNat 0 ++ tl))) :: Mu) h' → R (.ok (.ret .none)) ⟨h', g, d, t', os⟩) : codeG (model prog w) Γ R ⟨h, g, d, t, os⟩ := by
  refine inS (F_Builder_Pad P) (bd_Builder_Pad P _ _) (unb := ["new_head"]) rfl hc o G S rfl ?_
  intro Γ' env h' t' o' S' kg
  clear S
  dsimp only [List.map, List.append, List.cons_append, List.nil_append] at S'
  have hz2 : (img r tl).size = r := img_size (by omega)
  refine gx_cons ?_
  by_cases h0 : n = 0
  · subst h0
    k_offL
    (with_reducible rename InF _ _ _ _ _ => S9)
    refine k _ _ th ?_
    simp only [Int.sub_zero, Int.toNat_zero, List.replicate_zero, List.nil_append]
    exact S9.hp
  · k_offL
    (with_reducible rename InF _ _ _ _ _ => S0)
    refine' go_setlohi (n := 0) (bs := img r tl) (cs := Array.replicate n.toNat 0) (Ok.le (by assumption) (by decide)) S0 ?u ?hs ?h0 ?h1 ?h2 ?hz ?_
    case u => k_caughtN0
    case hs => k_caughtB
    case h0 => omega
    case h1 => rw [Array.size_replicate]; omega
    case h2 => rw [hz2]; omega
    case hz => rw [Array.size_replicate, hz2]; omega
    intro _ _ S1
    clear S0
    k_offL
    (with_reducible rename InF _ _ _ _ _ => S9)
    have S2 := Hp.drop1 S9.hp
    rw [pad_img hl (by omega) (by omega)] at S2
    exact k _ _ _ S2
theorem Prep_ok {r : Nat} {tl : List UInt8} {sz ad : Int} {ts ta : Tok} (hc : Γ.code = .call (.ref 306) ⟨[.ref B, .int sz ts, .int ad ta], []⟩) (o : OkB 10 Γ) (G : Gl (KK P) mg mb I) (hdx : I dx = some (dictOf [] 0)) (S : Hp I ((B, Bl dx ba fin hd th ma tm vt) :: (ba, BaO (img r tl)) :: Mu) h)
    (h1 : 0 < sz) (h2 : sz ≤ 8) (h3 : 0 ≤ ad) (h4 : ad ≤ 100) (hh : hd = r - tl.length) (hl : tl.length ≤ r) (hz : r < 2 ^ 16) (al : Int) (ha : Builtin.bitAnd (-(((r : Int) - hd + ad)) ) (sz - 1) = al) (ha0 : 0 ≤ al) (ha1 : al < 8)
    (k : ∀ h' t' b2 th' tm', Hp I ((B, Bl dx b2 fin (roomUp (tl.length + (al + sz + ad).toNat) r - tl.length - al) th' (max ma sz) tm' vt) :: (b2, BaO (img (roomUp (tl.length + (al + sz + ad).toNat) r) (List.replicate al.toNat 0 ++ tl))) :: Mu) h' → R (.ok (.ret .none)) ⟨h', g, d, t', os⟩) : codeG (model prog w) Γ R ⟨h, g, d, t, os⟩ := by
  refine inS (F_Builder_Prep P) (bd_Builder_Prep P _ _ _) (unb := ["head", "buf_len", "alignSize", "needed", "oldBufSize"]) rfl hc o G S rfl ?_
  intro Γ' env h' t' o' S' kg
  clear S
  dsimp only [List.map, List.append, List.cons_append, List.nil_append] at S'
  have hz2 : (img r tl).size = r := img_size (by omega)
  refine gx_cons ?_
  have hM : (roomUp (tl.length + (al + sz + ad).toNat) r) < 2 ^ 18 := by
    have := roomUp_bound (tl.length + (al + sz + ad).toNat) r
    omega
  by_cases h0 : sz > ma
  all_goals (
    k_offL
    (with_reducible rename InF _ _ _ _ _ => S0)
    rename_i hN kN
    have ⟨tm1, t1, t2, t3, t4, a1, S1, e1⟩ := (by
        first
          | (rw [show max ma sz = sz by omega]; exact ⟨_, _, _, _, _, _, S0, by rw [← ha]; congr 1; rw [bitNot_eq]; omega⟩)
          | (rw [show max ma sz = ma by omega]; exact ⟨_, _, _, _, _, _, S0, by rw [← ha]; congr 1; rw [bitNot_eq]; omega⟩)
      : ∃ (tm1 t1 t2 t3 t4 : Tok) (a1 : Int), InF I env [("self", some (.ref B)), ("size", some (.int sz ts)), ("additionalBytes", some (.int ad ta)), ("head", some (.int hd t1)), ("buf_len", some (.int r t2)), ("alignSize", some (.int a1 t3)), ("needed", some (.int (a1 + sz + ad) t4)), ("oldBufSize", none)]
      ((B, Bl dx ba fin hd th (max ma sz) tm1 vt) :: (ba, BaO (img r tl)) :: Mu) hN ∧ a1 = al)
    clear S0
    subst e1
    refine gx_While' (n := 8) (by assumption) (fun k s => ∃ h t t1 t2 b2 r' ob, s = ⟨h, g, d, t, os⟩ ∧ k = (tl.length + (a1 + sz + ad).toNat) - r' ∧ InF I env [("self", some (.ref B)), ("size", some (.int sz ts)), ("additionalBytes", some (.int ad ta)), ("head", some (.int ((r' : Int) - tl.length) t1)), ("buf_len", some (.int (r' : Nat) t2)), ("alignSize", some (.int a1 t3)), ("needed", some (.int (a1 + sz + ad) t4)), ("oldBufSize", ob)]
      ((B, Bl dx b2 fin hd th (max ma sz) tm1 vt) :: (b2, BaO (img r' tl)) :: Mu) h ∧ tl.length ≤ r' ∧ roomUp (tl.length + (a1 + sz + ad).toNat) r' = roomUp (tl.length + (a1 + sz + ad).toNat) r) ?_ _ ⟨_, _, t1, t2, ba, r, none, rfl, rfl, hh ▸ S1, hl, rfl⟩
    rintro Γ' k s o1 ⟨h, t, t1, t2, b2, r', ob, rfl, rfl, S0, hl', hr'⟩
    clear S1
    k_offL
    by_cases hb : (r' : Int) - tl.length < a1 + sz + ad
    · have hlt : r' < tl.length + (a1 + sz + ad).toNat := by omega
      have hg := gsz_gt r'
      have hg2 : gsz r' ≤ roomUp (tl.length + (a1 + sz + ad).toNat) r := by rw [← hr', roomUp_lt hlt]; exact le_roomUp _ _
      have hr2 := hr'
      rw [roomUp_lt hlt] at hr2
      have hz3 : (img (gsz r') tl).size = gsz r' := img_size (by omega)
      k_offL
      (with_reducible rename InF _ _ _ _ _ => S0)
      obtain ⟨fr, SL, back⟩ := InF.lend S0
      refine g_ct (by assumption) fun Γ2 R2 hc2 o2 hR => ?_
      refine Grow_img hc2 (OkB.le o2 (by decide)) G hdx SL hl' (by omega) fun h2 t2 b3 SL2 => hR _ _ ?_
      have S1 := back (_ :: _ :: _) _ SL2
      clear S0 SL SL2 back
      k_offL
      (with_reducible rename InF _ _ _ _ _ => S9)
      rw [show ((r' : Int) - tl.length + ((gsz r' : Nat) - (r' : Int))) = ((gsz r' : Nat) : Int) - tl.length by omega] at S9
      exact ⟨_, by omega, _, _, _, _, b3, gsz r', _, rfl, rfl, S9, by omega, hr2⟩
    · have hge : ¬ r' < tl.length + (a1 + sz + ad).toNat := by omega
      rw [roomUp_ge hge] at hr'
      k_offL
      (with_reducible rename InF _ _ _ _ _ => S0)
      obtain ⟨fr, SL, back⟩ := InF.lend S0
      refine g_ct (by assumption) fun Γ2 R2 hc2 o2 hR => ?_
      refine Pad_ok hc2 (OkB.le o2 (by decide)) G hdx SL (by omega) rfl (by omega) (by omega) fun h2 t2 th2 SL2 => hR _ _ ?_
      have S1 := back (_ :: _ :: _) _ SL2
      clear S0 SL SL2 back
      k_offL
      (with_reducible rename InF _ _ _ _ _ => S9)
      rw [hr'] at S9
      exact k _ _ _ _ _ S9.hp)
end

section
variable {prog : Program} {w : World} {Γ : Ctx} {R : Result → Shared → Prop} {h : Heap} {g : Array GenState} {d : Drawn} {t : Nat} {os : OsState} {mg mb : Str → Option Value} {I : PH} {Mu : List (Addr × Obj)} {P : Params}
theorem enforce_ok {C : Addr} {n lo hi : Int} {tn tl th : Tok} (hc : Γ.code = .call (.ref 167) ⟨[.int n tn, .ref C], []⟩) (o : OkB 1 Γ) (G : Gl (KK P) mg mb I) (S : Hp I Mu h) (c1 : ClsF (KK P) C "min_val" (.int lo tl)) (c2 : ClsF (KK P) C "max_val" (.int hi th)) (h1 : lo ≤ n) (h2 : n ≤ hi)
    (k : ∀ h' t', Hp I Mu h' → R (.ok (.ret .none)) ⟨h', g, d, t', os⟩) : codeG (model prog w) Γ R ⟨h, g, d, t, os⟩ := by
  refine inS (F_enforce_number P) (bd_enforce_number P _ _) (unb := []) rfl hc o G S rfl ?_
  intro Γ' env h' t' o' S' kg
  clear S
  dsimp only [List.map, List.append, List.cons_append, List.nil_append] at S'
  refine gx_cons ?_
  k_offL
  exact k _ _ (InF.hp (by assumption))
end

structure Flg (P : Params) (C st : Addr) (F : Array UInt8) (ch : Char) (wd : Nat) (tf tb tl tx : Tok) : Prop where
  f : Fmt F ch wd
  so : (KK P).lookup st = some (StO F tf)
  bw : ClsF (KK P) C "bytewidth" (.int wd tb)
  lo : ClsF (KK P) C "min_val" (.int 0 tl)
  hi : ClsF (KK P) C "max_val" (.int (2 ^ (8 * wd) - 1) tx)
  pk : ClsF (KK P) C "packer_type" (.ref st)
  py : ClsT (KK P) C "py_type" "int"
  ga : specialIn (KK P) (.ref C) "__getattribute__" = some (some (.builtin "type.__getattribute__"))
theorem fl8 (P : Params) : Flg P 64 50 #[60, 66] 'B' 1 333 362 364 370 := ⟨.B, by kernel_rfl, ca_Uint8Flags_bytewidth P, ca_Uint8Flags_min_val P, ca_Uint8Flags_max_val P, ca_Uint8Flags_packer_type P, ca_Uint8Flags_py_type P, ga_Uint8Flags P⟩
theorem fl16 (P : Params) : Flg P 78 51 #[60, 72] 'H' 2 336 396 398 404 := ⟨.H, by kernel_rfl, ca_Uint16Flags_bytewidth P, ca_Uint16Flags_min_val P, ca_Uint16Flags_max_val P, ca_Uint16Flags_packer_type P, ca_Uint16Flags_py_type P, ga_Uint16Flags P⟩
theorem fl32 (P : Params) : Flg P 92 52 #[60, 73] 'I' 4 339 430 432 438 := ⟨.I, by kernel_rfl, ca_Uint32Flags_bytewidth P, ca_Uint32Flags_min_val P, ca_Uint32Flags_max_val P, ca_Uint32Flags_packer_type P, ca_Uint32Flags_py_type P, ga_Uint32Flags P⟩
theorem fl64 (P : Params) : Flg P 106 53 #[60, 81] 'Q' 8 342 464 466 472 := ⟨.Q, by kernel_rfl, ca_Uint64Flags_bytewidth P, ca_Uint64Flags_min_val P, ca_Uint64Flags_max_val P, ca_Uint64Flags_packer_type P, ca_Uint64Flags_py_type P, ga_Uint64Flags P⟩
theorem flU (P : Params) : Flg P 146 52 #[60, 73] 'I' 4 339 430 432 438 := ⟨.I, by kernel_rfl, ca_UOffsetTFlags_bytewidth P, ca_UOffsetTFlags_min_val P, ca_UOffsetTFlags_max_val P, ca_UOffsetTFlags_packer_type P, ca_UOffsetTFlags_py_type P, ga_UOffsetTFlags P⟩
section
variable {prog : Program} {w : World} {Γ : Ctx} {R : Result → Shared → Prop} {h : Heap} {g : Array GenState} {d : Drawn} {t : Nat} {os : OsState} {mg mb : Str → Option Value} {I : PH} {Mu : List (Addr × Obj)} {P : Params} {B dx ba : Addr} {fin : Bool} {hd ma : Int} {th tm : Tok} {vt : Value} {bs : Array UInt8}
theorem Write_ok {C st : Addr} {F : Array UInt8} {ch : Char} {wd : Nat} {tf tb tl tx : Tok} {ob : Obj} {off x : Int} {u v : Tok} (hc : Γ.code = .call (.ref 181) ⟨[.ref st, .ref ba, .int off u, .int x v], []⟩) (o : OkB 2 Γ) (G : Gl (KK P) mg mb I) (f : Flg P C st F ch wd tf tb tl tx) (S : Hp I ((B, ob) :: (ba, BaO bs) :: Mu) h)
    (h0 : 0 ≤ off) (h1 : off + wd ≤ bs.size) (hx : 0 ≤ x) (hx1 : x < 2 ^ (8 * wd)) (hz : bs.size < 2 ^ 20)
    (k : ∀ h' t', Hp I ((B, ob) :: (ba, BaO (lay bs (Builtin.Struct.intBytes false wd x) off.toNat (off.toNat + wd))) :: Mu) h' → R (.ok (.ret .none)) ⟨h', g, d, t', os⟩) : codeG (model prog w) Γ R ⟨h, g, d, t, os⟩ := by
  refine inS (F_Write P) (bd_Write P _ _ _ _) (unb := []) rfl hc o G S rfl ?_
  intro Γ' env h' t' o' S' kg
  clear S
  dsimp only [List.map, List.append, List.cons_append, List.nil_append] at S'
  have hst : I st = some (StO F tf) := G.k _ _ f.so
  refine gx_cons ?_
  k_offL
  (with_reducible rename InF _ _ _ _ _ => S0)
  refine go_gmS (by assumption) SF.slot_pack SF.ty_pack (InF.imm S0 _ _ hst) ?_
  dsimp only
  k_offL
  (with_reducible rename InF _ _ _ _ _ => S0)
  refine' go_pack f.f (by assumption) S0 hst h0 h1 hx hx1 hz ?u ?_
  case u => k_caughtN0
  intro _ S1
  clear S0
  k_offL
  exact k _ _ (InF.hp (by assumption))
theorem Place_ok {r : Nat} {tl : List UInt8} {C st : Addr} {F : Array UInt8} {ch : Char} {wd : Nat} {tf tb tl' tx : Tok} {x : Int} {v : Tok} (hc : Γ.code = .call (.ref 597) ⟨[.ref B, .int x v, .ref C], []⟩) (o : OkB 4 Γ) (G : Gl (KK P) mg mb I) (hdx : I dx = some (dictOf [] 0)) (f : Flg P C st F ch wd tf tb tl' tx)
    (S : Hp I ((B, Bl dx ba fin hd th ma tm vt) :: (ba, BaO (img r tl)) :: Mu) h) (hx : 0 ≤ x) (hx1 : x < 2 ^ (8 * wd)) (hh : hd = r - tl.length) (hl : wd + tl.length ≤ r) (hz : r < 2 ^ 18)
    (k : ∀ h' t' th', Hp I ((B, Bl dx ba fin (hd - wd) th' ma tm vt) :: (ba, BaO (img r ((Builtin.Struct.intBytes false wd x).toList ++ tl))) :: Mu) h' → R (.ok (.ret .none)) ⟨h', g, d, t', os⟩) : codeG (model prog w) Γ R ⟨h, g, d, t, os⟩ := by
  refine inS (F_Builder_Place P) (bd_Builder_Place P _ _ _) (unb := ["new_head"]) rfl hc o G S rfl ?_
  intro Γ' env h' t' o' S' kg
  clear S
  dsimp only [List.map, List.append, List.cons_append, List.nil_append] at S'
  have hz2 : (img r tl).size = r := img_size (by omega)
  have hbw := f.bw
  have hpk := f.pk
  refine gx_cons ?_
  k_offL
  (with_reducible rename InF _ _ _ _ _ => S0)
  obtain ⟨fr, SL, back⟩ := InF.lend S0
  refine g_ct (by assumption) fun Γ2 R2 hc2 o2 hR => ?_
  refine enforce_ok hc2 (OkB.le o2 (by decide)) G SL f.lo f.hi hx (by omega) fun h2 t2 SL2 => hR _ _ ?_
  have S1 := back (_ :: _ :: _) _ SL2
  clear S0 SL SL2 back
  k_offL
  (with_reducible rename InF _ _ _ _ _ => S0)
  obtain ⟨fr, SL, back⟩ := InF.lend S0
  refine g_ct (by assumption) fun Γ2 R2 hc2 o2 hR => ?_
  refine Write_ok hc2 (OkB.le o2 (by decide)) G f SL (by omega) (by rw [hz2]; omega) hx hx1 (by omega) fun h2 t2 SL2 => hR _ _ ?_
  have S1 := back (_ :: _ :: _) _ SL2
  clear S0 SL SL2 back
  k_offL
  (with_reducible rename InF _ _ _ _ _ => S9)
  have S2 := S9.hp
  rw [lay_img (by rw [intBytes_size]; exact hl) (by rw [intBytes_size]; omega) (by omega)] at S2
  exact k _ _ _ S2
theorem PlaceU_ok {r : Nat} {tl : List UInt8} {x : Int} {v : Tok} (hc : Γ.code = .call (.ref 618) ⟨[.ref B, .int x v], []⟩) (o : OkB 4 Γ) (G : Gl (KK P) mg mb I) (hdx : I dx = some (dictOf [] 0))
    (S : Hp I ((B, Bl dx ba fin hd th ma tm vt) :: (ba, BaO (img r tl)) :: Mu) h) (hx : 0 ≤ x) (hx1 : x < 2 ^ 32) (hh : hd = r - tl.length) (hl : 4 + tl.length ≤ r) (hz : r < 2 ^ 18)
    (k : ∀ h' t' th', Hp I ((B, Bl dx ba fin (hd - 4) th' ma tm vt) :: (ba, BaO (img r ((Builtin.Struct.intBytes false 4 x).toList ++ tl))) :: Mu) h' → R (.ok (.ret .none)) ⟨h', g, d, t', os⟩) : codeG (model prog w) Γ R ⟨h, g, d, t, os⟩ := by
  refine inS (F_Builder_PlaceUOffsetT P) (bd_Builder_PlaceUOffsetT P _ _) (unb := ["new_head"]) rfl hc o G S rfl ?_
  intro Γ' env h' t' o' S' kg
  clear S
  dsimp only [List.map, List.append, List.cons_append, List.nil_append] at S'
  have hz2 : (img r tl).size = r := img_size (by omega)
  have f := flU P
  have hbw := f.bw
  have hpk := f.pk
  refine gx_cons ?_
  k_offL
  (with_reducible rename InF _ _ _ _ _ => S0)
  obtain ⟨fr, SL, back⟩ := InF.lend S0
  refine g_ct (by assumption) fun Γ2 R2 hc2 o2 hR => ?_
  refine enforce_ok hc2 (OkB.le o2 (by decide)) G SL f.lo f.hi hx (by omega) fun h2 t2 SL2 => hR _ _ ?_
  have S1 := back (_ :: _ :: _) _ SL2
  clear S0 SL SL2 back
  k_offL
  (with_reducible rename InF _ _ _ _ _ => S0)
  obtain ⟨fr, SL, back⟩ := InF.lend S0
  refine g_ct (by assumption) fun Γ2 R2 hc2 o2 hR => ?_
  refine Write_ok hc2 (OkB.le o2 (by decide)) G f SL (by omega) (by rw [hz2]; omega) hx (by omega) (by omega) fun h2 t2 SL2 => hR _ _ ?_
  have S1 := back (_ :: _ :: _) _ SL2
  clear S0 SL SL2 back
  k_offL
  (with_reducible rename InF _ _ _ _ _ => S9)
  have S2 := S9.hp
  rw [lay_img (by rw [intBytes_size]; exact hl) (by rw [intBytes_size]; omega) (by omega)] at S2
  exact k _ _ _ S2
end

section
variable {prog : Program} {w : World} {Γ : Ctx} {R : Result → Shared → Prop} {h : Heap} {g : Array GenState} {d : Drawn} {t : Nat} {os : OsState} {mg mb : Str → Option Value} {I : PH} {Mu : List (Addr × Obj)} {P : Params} {B dx ba : Addr} {fin : Bool} {hd ma : Int} {th tm : Tok} {vt : Value} {bs : Array UInt8}
def pRoom (r : Nat) (tl : List UInt8) (ad sz : Nat) : Nat := roomUp (tl.length + (al tl.length ad sz + sz + ad)) r
def pTail (tl : List UInt8) (ad sz : Nat) : List UInt8 := List.replicate (al tl.length ad sz) 0 ++ tl
theorem pTail_len (tl : List UInt8) (ad sz : Nat) : (pTail tl ad sz).length = al tl.length ad sz + tl.length := by unfold pTail; simp
theorem pRoom_ge (r : Nat) (tl : List UInt8) (ad sz : Nat) : (pTail tl ad sz).length + sz + ad ≤ pRoom r tl ad sz := by
  have := roomUp_le (tl.length + (al tl.length ad sz + sz + ad)) r
  rw [pTail_len]; unfold pRoom; omega
theorem pRoom_le {r : Nat} {tl : List UInt8} {ad sz : Nat} (h1 : 0 < sz) (h2 : sz ≤ 8) (h4 : ad ≤ 100) (hl : tl.length ≤ r) (hz : r < 2 ^ 16) : pRoom r tl ad sz < 2 ^ 18 := by
  have := roomUp_bound (tl.length + (al tl.length ad sz + sz + ad)) r
  have := al_lt (len := tl.length) (ad := ad) h1
  unfold pRoom; omega
theorem Prep_w {r : Nat} {tl : List UInt8} {sz ad : Nat} {ts ta : Tok} (hc : Γ.code = .call (.ref 306) ⟨[.ref B, .int sz ts, .int ad ta], []⟩) (o : OkB 10 Γ) (G : Gl (KK P) mg mb I) (hdx : I dx = some (dictOf [] 0)) (S : Hp I ((B, Bl dx ba fin hd th ma tm vt) :: (ba, BaO (img r tl)) :: Mu) h)
    (hs : ∃ j, sz = 2 ^ j) (h2 : sz ≤ 8) (h4 : ad ≤ 100) (hh : hd = r - tl.length) (hl : tl.length ≤ r) (hz : r < 2 ^ 16)
    (k : ∀ h' t' b2 th' tm', Hp I ((B, Bl dx b2 fin (pRoom r tl ad sz - (pTail tl ad sz).length) th' (max ma sz) tm' vt) :: (b2, BaO (img (pRoom r tl ad sz) (pTail tl ad sz))) :: Mu) h' → R (.ok (.ret .none)) ⟨h', g, d, t', os⟩) : codeG (model prog w) Γ R ⟨h, g, d, t, os⟩ := by
  obtain ⟨j, rfl⟩ := hs
  have hp : 0 < 2 ^ j := Nat.two_pow_pos j
  have ha := al_lt (len := tl.length) (ad := ad) hp
  refine Prep_ok hc o G hdx S (by omega) (by omega) (by omega) (by omega) hh hl hz ((al tl.length ad (2 ^ j) : Nat) : Int) ?_ (by omega) (by omega) fun h' t' b2 th' tm' S' => k h' t' b2 th' tm' ?_
  · rw [show (-((r : Int) - hd + ad)) = -((tl.length : Int) + ad) by omega, band_eq, al_int]
  · have e : (((al tl.length ad (2 ^ j) : Nat) : Int) + ((2 ^ j : Nat) : Int) + (ad : Int)).toNat = al tl.length ad (2 ^ j) + 2 ^ j + ad := by omega
    rw [e, Int.toNat_natCast] at S'
    rw [show ((pRoom r tl ad (2 ^ j) : Nat) : Int) - ((pTail tl ad (2 ^ j)).length : Nat) = ((roomUp (tl.length + (al tl.length ad (2 ^ j) + 2 ^ j + ad)) r : Nat) : Int) - tl.length - ((al tl.length ad (2 ^ j) : Nat) : Int) by rw [pTail_len]; unfold pRoom; omega]
    exact S'
theorem Prepend_ok {r : Nat} {tl : List UInt8} {C st : Addr} {F : Array UInt8} {ch : Char} {wd : Nat} {tf tb tl' tx : Tok} {x : Int} {v : Tok} (hc : Γ.code = .call (.ref 415) ⟨[.ref B, .ref C, .int x v], []⟩) (o : OkB 12 Γ) (G : Gl (KK P) mg mb I) (hdx : I dx = some (dictOf [] 0)) (f : Flg P C st F ch wd tf tb tl' tx)
    (S : Hp I ((B, Bl dx ba fin hd th ma tm vt) :: (ba, BaO (img r tl)) :: Mu) h) (hx : 0 ≤ x) (hx1 : x < 2 ^ (8 * wd)) (hh : hd = r - tl.length) (hl : tl.length ≤ r) (hz : r < 2 ^ 16)
    (k : ∀ h' t' b2 th' tm', Hp I ((B, Bl dx b2 fin (pRoom r tl 0 wd - (pTail tl 0 wd).length - wd) th' (max ma wd) tm' vt) :: (b2, BaO (img (pRoom r tl 0 wd) ((Builtin.Struct.intBytes false wd x).toList ++ pTail tl 0 wd))) :: Mu) h' → R (.ok (.ret .none)) ⟨h', g, d, t', os⟩) : codeG (model prog w) Γ R ⟨h, g, d, t, os⟩ := by
  refine inS (F_Builder_Prepend P) (bd_Builder_Prepend P _ _ _) (unb := []) rfl hc o G S rfl ?_
  intro Γ' env h' t' o' S' kg
  clear S
  dsimp only [List.map, List.append, List.cons_append, List.nil_append] at S'
  have hw : ∃ j, wd = 2 ^ j := by cases f.f <;> first | exact ⟨0, rfl⟩ | exact ⟨1, rfl⟩ | exact ⟨2, rfl⟩ | exact ⟨3, rfl⟩
  have hw8 : wd ≤ 8 := by cases f.f <;> decide
  have hw0 : 0 < wd := by cases f.f <;> decide
  have hr1 := pRoom_ge r tl 0 wd
  have hr2 := pRoom_le hw0 hw8 (by omega : 0 ≤ 100) hl hz
  have hbw := f.bw
  refine gx_cons ?_
  k_offL
  (with_reducible rename InF _ _ _ _ _ => S0)
  obtain ⟨fr, SL, back⟩ := InF.lend S0
  refine g_ct (by assumption) fun Γ2 R2 hc2 o2 hR => ?_
  refine Prep_w (ad := 0) hc2 (OkB.le o2 (by decide)) G hdx SL hw hw8 (by omega) hh hl hz fun h2 t2 b2 th2 tm2 SL2 => hR _ _ ?_
  have S1 := back (_ :: _ :: _) _ SL2
  clear S0 SL SL2 back
  k_offL
  (with_reducible rename InF _ _ _ _ _ => S0)
  obtain ⟨fr, SL, back⟩ := InF.lend S0
  refine g_ct (by assumption) fun Γ2 R2 hc2 o2 hR => ?_
  refine Place_ok hc2 (OkB.le o2 (by decide)) G hdx f SL hx hx1 rfl (by omega) hr2 fun h2 t2 th2 SL2 => hR _ _ ?_
  have S1 := back (_ :: _ :: _) _ SL2
  clear S0 SL SL2 back
  k_offL
  (with_reducible rename InF _ _ _ _ _ => S9)
  exact k _ _ _ _ _ S9.hp
end

section
variable {prog : Program} {w : World} {Γ : Ctx} {R : Result → Shared → Prop} {h : Heap} {g : Array GenState} {d : Drawn} {t : Nat} {os : OsState} {mg mb : Str → Option Value} {I : PH} {Mu : List (Addr × Obj)} {P : Params} {B dx ba : Addr} {fin : Bool} {hd ma : Int} {th tm : Tok} {vt : Value} {bs : Array UInt8}
theorem Offset_img {r : Nat} {tl : List UInt8} (hc : Γ.code = .call (.ref 292) ⟨[.ref B], []⟩) (o : OkB 1 Γ) (G : Gl (KK P) mg mb I) (hdx : I dx = some (dictOf [] 0)) (S : Hp I ((B, Bl dx ba fin hd th ma tm vt) :: (ba, BaO (img r tl)) :: Mu) h) (hh : hd = r - tl.length) (hl : tl.length ≤ r) (hz : r < 2 ^ 18)
    (k : ∀ h' t' tt, Hp I ((B, Bl dx ba fin hd th ma tm vt) :: (ba, BaO (img r tl)) :: Mu) h' → R (.ok (.ret (.int tl.length tt))) ⟨h', g, d, t', os⟩) : codeG (model prog w) Γ R ⟨h, g, d, t, os⟩ :=
  Offset_ok hc o G hdx S (by rw [img_size hl]; omega) fun h' t' tt S' => by
    have := k h' t' tt S'
    rw [img_size hl, show ((r : Nat) : Int) - hd = (tl.length : Nat) by omega]
    exact this
theorem PrependU_ok {r : Nat} {tl : List UInt8} {off : Int} {v : Tok} (hc : Γ.code = .call (.ref 320) ⟨[.ref B, .int off v], []⟩) (o : OkB 12 Γ) (G : Gl (KK P) mg mb I) (hdx : I dx = some (dictOf [] 0))
    (S : Hp I ((B, Bl dx ba fin hd th ma tm vt) :: (ba, BaO (img r tl)) :: Mu) h) (hx : 0 ≤ off) (hx1 : off ≤ (pTail tl 0 4).length) (hh : hd = r - tl.length) (hl : tl.length ≤ r) (hz : r < 2 ^ 16)
    (k : ∀ h' t' b2 th' tm', Hp I ((B, Bl dx b2 fin (pRoom r tl 0 4 - (pTail tl 0 4).length - 4) th' (max ma 4) tm' vt) :: (b2, BaO (img (pRoom r tl 0 4) ((Builtin.Struct.intBytes false 4 ((pTail tl 0 4).length - off + 4)).toList ++ pTail tl 0 4))) :: Mu) h' → R (.ok (.ret .none)) ⟨h', g, d, t', os⟩) : codeG (model prog w) Γ R ⟨h, g, d, t, os⟩ := by
  refine inS (F_Builder_PrependUOffsetTRelative P) (bd_Builder_PrependUOffsetTRelative P _ _) (unb := ["msg", "off2"]) rfl hc o G S rfl ?_
  intro Γ' env h' t' o' S' kg
  clear S
  dsimp only [List.map, List.append, List.cons_append, List.nil_append] at S'
  have hr1 := pRoom_ge r tl 0 4
  have hr2 := pRoom_le (by decide : 0 < 4) (by decide : 4 ≤ 8) (by omega : 0 ≤ 100) hl hz
  have hbw := (flU P).bw
  refine gx_cons ?_
  k_offL
  (with_reducible rename InF _ _ _ _ _ => S0)
  obtain ⟨fr, SL, back⟩ := InF.lend S0
  refine g_ct (by assumption) fun Γ2 R2 hc2 o2 hR => ?_
  refine Prep_w (sz := 4) (ad := 0) hc2 (OkB.le o2 (by decide)) G hdx SL ⟨2, rfl⟩ (by decide) (by omega) hh hl hz fun h2 t2 b2 th2 tm2 SL2 => hR _ _ ?_
  have S1 := back (_ :: _ :: _) _ SL2
  clear S0 SL SL2 back
  k_offL
  (with_reducible rename InF _ _ _ _ _ => S0)
  obtain ⟨fr, SL, back⟩ := InF.lend S0
  refine g_ct (by assumption) fun Γ2 R2 hc2 o2 hR => ?_
  refine Offset_img hc2 (OkB.le o2 (by decide)) G hdx SL rfl (by omega) hr2 fun h2 t2 tt SL2 => hR _ _ ?_
  have S1 := back (_ :: _ :: _) _ SL2
  clear S0 SL SL2 back
  k_offL
  (with_reducible rename InF _ _ _ _ _ => S0)
  obtain ⟨fr, SL, back⟩ := InF.lend S0
  refine g_ct (by assumption) fun Γ2 R2 hc2 o2 hR => ?_
  refine Offset_img hc2 (OkB.le o2 (by decide)) G hdx SL rfl (by omega) hr2 fun h2 t2 tt SL2 => hR _ _ ?_
  have S1 := back (_ :: _ :: _) _ SL2
  clear S0 SL SL2 back
  k_offL
  (with_reducible rename InF _ _ _ _ _ => S0)
  obtain ⟨fr, SL, back⟩ := InF.lend S0
  refine g_ct (by assumption) fun Γ2 R2 hc2 o2 hR => ?_
  refine PlaceU_ok hc2 (OkB.le o2 (by decide)) G hdx SL (by omega) (by omega) rfl (by omega) hr2 fun h2 t2 th2 SL2 => hR _ _ ?_
  have S1 := back (_ :: _ :: _) _ SL2
  clear S0 SL SL2 back
  k_offL
  (with_reducible rename InF _ _ _ _ _ => S9)
  exact k _ _ _ _ _ S9.hp
end

section
variable {prog : Program} {w : World} {Γ : Ctx} {R : Result → Shared → Prop} {h : Heap} {g : Array GenState} {d : Drawn} {t : Nat} {os : OsState} {mg mb : Str → Option Value} {I : PH} {Mu : List (Addr × Obj)} {P : Params} {B dx ba : Addr} {fin : Bool} {hd ma : Int} {th tm : Tok} {vt : Value} {bs : Array UInt8}
theorem bdk_Finish (v0 v1 v2 v3 : Value) (S : Setting) : peek (KK P) S (bindArgs (fnAt (KK P) 392) ⟨[v0, v1, v2], [("file_identifier", v3)]⟩) = some ([("self", v0), ("rootTable", v1), ("sizePrefix", v2), ("file_identifier", v3)] : List (Str × Value)) := by kernel_rfl
theorem FinishU_ok {r m : Nat} {tl : List UInt8} {off : Int} {v : Tok} (hc : Γ.code = .call (.ref 392) ⟨[.ref B, .int off v, .bool false], [("file_identifier", .none)]⟩) (o : OkB 14 Γ) (G : Gl (KK P) mg mb I) (hdx : I dx = some (dictOf [] 0))
    (S : Hp I ((B, Bl dx ba fin hd th m tm vt) :: (ba, BaO (img r tl)) :: Mu) h) (hm : ∃ j, m = 2 ^ j) (hm8 : m ≤ 8) (hx : 0 ≤ off) (hx1 : off ≤ tl.length) (hh : hd = r - tl.length) (hl : tl.length ≤ r) (hz : r < 2 ^ 16) (hz1 : pRoom r tl 4 m < 2 ^ 16)
    (k : ∀ h' t' b2 th' tm' hd', hd' = (pRoom (pRoom r tl 4 m) (pTail tl 4 m) 0 4 : Nat) - ((pTail (pTail tl 4 m) 0 4).length : Nat) - (4 : Int) → Hp I ((B, Bl dx b2 true hd' th' (max (max m m) 4) tm' vt) :: (b2, BaO (img (pRoom (pRoom r tl 4 m) (pTail tl 4 m) 0 4) ((Builtin.Struct.intBytes false 4 ((pTail (pTail tl 4 m) 0 4).length - off + 4)).toList ++ pTail (pTail tl 4 m) 0 4))) :: Mu) h' →
      R (.ok (.ret (.int hd' th'))) ⟨h', g, d, t', os⟩) : codeG (model prog w) Γ R ⟨h, g, d, t, os⟩ := by
  refine inS (F_BuilderU_Finish P) (bdk_Finish _ _ _ _) (unb := ["prepSize", "i", "size"]) rfl hc o G S rfl ?_
  intro Γ' env h' t' o' S' kg
  clear S
  dsimp only [List.map, List.append, List.cons_append, List.nil_append] at S'
  have f := flU P
  have hbw := f.bw
  have hr1 := pRoom_ge r tl 4 m
  have ht1 := pTail_len tl 4 m
  have ht2 := pTail_len (pTail tl 4 m) 0 4
  refine gx_cons ?_
  k_offL
  (with_reducible rename InF _ _ _ _ _ => S0)
  obtain ⟨fr, SL, back⟩ := InF.lend S0
  refine g_ct (by assumption) fun Γ2 R2 hc2 o2 hR => ?_
  refine enforce_ok hc2 (OkB.le o2 (by decide)) G SL f.lo f.hi hx (by omega) fun h2 t2 SL2 => hR _ _ ?_
  have S1 := back (_ :: _ :: _) _ SL2
  clear S0 SL SL2 back
  k_offL
  (with_reducible rename InF _ _ _ _ _ => S0)
  obtain ⟨fr, SL, back⟩ := InF.lend S0
  refine g_ct (by assumption) fun Γ2 R2 hc2 o2 hR => ?_
  refine Prep_w (sz := m) (ad := 4) hc2 (OkB.le o2 (by decide)) G hdx SL hm hm8 (by omega) hh hl hz fun h2 t2 b2 th2 tm2 SL2 => hR _ _ ?_
  have S1 := back (_ :: _ :: _) _ SL2
  clear S0 SL SL2 back
  k_offL
  (with_reducible rename InF _ _ _ _ _ => S0)
  obtain ⟨fr, SL, back⟩ := InF.lend S0
  refine g_ct (by assumption) fun Γ2 R2 hc2 o2 hR => ?_
  refine PrependU_ok hc2 (OkB.le o2 (by decide)) G hdx SL hx (by omega) rfl (by omega) hz1 fun h2 t2 b2 th2 tm2 SL2 => hR _ _ ?_
  have S1 := back (_ :: _ :: _) _ SL2
  clear S0 SL SL2 back
  k_offL
  (with_reducible rename InF _ _ _ _ _ => S9)
  exact k _ _ _ _ _ _ rfl S9.hp
end

theorem g_ctk {M : Model} {Γ : Ctx} {n : Nat} {s : Shared} {Q : Value → Shared → Prop} (o : Ok n Γ) {f : Value} {args : List Value} {kw : List (Str × Value)} (hh : ∀ Γ' (R : Result → Shared → Prop), Γ'.code = .call f ⟨args, kw⟩ → OkB n Γ' → (∀ v s', Q v s' → R (.ok (.ret v)) s') → codeG M Γ' R s) : wpG M Γ (call f args kw) Q s :=
  g_call o fun Γ' hc o' => hh Γ' _ hc o' fun _ _ q => q
section
variable {prog : Program} {w : World} {Γ : Ctx} {R : Result → Shared → Prop} {h : Heap} {g : Array GenState} {d : Drawn} {t : Nat} {os : OsState} {mg mb : Str → Option Value} {I : PH} {Mu : List (Addr × Obj)} {P : Params} {B dx ba : Addr} {fin : Bool} {hd ma : Int} {th tm : Tok} {vt : Value} {bs : Array UInt8}
theorem bdd_Finish (v0 v1 : Value) (S : Setting) : peek (KK P) S (bindArgs (fnAt (KK P) 400) ⟨[v0, v1], []⟩) = some ([("self", v0), ("rootTable", v1), ("file_identifier", .none)] : List (Str × Value)) := by kernel_rfl
theorem Finish_ok {r m : Nat} {tl : List UInt8} {off : Int} {v : Tok} (hc : Γ.code = .call (.ref 400) ⟨[.ref B, .int off v], []⟩) (o : OkB 16 Γ) (G : Gl (KK P) mg mb I) (hdx : I dx = some (dictOf [] 0))
    (S : Hp I ((B, Bl dx ba fin hd th m tm vt) :: (ba, BaO (img r tl)) :: Mu) h) (hm : ∃ j, m = 2 ^ j) (hm8 : m ≤ 8) (hx : 0 ≤ off) (hx1 : off ≤ tl.length) (hh : hd = r - tl.length) (hl : tl.length ≤ r) (hz : r < 2 ^ 16) (hz1 : pRoom r tl 4 m < 2 ^ 16)
    (k : ∀ h' t' b2 th' tm' hd', hd' = (pRoom (pRoom r tl 4 m) (pTail tl 4 m) 0 4 : Nat) - ((pTail (pTail tl 4 m) 0 4).length : Nat) - (4 : Int) → Hp I ((B, Bl dx b2 true hd' th' (max (max m m) 4) tm' vt) :: (b2, BaO (img (pRoom (pRoom r tl 4 m) (pTail tl 4 m) 0 4) ((Builtin.Struct.intBytes false 4 ((pTail (pTail tl 4 m) 0 4).length - off + 4)).toList ++ pTail (pTail tl 4 m) 0 4))) :: Mu) h' →
      R (.ok (.ret (.int hd' th'))) ⟨h', g, d, t', os⟩) : codeG (model prog w) Γ R ⟨h, g, d, t, os⟩ := by
  refine inS (F_Builder_Finish P) (bdd_Finish _ _) (unb := []) rfl hc o G S rfl ?_
  intro Γ' env h' t' o' S' kg
  clear S
  dsimp only [List.map, List.append, List.cons_append, List.nil_append] at S'
  refine gx_cons ?_
  k_offL
  (with_reducible rename InF _ _ _ _ _ => S0)
  dsimp only
  refine go_K1k (by assumption) (by assumption) (by kernel_rfl) rfl rfl ?_
  k_offL
  (with_reducible rename InF _ _ _ _ _ => S0)
  obtain ⟨fr, SL, back⟩ := InF.lend S0
  refine g_ctk (by assumption) fun Γ2 R2 hc2 o2 hR => ?_
  refine FinishU_ok hc2 (OkB.le o2 (by decide)) G hdx SL hm hm8 hx hx1 hh hl hz hz1 fun h2 t2 b2 th2 tm2 hd2 e2 SL2 => hR _ _ ?_
  have S1 := back (_ :: _ :: _) _ SL2
  exact k _ _ _ _ _ _ e2 S1.hp
end

theorem cut_img {r : Nat} {tl : List UInt8} {x : Nat} (hl : tl.length ≤ r) (hx : x = r - tl.length) : cut (img r tl) x r = tl.toArray := by
  subst hx
  unfold cut img
  congr 1
  simp
  rw [List.take_of_length_le (by omega)]
theorem go_getlo' {prog : Program} {w : World} {Γ : Ctx} {n : Nat} {h : Heap} {g : Array GenState} {d : Drawn} {t : Nat} {os : OsState} {env : Env} {I : PH} {vs : Vs} {Mu : List (Addr × Obj)} {Q : Value → Shared → Prop} {x y : Addr} {bs : Array UInt8} {value slice : Expr} {y0 : Int} {ty : Tok} (o : Ok n Γ) (S : InF I env vs Mu h) (hs : List.Mem (y, SlO (.int y0 ty) .none .none) Mu) (ho : List.Mem (x, BaO bs) Mu) (h0 : 0 ≤ y0) (hy : y0 ≤ bs.size) (hz : bs.size < 2 ^ 20)
    (h1 : subscripted slice false (.ref x) (.ref y) = operate [.ref y, .ref x] (getItem (.ref x) (.ref y)))
    (hq : ∀ e h', InF I env vs ((e, BaO (cut bs y0.toNat bs.size)) :: Mu) h' → Q (.ref e) ⟨h', g, d, t, os⟩) : wpG (model prog w) Γ (subscriptTail value slice (.ref x) (.ref y)) Q ⟨h, g, d, t, os⟩ := by
  refine g_leaf o (kba_turn (value' := .Name (Str.ofString "x") default) (fun r => rfl) ?_)
  refine subscriptTail_ops (s := ⟨h, g, d, t, os⟩) (ba_type (S.get ho)) BF.slot_get.lookup ?_ h1 (fun r => rfl)
  exact ba_getslice (s := ⟨h, g, d, t, os⟩) (S.get ho) (S.get hs) (.int _ _) .none (sb_lo h0 hy) hz (hq _ _ (S.push _))
section
variable {prog : Program} {w : World} {Γ : Ctx} {R : Result → Shared → Prop} {h : Heap} {g : Array GenState} {d : Drawn} {t : Nat} {os : OsState} {mg mb : Str → Option Value} {I : PH} {Mu : List (Addr × Obj)} {P : Params} {B dx ba : Addr} {fin : Bool} {hd ma : Int} {th tm : Tok} {vt : Value} {bs : Array UInt8}
theorem Output_ok {r : Nat} {tl : List UInt8} (hc : Γ.code = .call (.ref 250) ⟨[.ref B], []⟩) (o : OkB 2 Γ) (G : Gl (KK P) mg mb I) (hdx : I dx = some (dictOf [] 0))
    (S : Hp I ((B, Bl dx ba true hd th ma tm vt) :: (ba, BaO (img r tl)) :: Mu) h) (hh : hd = r - tl.length) (hl : tl.length ≤ r) (hz : r < 2 ^ 18)
    (k : ∀ h' t' e, Hp I ((e, BaO tl.toArray) :: (B, Bl dx ba true hd th ma tm vt) :: (ba, BaO (img r tl)) :: Mu) h' → R (.ok (.ret (.ref e))) ⟨h', g, d, t', os⟩) : codeG (model prog w) Γ R ⟨h, g, d, t, os⟩ := by
  refine inS (F_Builder_Output P) (bd_Builder_Output P _) (unb := []) rfl hc o G S rfl ?_
  intro Γ' env h' t' o' S' kg
  clear S
  dsimp only [List.map, List.append, List.cons_append, List.nil_append] at S'
  have hz2 : (img r tl).size = r := img_size (by omega)
  refine gx_cons ?_
  k_offL
  (with_reducible rename InF _ _ _ _ _ => S0)
  refine' go_getlo' (bs := img r tl) (by assumption) S0 ?hs ?ho ?h0 ?hy ?hz ?h1 ?_
  case hs => k_caughtB
  case ho => k_caughtB
  case h0 => omega
  case hy => rw [hz2]; omega
  case hz => rw [hz2]; omega
  case h1 => with_unfolding_all rfl
  intro e h2 S1
  have S2 := S1.hp
  rw [hz2, cut_img hl (by omega)] at S2
  exact k _ _ _ (S2.sub (.cons₂ _ (.cons _ (.refl _))))
end

theorem go_item0 {prog : Program} {w : World} {Γ : Ctx} {n : Nat} {h : Heap} {g : Array GenState} {d : Drawn} {t : Nat} {os : OsState} {Q : Value → Shared → Prop} {x : Addr} {value slice : Expr} {v : Value} {u : Tok} (o : Ok n Γ) (hx : h.get? x = some { cls := .type "tuple", data := .seq #[v] })
    (h1 : subscripted slice false (.ref x) (.int 0 u) = operate [.ref x, .int 0 u] (getItem (.ref x) (.int 0 u))) (hq : Q v ⟨h, g, d, t, os⟩) : wpG (model prog w) Γ (subscriptTail value slice (.ref x) (.int 0 u)) Q ⟨h, g, d, t, os⟩ := by
  refine g_leaf o (kba_turn (value' := .Name (Str.ofString "x") default) (fun r => rfl) ?_)
  exact item_tuple (s := ⟨h, g, d, t, os⟩) (items := #[v]) ⟨_, hx, rfl, 0, rfl⟩ (by decide) (by decide) (j := 0) rfl rfl hq h1 (fun r => rfl)
section
variable {prog : Program} {w : World} {Γ : Ctx} {R : Result → Shared → Prop} {h : Heap} {g : Array GenState} {d : Drawn} {t : Nat} {os : OsState} {mg mb : Str → Option Value} {I : PH} {Mu : List (Addr × Obj)} {P : Params} {B dx ba : Addr} {fin : Bool} {hd ma : Int} {th tm : Tok} {vt : Value} {bs : Array UInt8}
theorem Get_ok {C st : Addr} {F : Array UInt8} {ch : Char} {wd : Nat} {tf tb tl tx : Tok} {ob : Obj} {off : Int} {u : Tok} (hc : Γ.code = .call (.ref 174) ⟨[.ref st, .ref ba, .int off u], []⟩) (o : OkB 2 Γ) (G : Gl (KK P) mg mb I) (f : Flg P C st F ch wd tf tb tl tx) (S : Hp I ((B, ob) :: (ba, BaO bs) :: Mu) h)
    (h0 : 0 ≤ off) (h1 : off + wd ≤ bs.size) (hz : bs.size < 2 ^ 20)
    (k : ∀ h' t' tt, Hp I ((B, ob) :: (ba, BaO bs) :: Mu) h' → R (.ok (.ret (.int (Builtin.Struct.natOf false (bs.extract off.toNat (off.toNat + wd))) tt))) ⟨h', g, d, t', os⟩) : codeG (model prog w) Γ R ⟨h, g, d, t, os⟩ := by
  refine inS (F_Get P) (bd_Get P _ _ _) (unb := []) rfl hc o G S rfl ?_
  intro Γ' env h' t' o' S' kg
  clear S
  dsimp only [List.map, List.append, List.cons_append, List.nil_append] at S'
  have hst : I st = some (StO F tf) := G.k _ _ f.so
  refine gx_cons ?_
  k_offL
  (with_reducible rename InF _ _ _ _ _ => S0)
  refine go_gmS (by assumption) SF.slot_unpack SF.ty_unpack (InF.imm S0 _ _ hst) ?_
  dsimp only
  k_offL
  (with_reducible rename InF _ _ _ _ _ => S0)
  refine go_unpack f.f (by assumption) S0 hst (S0.get (.tail _ (.head _))) h0 h1 hz ?_
  intro e _ _ _ S1
  clear S0
  k_offL
  (with_reducible rename InF _ _ _ _ _ => S0)
  refine go_item0 (by assumption) (S0.get (.head _)) (by with_unfolding_all rfl) ?_
  k_offL
  exact k _ _ _ (S0.hp.tail)
end

abbrev Tb (dx ba : Addr) (tp : Tok) : Obj := InstO 717 dx [some (.ref ba), some (.int 0 tp)]
section
variable {prog : Program} {w : World} {Γ : Ctx} {R : Result → Shared → Prop} {h : Heap} {g : Array GenState} {d : Drawn} {t : Nat} {os : OsState} {mg mb : Str → Option Value} {I : PH} {Mu : List (Addr × Obj)} {P : Params} {B dx ba : Addr} {fin : Bool} {hd ma : Int} {th tm : Tok} {vt : Value} {bs : Array UInt8}
theorem Indirect_ok {tp : Tok} {off : Int} {u : Tok} (hc : Γ.code = .call (.ref 664) ⟨[.ref B, .int off u], []⟩) (o : OkB 4 Γ) (G : Gl (KK P) mg mb I) (hdx : I dx = some (dictOf [] 0)) (S : Hp I ((B, Tb dx ba tp) :: (ba, BaO bs) :: Mu) h)
    (h0 : 0 ≤ off) (h1 : off + 4 ≤ bs.size) (hz : bs.size < 2 ^ 20)
    (k : ∀ h' t' tt, Hp I ((B, Tb dx ba tp) :: (ba, BaO bs) :: Mu) h' → R (.ok (.ret (.int (off + (Builtin.Struct.natOf false (bs.extract off.toNat (off.toNat + 4)) : Nat)) tt))) ⟨h', g, d, t', os⟩) : codeG (model prog w) Γ R ⟨h, g, d, t, os⟩ := by
  refine inS (F_Table_Indirect P) (bd_Table_Indirect P _ _) (unb := []) rfl hc o G S rfl ?_
  intro Γ' env h' t' o' S' kg
  clear S
  dsimp only [List.map, List.append, List.cons_append, List.nil_append] at S'
  have f := flU P
  have hpk := f.pk
  refine gx_cons ?_
  k_offL
  (with_reducible rename InF _ _ _ _ _ => S0)
  obtain ⟨fr, SL, back⟩ := InF.lend S0
  refine g_ct (by assumption) fun Γ2 R2 hc2 o2 hR => ?_
  refine enforce_ok hc2 (OkB.le o2 (by decide)) G SL f.lo f.hi h0 (by omega) fun h2 t2 SL2 => hR _ _ ?_
  have S1 := back (_ :: _ :: _) _ SL2
  clear S0 SL SL2 back
  k_offL
  (with_reducible rename InF _ _ _ _ _ => S0)
  obtain ⟨fr, SL, back⟩ := InF.lend S0
  refine g_ct (by assumption) fun Γ2 R2 hc2 o2 hR => ?_
  refine Get_ok hc2 (OkB.le o2 (by decide)) G f SL h0 h1 hz fun h2 t2 tt SL2 => hR _ _ ?_
  have S1 := back (_ :: _ :: _) _ SL2
  clear S0 SL SL2 back
  k_offL
  (with_reducible rename InF _ _ _ _ _ => S9)
  exact k _ _ _ S9.hp
theorem TGet_ok {C st : Addr} {F : Array UInt8} {ch : Char} {wd : Nat} {tf tb tl tx tp : Tok} {off : Int} {u : Tok} (hc : Γ.code = .call (.ref 699) ⟨[.ref B, .ref C, .int off u], []⟩) (o : OkB 4 Γ) (G : Gl (KK P) mg mb I) (f : Flg P C st F ch wd tf tb tl tx) (hdx : I dx = some (dictOf [] 0)) (S : Hp I ((B, Tb dx ba tp) :: (ba, BaO bs) :: Mu) h)
    (h0 : 0 ≤ off) (h1 : off + wd ≤ bs.size) (hz : bs.size < 2 ^ 20)
    (k : ∀ h' t' tt, Hp I ((B, Tb dx ba tp) :: (ba, BaO bs) :: Mu) h' → R (.ok (.ret (.int (Builtin.Struct.natOf false (bs.extract off.toNat (off.toNat + wd)) : Nat) tt))) ⟨h', g, d, t', os⟩) : codeG (model prog w) Γ R ⟨h, g, d, t, os⟩ := by
  refine inS (F_Table_Get P) (bd_Table_Get P _ _ _) (unb := []) rfl hc o G S rfl ?_
  intro Γ' env h' t' o' S' kg
  clear S
  dsimp only [List.map, List.append, List.cons_append, List.nil_append] at S'
  have hpk := f.pk
  have hpy := f.py
  have hga := f.ga
  have fU := flU P
  refine gx_cons ?_
  k_offL
  (with_reducible rename InF _ _ _ _ _ => S0)
  obtain ⟨fr, SL, back⟩ := InF.lend S0
  refine g_ct (by assumption) fun Γ2 R2 hc2 o2 hR => ?_
  refine enforce_ok hc2 (OkB.le o2 (by decide)) G SL fU.lo fU.hi h0 (by omega) fun h2 t2 SL2 => hR _ _ ?_
  have S1 := back (_ :: _ :: _) _ SL2
  clear S0 SL SL2 back
  k_offL
  (with_reducible rename InF _ _ _ _ _ => S0)
  obtain ⟨fr, SL, back⟩ := InF.lend S0
  refine g_ct (by assumption) fun Γ2 R2 hc2 o2 hR => ?_
  refine Get_ok hc2 (OkB.le o2 (by decide)) G f SL h0 h1 hz fun h2 t2 tt SL2 => hR _ _ ?_
  have S1 := back (_ :: _ :: _) _ SL2
  clear S0 SL SL2 back
  k_offL
  (with_reducible rename InF _ _ _ _ _ => S9)
  exact k _ _ _ S9.hp
end

section
variable {prog : Program} {w : World} {Γ : Ctx} {n : Nat} {h : Heap} {g : Array GenState} {d : Drawn} {t : Nat} {os : OsState} {env : Env} {K : Frag} {mg mb : Str → Option Value} {I : PH} {vs vs' : Vs} {Mu Mu' : List (Addr × Obj)} {pos : Pos} {Q : Value → Shared → Prop}
theorem go_dict0 (o : Ok n Γ) (S : InF I env vs Mu h) (hq : ∀ x h', InF I env vs Mu h' → Q (.ref x) ⟨h', g, d, t, os⟩) : wpG (model prog w) Γ (eval (.Dict [] [] pos) env) Q ⟨h, g, d, t, os⟩ :=
  g_leaf o (wpAny_Dict_empty (hq _ _ ((S.push _).sub (List.sublist_cons_self _ _))))
end
local macro_rules | `(tactic| kct_strs) => `(tactic| ((with_reducible rename InF _ _ _ _ _ => S0); ((with_reducible refine' go_set (by assumption) (by assumption) S0 ?ff ?hd ?uu ?hs ?_); (case uu => k_caughtN0); (case ff => krn_off); (case hd => assumption); (case hs => ((try simp only [List.length_cons, List.length_nil, Nat.reduceAdd, Nat.reduceSub, List.replicate_succ, List.replicate_zero, List.append_nil, List.cons_append, List.nil_append, List.set_cons_succ, List.set_cons_zero]); exact rfl)); intro _ _ S1; clear S0)))
local macro_rules | `(tactic| kd_addB) => `(tactic| ((with_reducible rename InF _ _ _ _ _ => S0); ((with_reducible refine' go_dict0 (by assumption) S0 ?_); intro _ _ S1; clear S0)))
local macro_rules | `(tactic| krn_off) => `(tactic| with_reducible (first | exact sl_Builder_current_vtable _ | exact sl_Builder_forceDefaults _ | exact sl_Builder_nested _ | exact sl_Builder_objectEnd _ | exact sl_Builder_sharedStrings _ | exact sl_Builder_vectorNumElems _ | exact sl_Builder_vtables _ | exact sl_Builder_Bytes _ | exact sl_Builder_head _ | exact sl_Builder_minalign _ | exact sl_Builder_finished _ | exact sl_Table_Bytes _ | exact sl_Table_Pos _))
section
variable {prog : Program} {w : World} {Γ : Ctx} {R : Result → Shared → Prop} {h : Heap} {g : Array GenState} {d : Drawn} {t : Nat} {os : OsState} {mg mb : Str → Option Value} {I : PH} {Mu : List (Addr × Obj)} {P : Params} {B dx ba : Addr} {fin : Bool} {hd ma : Int} {th tm : Tok} {vt : Value} {bs : Array UInt8}
theorem Init_ok {r : Int} {u : Tok} (hc : Γ.code = .call (.ref 236) ⟨[.ref B, .int r u], []⟩) (o : OkB 6 Γ) (G : Gl (KK P) mg mb I) (hdx : I dx = some (dictOf [] 0)) (S : Hp I ((B, InstO 622 dx []) :: Mu) h) (h0 : 0 ≤ r) (h1 : r < 2 ^ 18)
    (k : ∀ h' t' ba th tm vt, Hp I ((B, Bl dx ba false r th 1 tm vt) :: (ba, BaO (Array.replicate r.toNat 0)) :: Mu) h' → R (.ok (.ret .none)) ⟨h', g, d, t', os⟩) : codeG (model prog w) Γ R ⟨h, g, d, t, os⟩ := by
  refine inS (F_BuilderU_initU P) (bd_BuilderU_initU P _ _) (unb := ["msg"]) rfl hc o G S rfl ?_
  intro Γ' env h' t' o' S' kg
  clear S
  dsimp only [List.map, List.append, List.cons_append, List.nil_append] at S'
  have f := flU P
  have hpy := f.py
  have hga := f.ga
  refine gx_cons ?_
  k_offL
  (with_reducible rename InF _ _ _ _ _ => S9)
  exact k _ _ _ _ _ _ (S9.hp.perm (.swap _ _ _))
theorem TInit_ok {u : Tok} (hc : Γ.code = .call (.ref 650) ⟨[.ref B, .ref ba, .int 0 u], []⟩) (o : OkB 4 Γ) (G : Gl (KK P) mg mb I) (hdx : I dx = some (dictOf [] 0)) (S : Hp I ((B, InstO 717 dx []) :: Mu) h)
    (k : ∀ h' t' tp, Hp I ((B, Tb dx ba tp) :: Mu) h' → R (.ok (.ret .none)) ⟨h', g, d, t', os⟩) : codeG (model prog w) Γ R ⟨h, g, d, t, os⟩ := by
  refine inS (F_TableU_initU P) (bd_TableU_initU P _ _ _) (unb := []) rfl hc o G S rfl ?_
  intro Γ' env h' t' o' S' kg
  clear S
  dsimp only [List.map, List.append, List.cons_append, List.nil_append] at S'
  have f := flU P
  refine gx_cons ?_
  k_offL
  (with_reducible rename InF _ _ _ _ _ => S0)
  obtain ⟨fr, SL, back⟩ := InF.lend S0
  refine g_ct (by assumption) fun Γ2 R2 hc2 o2 hR => ?_
  refine enforce_ok hc2 (OkB.le o2 (by decide)) G SL f.lo f.hi (by decide) (by decide) fun h2 t2 SL2 => hR _ _ ?_
  have S1 := back (_ :: _) _ SL2
  clear S0 SL SL2 back
  k_offL
  (with_reducible rename InF _ _ _ _ _ => S9)
  exact k _ _ _ S9.hp
end

local macro_rules | `(tactic| kd_addB) => `(tactic| ((with_reducible rename InF _ _ _ _ _ => S0); first
  | ((with_reducible refine' go_list (by assumption) S0 ?hz ?_); (case hz => (simp [sizeLine_eq])); intro _ _ S1; clear S0)
  | ((with_reducible refine' go_tuple (by assumption) S0 ?hz ?_); (case hz => (simp [sizeLine_eq])); intro _ _ S1; clear S0)
  | ((with_reducible refine' go_dict0 (by assumption) S0 ?_); intro _ _ S1; clear S0)
  | ((with_reducible refine' go_apm (by assumption) ?hl ?_); (case hl => k_clsL))
  | ((with_reducible refine' go_exm (by assumption) ?hl ?_); (case hl => k_clsL))
  | ((with_reducible refine' go_lenL (by assumption) ?hl ?hz ?_); (case hl => k_clsL); (case hz => omega); intro _ _)
  | ((with_reducible refine' go_app (by assumption) S0 ?uu ?hz ?_); (case uu => k_caughtN0); (case hz => omega); intro _ S1; clear S0)
  | ((with_reducible refine' go_range1 (by assumption) S0 ?_); intro _ _ _ _ _ S1; clear S0)
  | ((with_reducible refine' go_rev (by assumption) S0 ?hr ?h0 ?h1 ?_); (case hr => k_clsL); (case h0 => omega); (case h1 => omega); intro _ _ S1; clear S0)
  | ((with_reducible refine' go_iterL (by assumption) S0 ?hl ?_); (case hl => k_clsL); intro _ _ S1; clear S0)
  | ((with_reducible refine' go_iterR (by assumption) ?hl ?_); (case hl => k_clsL))
  | ((with_reducible refine' go_asN (by assumption) S0 ?uu ?_); (case uu => k_caught0); intro _ _ S1; clear S0)
  | ((with_reducible refine' go_pow2 (by assumption) ?h0 ?h1 ?_); (case h0 => omega); (case h1 => omega); intro _ _)
  | ((with_reducible refine' go_pow256 (by assumption) ?h0 ?h1 ?_); (case h0 => omega); (case h1 => omega); intro _ _)))
def Pi (xs : List Value) (tl : List UInt8) : Prop := IntsAre xs (tl.reverse.map fun b => (b.toNat : Int))
theorem Pi.len {xs : List Value} {tl : List UInt8} (p : Pi xs tl) : xs.length = tl.length := by have := IntsAre.length p; simpa using this
theorem Pi.push {xs : List Value} {tl : List UInt8} (p : Pi xs tl) {b : UInt8} {k : Int} {t : Tok} (hk : k = b.toNat) : Pi (xs ++ [.int k t]) (b :: tl) := by
  subst hk
  unfold Pi
  rw [List.reverse_cons, List.map_append]
  exact IntsAre.append p (.cons _ _ .nil)
theorem Pi.nil : Pi [] [] := IntsAre.nil
theorem fmN (a b : Nat) : ((a : Int)).fmod (b : Int) = ((a % b : Nat) : Int) := by rw [Int.fmod_eq_emod_of_nonneg _ (by omega)]; rfl
theorem fdN (a b : Nat) : ((a : Int)).fdiv (b : Int) = ((a / b : Nat) : Int) := by rw [Int.fdiv_eq_ediv_of_nonneg _ (by omega)]; rfl
section
variable {prog : Program} {w : World} {Γ : Ctx} {R : Result → Shared → Prop} {h : Heap} {g : Array GenState} {d : Drawn} {t : Nat} {os : OsState} {mg mb : Str → Option Value} {I : PH} {Mu : List (Addr × Obj)} {P : Params} {pl : Addr} {xs : List Value} {e : Nat} {tl : List UInt8}
theorem widths_ok (hc : Γ.code = .call (.ref 728) ⟨[], []⟩) (o : OkB 2 Γ) (G : Gl (KK P) mg mb I) (S : Hp I Mu h)
    (k : ∀ h' t' x a b c d', Hp I ((x, LiO [.int 1 a, .int 2 b, .int 4 c, .int 8 d'] 0) :: Mu) h' → R (.ok (.ret (.ref x))) ⟨h', g, d, t', os⟩) : codeG (model prog w) Γ R ⟨h, g, d, t, os⟩ := by
  refine inS (F__law_widths P) (bd__law_widths P) (unb := []) rfl hc o G S rfl ?_
  intro Γ' env h' t' o' S' kg
  clear S
  dsimp only [List.map, List.append, List.cons_append, List.nil_append] at S'
  refine gx_cons ?_
  k_offL
  (with_reducible rename InF _ _ _ _ _ => S9)
  exact k _ _ _ _ _ _ _ S9.hp
def flC (k : Nat) : Addr := if k = 0 then 64 else if k = 1 then 78 else if k = 2 then 92 else 106
theorem flags_ok {k : Nat} {u : Tok} (hc : Γ.code = .call (.ref 735) ⟨[.int k u], []⟩) (o : OkB 2 Γ) (G : Gl (KK P) mg mb I) (S : Hp I Mu h) (hk : k < 4)
    (hq : ∀ h' t', Hp I Mu h' → R (.ok (.ret (.ref (flC k)))) ⟨h', g, d, t', os⟩) : codeG (model prog w) Γ R ⟨h, g, d, t, os⟩ := by
  refine inS (F__law_flags P) (bd__law_flags P _) (unb := ["kinds"]) rfl hc o G S rfl ?_
  intro Γ' env h' t' o' S' kg
  clear S
  dsimp only [List.map, List.append, List.cons_append, List.nil_append] at S'
  refine gx_cons ?_
  k_offL
  (with_reducible rename InF _ _ _ _ _ => S9)
  refine go_getL (v := .ref (flC k)) (by assumption) (S9.get (.head _)) (by omega) (by omega) ?_ (by with_unfolding_all rfl) ?_
  · have : k = 0 ∨ k = 1 ∨ k = 2 ∨ k = 3 := by omega
    rcases this with rfl | rfl | rfl | rfl <;> rfl
  k_offL
  exact hq _ _ S9.hp.tail
theorem rep_succ {m : Nat} {tl : List UInt8} : List.replicate (m + 1) 0 ++ tl = List.replicate m (0 : UInt8) ++ (0 :: tl) := by
  rw [List.replicate_succ', List.append_assoc]; rfl
theorem up_ok {sz ad : Nat} {u v : Tok} (hc : Γ.code = .call (.ref 742) ⟨[.ref pl, .int sz u, .int ad v], []⟩) (o : OkB 4 Γ) (G : Gl (KK P) mg mb I) (S : Hp I ((pl, LiO xs e) :: Mu) h) (p : Pi xs tl)
    (h1 : 0 < sz) (h2 : sz ≤ 8) (h4 : ad ≤ 100) (hz : tl.length < 2 ^ 16)
    (k : ∀ h' t' xs' e', Pi xs' (pTail tl ad sz) → Hp I ((pl, LiO xs' e') :: Mu) h' → R (.ok (.ret .none)) ⟨h', g, d, t', os⟩) : codeG (model prog w) Γ R ⟨h, g, d, t, os⟩ := by
  refine inS (F__law_up P) (bd__law_up P _ _ _) (unb := []) rfl hc o G S rfl ?_
  intro Γ' env h' t' o' S' kg
  clear S
  dsimp only [List.map, List.append, List.cons_append, List.nil_append] at S'
  refine gx_cons ?_
  have hB : al tl.length ad sz < sz := al_lt h1
  refine gx_While' (n := 2) (by assumption) (fun m s => ∃ h t xs' e' tl', s = ⟨h, g, d, t, os⟩ ∧ m = al tl'.length ad sz ∧ InF I env [("pile", some (.ref pl)), ("width", some (.int sz u)), ("ahead", some (.int ad v))] ((pl, LiO xs' e') :: Mu) h ∧ Pi xs' tl' ∧ List.replicate m 0 ++ tl' = pTail tl ad sz) ?_ _ ⟨_, _, _, _, _, rfl, rfl, S', p, rfl⟩
  rintro Γ' m s o1 ⟨h, t, xs', e', tl', rfl, hm, S0, p', hr⟩
  clear S'
  have hxl := p'.len
  have hlen := congrArg List.length hr
  rw [pTail_len, List.length_append, List.length_replicate] at hlen
  have hzn : (sz : Int) ≠ 0 := by omega
  k_offL
  have hc1 : ((xs'.length : Int) + (ad : Int)).fmod sz = (((tl'.length + ad) % sz : Nat) : Int) := by rw [← fmN, hxl]; rfl
  rw [hc1]
  by_cases hb : (tl'.length + ad) % sz = 0
  · rw [hb]
    have hm0 : m = 0 := by rw [hm]; exact al_done hb
    subst hm0
    rw [if_neg (by decide)]
    k_offL
    (with_reducible rename InF _ _ _ _ _ => S9)
    rw [List.replicate_zero, List.nil_append] at hr
    exact k _ _ _ _ (hr ▸ p') S9.hp
  · rw [if_pos (bne_iff_ne.mpr (by omega))]
    have hm1 := al_step h1 hb
    k_offL
    (with_reducible rename InF _ _ _ _ _ => S9)
    obtain ⟨m', rfl⟩ : ∃ m', m = m' + 1 := ⟨m - 1, by omega⟩
    rw [rep_succ] at hr
    exact ⟨m', by omega, _, _, _, _, (0 :: tl'), rfl, by rw [List.length_cons]; omega, S9, p'.push rfl, hr⟩
theorem room_ok {r sz : Nat} {u v : Tok} (hc : Γ.code = .call (.ref 756) ⟨[.int r v, .ref pl, .int sz u], []⟩) (o : OkB 4 Γ) (G : Gl (KK P) mg mb I) (S : Hp I ((pl, LiO xs e) :: Mu) h) (p : Pi xs tl)
    (h1 : 0 < sz) (h2 : sz ≤ 8) (hz : tl.length < 2 ^ 16) (hl : tl.length ≤ r) (hr : r < 2 ^ 16)
    (k : ∀ h' t' tt, Hp I ((pl, LiO xs e) :: Mu) h' → R (.ok (.ret (.int (pRoom r tl 0 sz : Nat) tt))) ⟨h', g, d, t', os⟩) : codeG (model prog w) Γ R ⟨h, g, d, t, os⟩ := by
  refine inS (F__law_room P) (bd__law_room P _ _ _) (unb := ["need"]) rfl hc o G S rfl ?_
  intro Γ' env h' t' o' S' kg
  clear S
  dsimp only [List.map, List.append, List.cons_append, List.nil_append] at S'
  have hB : al tl.length 0 sz < sz := al_lt h1
  have hxl := p.len
  have hzn : (sz : Int) ≠ 0 := by omega
  refine gx_cons ?_
  k_offL
  (with_reducible rename InF _ _ _ _ _ => S1)
  refine gx_While' (n := 2) (by assumption) (fun m s => ∃ h t, ∃ n : Nat, ∃ tn, s = ⟨h, g, d, t, os⟩ ∧ n + m = sz + al tl.length 0 sz ∧ m = al (tl.length + n) 0 sz ∧ InF I env [("room", some (.int r v)), ("pile", some (.ref pl)), ("width", some (.int sz u)), ("need", some (.int n tn))] ((pl, LiO xs e) :: Mu) h) ?_ (al tl.length 0 sz) ⟨_, _, sz, _, rfl, rfl, ?_, S1⟩
  · rintro Γ' m s o1 ⟨h, t, n, tn, rfl, hnm, hm, S0⟩
    clear S1
    k_offL
    have hc1 : ((xs.length : Int) + (n : Int)).fmod sz = (((tl.length + n) % sz : Nat) : Int) := by rw [← fmN, hxl]; rfl
    rw [hc1]
    by_cases hb : (tl.length + n) % sz = 0
    · rw [hb]
      have hm0 : m = 0 := by rw [hm]; exact al_done hb
      subst hm0
      rw [if_neg (by decide)]
      k_offL
      (with_reducible rename InF _ _ _ _ _ => S9)
      rw [Nat.add_zero] at hnm
      refine gx_While' (n := 2) (by assumption) (fun m s => ∃ h t, ∃ r' : Nat, ∃ tr, s = ⟨h, g, d, t, os⟩ ∧ m = (tl.length + n) - r' ∧ InF I env [("room", some (.int r' tr)), ("pile", some (.ref pl)), ("width", some (.int sz u)), ("need", some (.int n tn))] ((pl, LiO xs e) :: Mu) h ∧ tl.length ≤ r' ∧ roomUp (tl.length + n) r' = roomUp (tl.length + n) r) ?_ _ ⟨_, _, r, _, rfl, rfl, S9, hl, rfl⟩
      rintro Γ'' m s o2 ⟨h3, t3, r', tr, rfl, hm, S0, hl', hr'⟩
      clear S9
      k_offL
      by_cases hb2 : (r' : Int) - xs.length < n
      · have hlt : r' < tl.length + n := by omega
        have hg := gsz_gt r'
        have hr2 := hr'
        rw [roomUp_lt hlt] at hr2
        by_cases hr0 : (r' : Int) > 0
        · have hg2 : gsz r' = 2 * r' := by unfold gsz; rw [if_neg (by omega)]
          k_offL
          (with_reducible rename InF _ _ _ _ _ => S9)
          rw [show (r' : Int) * 2 = ((gsz r' : Nat) : Int) by omega] at S9
          exact ⟨_, by omega, _, _, gsz r', _, rfl, rfl, S9, by omega, hr2⟩
        · have hg2 : gsz r' = 1 := by unfold gsz; rw [if_pos (by omega)]
          k_offL
          (with_reducible rename InF _ _ _ _ _ => S9)
          rw [show (1 : Int) = ((gsz r' : Nat) : Int) by omega] at S9
          exact ⟨_, by omega, _, _, gsz r', _, rfl, rfl, S9, by omega, hr2⟩
      · have hge : ¬ r' < tl.length + n := by omega
        rw [roomUp_ge hge] at hr'
        k_offL
        (with_reducible rename InF _ _ _ _ _ => S9)
        have hE : r' = pRoom r tl 0 sz := by unfold pRoom; rw [hr', hnm]; congr 1; omega
        rw [hE]
        exact k _ _ _ S9.hp
    · rw [if_pos (bne_iff_ne.mpr (by omega))]
      have hm1 := al_step (len := tl.length + n) (ad := 0) h1 (by rw [Nat.add_zero]; exact hb)
      k_offL
      (with_reducible rename InF _ _ _ _ _ => S9)
      exact ⟨m - 1, by omega, _, _, n + 1, _, rfl, by omega, by rw [show tl.length + (n + 1) = tl.length + n + 1 by omega]; omega, S9⟩
  · unfold al; rw [Nat.add_zero, Nat.add_zero, Nat.add_mod_right]
end

section
variable {prog : Program} {w : World} {Γ : Ctx} {R : Result → Shared → Prop} {h : Heap} {g : Array GenState} {d : Drawn} {t : Nat} {os : OsState} {mg mb : Str → Option Value} {I : PH} {Mu : List (Addr × Obj)} {P : Params} {pl : Addr} {xs : List Value} {e : Nat} {tl : List UInt8}
theorem emN {a : Int} {b : Nat} (h : 0 < b) : a.fmod (b : Int) = ((a % (b : Int)).toNat : Int) := by
  rw [Int.fmod_eq_emod_of_nonneg _ (by omega)]
  have := Int.emod_nonneg a (show (b : Int) ≠ 0 by omega)
  omega
theorem u8N (n : Nat) (h : n < 256) : (n.toUInt8.toNat) = n := by
  rw [Nat.toUInt8_eq, UInt8.toNat_ofNat']; omega
theorem lay_ok {sz : Nat} {x : Int} {u v : Tok} (hc : Γ.code = .call (.ref 749) ⟨[.ref pl, .int x v, .int sz u], []⟩) (o : OkB 4 Γ) (G : Gl (KK P) mg mb I) (S : Hp I ((pl, LiO xs e) :: Mu) h) (p : Pi xs tl)
    (h1 : 0 < sz) (h2 : sz ≤ 8) (hz : tl.length < 2 ^ 16)
    (k : ∀ h' t' xs' e', Pi xs' ((Builtin.Struct.intBytes false sz x).toList ++ tl) → Hp I ((pl, LiO xs' e') :: Mu) h' → R (.ok (.ret .none)) ⟨h', g, d, t', os⟩) : codeG (model prog w) Γ R ⟨h, g, d, t, os⟩ := by
  refine inS (F__law_lay P) (bd__law_lay P _ _ _) (unb := ["worth", "j"]) rfl hc o G S rfl ?_
  intro Γ' env h' t' o' S' kg
  clear S
  dsimp only [List.map, List.append, List.cons_append, List.nil_append] at S'
  have hp : (2 : Int) ^ ((8 * (sz : Int)).toNat) = ((2 ^ (8 * sz) : Nat) : Int) := by
    rw [show (8 * (sz : Int)).toNat = 8 * sz by omega]; norm_cast
  have hpp : 0 < 2 ^ (8 * sz) := Nat.two_pow_pos _
  generalize hN : (x % ((2 ^ (8 * sz) : Nat) : Int)).toNat = N
  have hI : (Builtin.Struct.intBytes false sz x).toList = (List.range sz).map fun k => (N / 256 ^ k % 256).toUInt8 := by
    unfold Builtin.Struct.intBytes Builtin.Memoryview.toLittleEndian
    rw [← hN]; norm_cast
  have hnz : (2 : Int) ^ ((8 * (sz : Int)).toNat) ≠ 0 := by rw [hp]; omega
  refine gx_cons ?_
  k_offL
  (with_reducible rename InF _ _ _ _ _ => S1)
  rw [hp, emN hpp, hN] at S1
  refine gx_For (n := 2) (by assumption) (fun _ => rfl) ?_
  k_offL
  (with_reducible rename InF _ _ _ _ _ => S9)
  rename_i it h9
  refine ⟨fun m s => ∃ h t xs' e' oj tw mu, s = ⟨h, g, d, t, os⟩ ∧ m ≤ sz ∧ InF I env [("pile", some (.ref pl)), ("x", some (.int x v)), ("width", some (.int sz u)), ("worth", some (.int N tw)), ("j", oj)] ((it, RiO ((m : Int) - 1) m (-1)) :: mu :: (pl, LiO xs' e') :: Mu) h ∧ Pi xs' ((List.range' m (sz - m)).map (fun k => (N / 256 ^ k % 256).toUInt8) ++ tl), sz, ?_, ?_⟩
  · exact ⟨_, _, _, _, _, _, _, rfl, Nat.le_refl _, S9, by rw [Nat.sub_self]; exact p⟩
  rintro Γ' m s o1 ⟨h, t, xs', e', oj, tw, mu, rfl, hm, S0, p'⟩
  clear S9
  have hxl := p'.len
  rw [List.length_append, List.length_map, List.length_range'] at hxl
  cases m with
  | zero =>
    refine go_nextRe (by assumption) S0 (by decide) fun h' S1 => ?_
    clear S0
    rw [Nat.sub_zero, ← List.range_eq_range', ← hI] at p'
    exact k _ _ _ _ p' (S1.hp.tail)
  | succ q =>
    rw [show ((q + 1 : Nat) : Int) - 1 = (q : Nat) by omega] at S0
    refine go_nextR (by assumption) S0 (by omega) fun h' t' k' S1 => ?_
    clear S0
    refine g_pure ?_
    have hj : (256 : Int) ^ ((q : Int)).toNat = ((256 ^ q : Nat) : Int) := by rw [Int.toNat_natCast]; norm_cast
    have hlg : (((256 ^ q : Nat) : Int)).natAbs.log2 < 9000 := by
      rw [Int.natAbs_natCast, show (256 : Nat) = 2 ^ 8 by rfl, ← Nat.pow_mul, Nat.log2_two_pow]; omega
    have hpos : 0 < 256 ^ q := Nat.pow_pos (by decide)
    k_offL
    rw [hj]
    refine go_fdivS (by assumption) (by omega) hlg ?_
    intro _ _
    rw [fdN]
    k_offL
    (with_reducible rename InF _ _ _ _ _ => S9)
    have hfm : ((N / 256 ^ q : Nat) : Int).fmod 256 = ((N / 256 ^ q % 256 : Nat) : Int) := fmN _ 256
    rw [show (q : Int) + -1 = (q : Int) - 1 by omega, show ((q + 1 : Nat) : Int) - 1 = (q : Nat) by omega, hfm] at S9
    refine ⟨q, by omega, _, _, _, _, _, _, _, rfl, by omega, S9, ?_⟩
    have hl : List.range' q (sz - q) = q :: List.range' (q + 1) (sz - (q + 1)) := by
      rw [show sz - q = (sz - (q + 1)) + 1 by omega, List.range'_succ]
    rw [hl, List.map_cons, List.cons_append]
    exact p'.push (by rw [u8N _ (Nat.mod_lt _ (by decide))])
end

theorem Rm1.lend {I : PH} {env : Env} {vs : Vs} {Mu M1 : List (Addr × Obj)} {h : Heap} {a : Addr} {o : Obj} (S : InF I env vs Mu h) (r1 : Rm1 a o Mu M1) : InF I env vs ((a, o) :: M1) h := S.perm r1.perm
section
variable {prog : Program} {w : World} {Γ : Ctx} {n : Nat} {h : Heap} {g : Array GenState} {d : Drawn} {t : Nat} {os : OsState} {env : Env} {mg mb : Str → Option Value} {I : PH} {vs : Vs} {Mu M1 M2 : List (Addr × Obj)} {P : Params} {Q : Value → Shared → Prop} {B dx ba pl : Addr} {fin : Bool} {hd ma : Int} {th tm : Tok} {vt : Value} {r e : Nat} {tl : List UInt8} {bs : Array UInt8} {xs : List Value}
theorem go_grow  (o : Ok (n + 6) Γ) (G : Gl (KK P) mg mb I) (hdx : I dx = some (dictOf [] 0)) (S : InF I env vs Mu h) (r1 : Rm1 B (Bl dx ba fin hd th ma tm vt) Mu M1) (r2 : Rm1 ba (BaO (img r tl)) M1 M2) (hl : tl.length ≤ r) (hz : r < 2 ^ 18) (hq : ∀ h' t' b2, InF I env vs ((B, Bl dx b2 fin hd th ma tm vt) :: (b2, BaO (img (gsz r) tl)) :: M2) h' → Q (.none) ⟨h', g, d, t', os⟩) : wpG (model prog w) Γ (call (.ref 278) [.ref B] []) Q ⟨h, g, d, t, os⟩ := by
  have S1 := S.perm (r1.perm.trans (r2.perm.cons _))
  obtain ⟨fr, SL, back⟩ := InF.lend S1
  refine g_ct o fun Γ2 R2 hc2 o2 hR => ?_
  exact Grow_img hc2 (OkB.le o2 (Nat.le_add_left _ _)) G hdx SL hl hz fun h2 t2 b2 SL2 => hR _ _ (hq h2 t2 b2 (back (_ :: _ :: _) _ SL2))
theorem go_offs  (o : Ok (n + 1) Γ) (G : Gl (KK P) mg mb I) (hdx : I dx = some (dictOf [] 0)) (S : InF I env vs Mu h) (r1 : Rm1 B (Bl dx ba fin hd th ma tm vt) Mu M1) (r2 : Rm1 ba (BaO (img r tl)) M1 M2) (hh : hd = r - tl.length) (hl : tl.length ≤ r) (hz : r < 2 ^ 18) (hq : ∀ h' t' tt, InF I env vs ((B, Bl dx ba fin hd th ma tm vt) :: (ba, BaO (img r tl)) :: M2) h' → Q (.int tl.length tt) ⟨h', g, d, t', os⟩) : wpG (model prog w) Γ (call (.ref 292) [.ref B] []) Q ⟨h, g, d, t, os⟩ := by
  have S1 := S.perm (r1.perm.trans (r2.perm.cons _))
  obtain ⟨fr, SL, back⟩ := InF.lend S1
  refine g_ct o fun Γ2 R2 hc2 o2 hR => ?_
  exact Offset_img hc2 (OkB.le o2 (Nat.le_add_left _ _)) G hdx SL hh hl hz fun h2 t2 tt SL2 => hR _ _ (hq h2 t2 tt (back (_ :: _ :: _) _ SL2))
theorem go_head  (o : Ok (n + 1) Γ) (G : Gl (KK P) mg mb I) (hdx : I dx = some (dictOf [] 0)) (S : InF I env vs Mu h) (r1 : Rm1 B (Bl dx ba fin hd th ma tm vt) Mu M1)  (hq : ∀ h' t', InF I env vs ((B, Bl dx ba fin hd th ma tm vt) :: M1) h' → Q (.int hd th) ⟨h', g, d, t', os⟩) : wpG (model prog w) Γ (call (.ref 285) [.ref B] []) Q ⟨h, g, d, t, os⟩ := by
  have S1 := S.perm r1.perm
  obtain ⟨fr, SL, back⟩ := InF.lend S1
  refine g_ct o fun Γ2 R2 hc2 o2 hR => ?_
  exact Head_ok hc2 (OkB.le o2 (Nat.le_add_left _ _)) G hdx SL fun h2 t2  SL2 => hR _ _ (hq h2 t2  (back (_ :: _) _ SL2))
theorem go_prepd {C st : Addr} {F : Array UInt8} {ch : Char} {wd : Nat} {tf tb tl' tx : Tok} {x : Int} {v : Tok} (o : Ok (n + 12) Γ) (G : Gl (KK P) mg mb I) (hdx : I dx = some (dictOf [] 0)) (S : InF I env vs Mu h) (r1 : Rm1 B (Bl dx ba fin hd th ma tm vt) Mu M1) (r2 : Rm1 ba (BaO (img r tl)) M1 M2) (f : Flg P C st F ch wd tf tb tl' tx) (hx : 0 ≤ x) (hx1 : x < 2 ^ (8 * wd)) (hh : hd = r - tl.length) (hl : tl.length ≤ r) (hz : r < 2 ^ 16) (hq : ∀ h' t' b2 th' tm', InF I env vs ((B, Bl dx b2 fin (pRoom r tl 0 wd - (pTail tl 0 wd).length - wd) th' (max ma wd) tm' vt) :: (b2, BaO (img (pRoom r tl 0 wd) ((Builtin.Struct.intBytes false wd x).toList ++ pTail tl 0 wd))) :: M2) h' → Q (.none) ⟨h', g, d, t', os⟩) : wpG (model prog w) Γ (call (.ref 415) [.ref B, .ref C, .int x v] []) Q ⟨h, g, d, t, os⟩ := by
  have S1 := S.perm (r1.perm.trans (r2.perm.cons _))
  obtain ⟨fr, SL, back⟩ := InF.lend S1
  refine g_ct o fun Γ2 R2 hc2 o2 hR => ?_
  exact Prepend_ok hc2 (OkB.le o2 (Nat.le_add_left _ _)) G hdx f SL hx hx1 hh hl hz fun h2 t2 b2 th' tm' SL2 => hR _ _ (hq h2 t2 b2 th' tm' (back (_ :: _ :: _) _ SL2))
theorem go_prepu {off : Int} {v : Tok} (o : Ok (n + 12) Γ) (G : Gl (KK P) mg mb I) (hdx : I dx = some (dictOf [] 0)) (S : InF I env vs Mu h) (r1 : Rm1 B (Bl dx ba fin hd th ma tm vt) Mu M1) (r2 : Rm1 ba (BaO (img r tl)) M1 M2) (hx : 0 ≤ off) (hx1 : off ≤ (pTail tl 0 4).length) (hh : hd = r - tl.length) (hl : tl.length ≤ r) (hz : r < 2 ^ 16) (hq : ∀ h' t' b2 th' tm', InF I env vs ((B, Bl dx b2 fin (pRoom r tl 0 4 - (pTail tl 0 4).length - 4) th' (max ma 4) tm' vt) :: (b2, BaO (img (pRoom r tl 0 4) ((Builtin.Struct.intBytes false 4 ((pTail tl 0 4).length - off + 4)).toList ++ pTail tl 0 4))) :: M2) h' → Q (.none) ⟨h', g, d, t', os⟩) : wpG (model prog w) Γ (call (.ref 320) [.ref B, .int off v] []) Q ⟨h, g, d, t, os⟩ := by
  have S1 := S.perm (r1.perm.trans (r2.perm.cons _))
  obtain ⟨fr, SL, back⟩ := InF.lend S1
  refine g_ct o fun Γ2 R2 hc2 o2 hR => ?_
  exact PrependU_ok hc2 (OkB.le o2 (Nat.le_add_left _ _)) G hdx SL hx hx1 hh hl hz fun h2 t2 b2 th' tm' SL2 => hR _ _ (hq h2 t2 b2 th' tm' (back (_ :: _ :: _) _ SL2))
theorem go_fin {m : Nat} {off : Int} {v : Tok} (o : Ok (n + 16) Γ) (G : Gl (KK P) mg mb I) (hdx : I dx = some (dictOf [] 0)) (S : InF I env vs Mu h) (r1 : Rm1 B (Bl dx ba fin hd th m tm vt) Mu M1) (r2 : Rm1 ba (BaO (img r tl)) M1 M2) (hm : ∃ j, m = 2 ^ j) (hm8 : m ≤ 8) (hx : 0 ≤ off) (hx1 : off ≤ tl.length) (hh : hd = r - tl.length) (hl : tl.length ≤ r) (hz : r < 2 ^ 16) (hz1 : pRoom r tl 4 m < 2 ^ 16) (hq : ∀ h' t' b2 th' tm' hd', hd' = (pRoom (pRoom r tl 4 m) (pTail tl 4 m) 0 4 : Nat) - ((pTail (pTail tl 4 m) 0 4).length : Nat) - (4 : Int) → InF I env vs ((B, Bl dx b2 true hd' th' (max (max m m) 4) tm' vt) :: (b2, BaO (img (pRoom (pRoom r tl 4 m) (pTail tl 4 m) 0 4) ((Builtin.Struct.intBytes false 4 ((pTail (pTail tl 4 m) 0 4).length - off + 4)).toList ++ pTail (pTail tl 4 m) 0 4))) :: M2) h' → Q (.int hd' th') ⟨h', g, d, t', os⟩) : wpG (model prog w) Γ (call (.ref 400) [.ref B, .int off v] []) Q ⟨h, g, d, t, os⟩ := by
  have S1 := S.perm (r1.perm.trans (r2.perm.cons _))
  obtain ⟨fr, SL, back⟩ := InF.lend S1
  refine g_ct o fun Γ2 R2 hc2 o2 hR => ?_
  exact Finish_ok hc2 (OkB.le o2 (Nat.le_add_left _ _)) G hdx SL hm hm8 hx hx1 hh hl hz hz1 fun h2 t2 b2 th' tm' hd' he SL2 => hR _ _ (hq h2 t2 b2 th' tm' hd' he (back (_ :: _ :: _) _ SL2))
theorem go_outp  (o : Ok (n + 2) Γ) (G : Gl (KK P) mg mb I) (hdx : I dx = some (dictOf [] 0)) (S : InF I env vs Mu h) (r1 : Rm1 B (Bl dx ba true hd th ma tm vt) Mu M1) (r2 : Rm1 ba (BaO (img r tl)) M1 M2) (hh : hd = r - tl.length) (hl : tl.length ≤ r) (hz : r < 2 ^ 18) (hq : ∀ h' t' e, InF I env vs ((e, BaO tl.toArray) :: (B, Bl dx ba true hd th ma tm vt) :: (ba, BaO (img r tl)) :: M2) h' → Q (.ref e) ⟨h', g, d, t', os⟩) : wpG (model prog w) Γ (call (.ref 250) [.ref B] []) Q ⟨h, g, d, t, os⟩ := by
  have S1 := S.perm (r1.perm.trans (r2.perm.cons _))
  obtain ⟨fr, SL, back⟩ := InF.lend S1
  refine g_ct o fun Γ2 R2 hc2 o2 hR => ?_
  exact Output_ok hc2 (OkB.le o2 (Nat.le_add_left _ _)) G hdx SL hh hl hz fun h2 t2 e SL2 => hR _ _ (hq h2 t2 e (back (_ :: _ :: _ :: _) _ SL2))
theorem go_indir {T : Addr} {tp : Tok} {off : Int} {u : Tok} (o : Ok (n + 4) Γ) (G : Gl (KK P) mg mb I) (hdx : I dx = some (dictOf [] 0)) (S : InF I env vs Mu h) (r1 : Rm1 T (Tb dx ba tp) Mu M1) (r2 : Rm1 ba (BaO bs) M1 M2) (h0 : 0 ≤ off) (h1 : off + 4 ≤ bs.size) (hz : bs.size < 2 ^ 20) (hq : ∀ h' t' tt, InF I env vs ((T, Tb dx ba tp) :: (ba, BaO bs) :: M2) h' → Q (.int (off + (Builtin.Struct.natOf false (bs.extract off.toNat (off.toNat + 4)) : Nat)) tt) ⟨h', g, d, t', os⟩) : wpG (model prog w) Γ (call (.ref 664) [.ref T, .int off u] []) Q ⟨h, g, d, t, os⟩ := by
  have S1 := S.perm (r1.perm.trans (r2.perm.cons _))
  obtain ⟨fr, SL, back⟩ := InF.lend S1
  refine g_ct o fun Γ2 R2 hc2 o2 hR => ?_
  exact Indirect_ok hc2 (OkB.le o2 (Nat.le_add_left _ _)) G hdx SL h0 h1 hz fun h2 t2 tt SL2 => hR _ _ (hq h2 t2 tt (back (_ :: _ :: _) _ SL2))
theorem go_tget {T C st : Addr} {F : Array UInt8} {ch : Char} {wd : Nat} {tf tb tl' tx tp : Tok} {off : Int} {u : Tok} (o : Ok (n + 4) Γ) (G : Gl (KK P) mg mb I) (hdx : I dx = some (dictOf [] 0)) (S : InF I env vs Mu h) (r1 : Rm1 T (Tb dx ba tp) Mu M1) (r2 : Rm1 ba (BaO bs) M1 M2) (f : Flg P C st F ch wd tf tb tl' tx) (h0 : 0 ≤ off) (h1 : off + wd ≤ bs.size) (hz : bs.size < 2 ^ 20) (hq : ∀ h' t' tt, InF I env vs ((T, Tb dx ba tp) :: (ba, BaO bs) :: M2) h' → Q (.int (Builtin.Struct.natOf false (bs.extract off.toNat (off.toNat + wd)) : Nat) tt) ⟨h', g, d, t', os⟩) : wpG (model prog w) Γ (call (.ref 699) [.ref T, .ref C, .int off u] []) Q ⟨h, g, d, t, os⟩ := by
  have S1 := S.perm (r1.perm.trans (r2.perm.cons _))
  obtain ⟨fr, SL, back⟩ := InF.lend S1
  refine g_ct o fun Γ2 R2 hc2 o2 hR => ?_
  exact TGet_ok hc2 (OkB.le o2 (Nat.le_add_left _ _)) G f hdx SL h0 h1 hz fun h2 t2 tt SL2 => hR _ _ (hq h2 t2 tt (back (_ :: _ :: _) _ SL2))
theorem go_up {sz ad : Nat} {u v : Tok} (o : Ok (n + 4) Γ) (G : Gl (KK P) mg mb I) (S : InF I env vs Mu h) (r1 : Rm1 pl (LiO xs e) Mu M1) (p : Pi xs tl) (h1 : 0 < sz) (h2 : sz ≤ 8) (h4 : ad ≤ 100) (hz : tl.length < 2 ^ 16) (hq : ∀ h' t' xs' e', Pi xs' (pTail tl ad sz) → InF I env vs ((pl, LiO xs' e') :: M1) h' → Q (.none) ⟨h', g, d, t', os⟩) : wpG (model prog w) Γ (call (.ref 742) [.ref pl, .int sz u, .int ad v] []) Q ⟨h, g, d, t, os⟩ := by
  have S1 := S.perm r1.perm
  obtain ⟨fr, SL, back⟩ := InF.lend S1
  refine g_ct o fun Γ2 R2 hc2 o2 hR => ?_
  exact up_ok hc2 (OkB.le o2 (Nat.le_add_left _ _)) G SL p h1 h2 h4 hz fun h2 t2 xs' e' p' SL2 => hR _ _ (hq h2 t2 xs' e' p' (back (_ :: _) _ SL2))
theorem go_layp {sz : Nat} {x : Int} {u v : Tok} (o : Ok (n + 4) Γ) (G : Gl (KK P) mg mb I) (S : InF I env vs Mu h) (r1 : Rm1 pl (LiO xs e) Mu M1) (p : Pi xs tl) (h1 : 0 < sz) (h2 : sz ≤ 8) (hz : tl.length < 2 ^ 16) (hq : ∀ h' t' xs' e', Pi xs' ((Builtin.Struct.intBytes false sz x).toList ++ tl) → InF I env vs ((pl, LiO xs' e') :: M1) h' → Q (.none) ⟨h', g, d, t', os⟩) : wpG (model prog w) Γ (call (.ref 749) [.ref pl, .int x v, .int sz u] []) Q ⟨h, g, d, t, os⟩ := by
  have S1 := S.perm r1.perm
  obtain ⟨fr, SL, back⟩ := InF.lend S1
  refine g_ct o fun Γ2 R2 hc2 o2 hR => ?_
  exact lay_ok hc2 (OkB.le o2 (Nat.le_add_left _ _)) G SL p h1 h2 hz fun h2 t2 xs' e' p' SL2 => hR _ _ (hq h2 t2 xs' e' p' (back (_ :: _) _ SL2))
theorem go_room {sz : Nat} {u v : Tok} (o : Ok (n + 4) Γ) (G : Gl (KK P) mg mb I) (S : InF I env vs Mu h) (r1 : Rm1 pl (LiO xs e) Mu M1) (p : Pi xs tl) (h1 : 0 < sz) (h2 : sz ≤ 8) (hz : tl.length < 2 ^ 16) (hl : tl.length ≤ r) (hr : r < 2 ^ 16) (hq : ∀ h' t' tt, InF I env vs ((pl, LiO xs e) :: M1) h' → Q (.int (pRoom r tl 0 sz : Nat) tt) ⟨h', g, d, t', os⟩) : wpG (model prog w) Γ (call (.ref 756) [.int r v, .ref pl, .int sz u] []) Q ⟨h, g, d, t, os⟩ := by
  have S1 := S.perm r1.perm
  obtain ⟨fr, SL, back⟩ := InF.lend S1
  refine g_ct o fun Γ2 R2 hc2 o2 hR => ?_
  exact room_ok hc2 (OkB.le o2 (Nat.le_add_left _ _)) G SL p h1 h2 hz hl hr fun h2 t2 tt SL2 => hR _ _ (hq h2 t2 tt (back (_ :: _) _ SL2))
theorem go_widths  (o : Ok (n + 2) Γ) (G : Gl (KK P) mg mb I) (S : InF I env vs Mu h)   (hq : ∀ h' t' x a b c d', InF I env vs ((x, LiO [.int 1 a, .int 2 b, .int 4 c, .int 8 d'] 0) :: Mu) h' → Q (.ref x) ⟨h', g, d, t', os⟩) : wpG (model prog w) Γ (call (.ref 728) [] []) Q ⟨h, g, d, t, os⟩ := by
  have S1 := S
  obtain ⟨fr, SL, back⟩ := InF.lend S1
  refine g_ct o fun Γ2 R2 hc2 o2 hR => ?_
  exact widths_ok hc2 (OkB.le o2 (Nat.le_add_left _ _)) G SL fun h2 t2 x a b c d' SL2 => hR _ _ (hq h2 t2 x a b c d' (back (_ :: _) _ SL2))
theorem go_flags {k : Nat} {u : Tok} (o : Ok (n + 2) Γ) (G : Gl (KK P) mg mb I) (S : InF I env vs Mu h)  (hk : k < 4) (hq : ∀ h' t', InF I env vs (Mu) h' → Q (.ref (flC k)) ⟨h', g, d, t', os⟩) : wpG (model prog w) Γ (call (.ref 735) [.int k u] []) Q ⟨h, g, d, t, os⟩ := by
  have S1 := S
  obtain ⟨fr, SL, back⟩ := InF.lend S1
  refine g_ct o fun Γ2 R2 hc2 o2 hR => ?_
  exact flags_ok hc2 (OkB.le o2 (Nat.le_add_left _ _)) G SL hk fun h2 t2  SL2 => hR _ _ (hq h2 t2  (back (_) _ SL2))
theorem flk (P : Params) {k : Nat} (hk : k < 4) : ∃ st F ch tf tb tl tx, Flg P (flC k) st F ch (2 ^ k) tf tb tl tx := by
  have : k = 0 ∨ k = 1 ∨ k = 2 ∨ k = 3 := by omega
  rcases this with rfl | rfl | rfl | rfl
  · exact ⟨_, _, _, _, _, _, _, fl8 P⟩
  · exact ⟨_, _, _, _, _, _, _, fl16 P⟩
  · exact ⟨_, _, _, _, _, _, _, fl32 P⟩
  · exact ⟨_, _, _, _, _, _, _, fl64 P⟩
theorem mk_Builder (P : Params) : makesIn (KK P) 622 = true := by kernel_rfl
theorem mk_Table (P : Params) : makesIn (KK P) 717 = true := by kernel_rfl
theorem go_Bld {u : Tok} {a : Int} (o : Ok (n + 8) Γ) (G : Gl (KK P) mg mb I) (S : InF I env vs Mu h) (h0 : 0 ≤ a) (h1 : a < 2 ^ 18)
    (hq : ∀ J h' t' B dx ba th tm vt, Le I J → J dx = some (dictOf [] 0) → InF J env vs ((B, Bl dx ba false a th 1 tm vt) :: (ba, BaO (Array.replicate a.toNat 0)) :: Mu) h' → Q (.ref B) ⟨h', g, d, t', os⟩) : wpG (model prog w) Γ (call (.ref 622) [.int a u] []) Q ⟨h, g, d, t, os⟩ := by
  obtain ⟨fr, SL, back⟩ := InF.lendJ S
  have F := me_BuilderU_initU P
  refine g_make (n := n + 4) (fI := 236) o G SL (mk_Builder P) F.fi F.ty fun Γ2 R2 x dx J h2 hc2 o2 G2 lj hdx S2 hR => ?_
  exact Init_ok hc2 (OkB.le o2 (by omega)) G2 hdx S2 h0 h1 fun h3 t3 ba th tm vt S3 => hR _ (hq J h3 t3 x dx ba th tm vt lj hdx (back J (_ :: _ :: _) _ S3))
theorem go_Tbl {u : Tok} (o : Ok (n + 8) Γ) (G : Gl (KK P) mg mb I) (S : InF I env vs Mu h)
    (hq : ∀ J h' t' T dx tp, Le I J → J dx = some (dictOf [] 0) → InF J env vs ((T, Tb dx ba tp) :: Mu) h' → Q (.ref T) ⟨h', g, d, t', os⟩) : wpG (model prog w) Γ (call (.ref 717) [.ref ba, .int 0 u] []) Q ⟨h, g, d, t, os⟩ := by
  obtain ⟨fr, SL, back⟩ := InF.lendJ S
  have F := me_TableU_initU P
  refine g_make (n := n + 4) (fI := 650) o G SL (mk_Table P) F.fi F.ty fun Γ2 R2 x dx J h2 hc2 o2 G2 lj hdx S2 hR => ?_
  exact TInit_ok hc2 (OkB.le o2 (by omega)) G2 hdx S2 fun h3 t3 tp S3 => hR _ (hq J h3 t3 x dx tp lj hdx (back J (_ :: _) _ S3))
end

def At (tl : List UInt8) (p : Nat) (bs : List UInt8) : Prop := ∃ a c, tl = a ++ (bs ++ c) ∧ (bs ++ c).length = p
theorem At.pre {tl : List UInt8} {p : Nat} {bs : List UInt8} (x : List UInt8) (h : At tl p bs) : At (x ++ tl) p bs := by
  obtain ⟨a, c, rfl, e⟩ := h
  exact ⟨x ++ a, c, by rw [List.append_assoc], e⟩
theorem At.new (bs tl : List UInt8) : At (bs ++ tl) (bs ++ tl).length bs := ⟨[], tl, rfl, rfl⟩
theorem At.le {tl : List UInt8} {p : Nat} {bs : List UInt8} (h : At tl p bs) : bs.length ≤ p ∧ p ≤ tl.length := by
  obtain ⟨a, c, rfl, e⟩ := h
  simp only [List.length_append] at e ⊢
  omega
theorem At.get {tl : List UInt8} {p : Nat} {bs : List UInt8} (h : At tl p bs) : tl.toArray.extract (tl.length - p) (tl.length - p + bs.length) = bs.toArray := by
  obtain ⟨a, c, rfl, e⟩ := h
  have : (a ++ (bs ++ c)).length - p = a.length := by
    rw [List.length_append, ← e]; omega
  rw [this]
  apply Array.toList_inj.mp
  rw [Array.toList_extract]
  simp [List.extract_eq_take_drop]
theorem le_fold (n : Nat) : ∀ (w s : Nat), (((List.range' s w).map fun k => (n / 256 ^ k % 256).toUInt8).foldr (fun c n => n * 256 + c.toNat) 0) = n / 256 ^ s % 256 ^ w
  | 0, s => by rw [Nat.pow_zero, Nat.mod_one]; rfl
  | w + 1, s => by
    rw [List.range'_succ, List.map_cons, List.foldr_cons, le_fold n w (s + 1)]
    have h1 : ((n / 256 ^ s % 256).toUInt8).toNat = n / 256 ^ s % 256 := by
      have := Nat.mod_lt (n / 256 ^ s) (show 0 < 256 by decide)
      rw [Nat.toUInt8_eq, UInt8.toNat_ofNat']; omega
    rw [h1, Nat.pow_succ 256 s, ← Nat.div_div_eq_div_mul, Nat.pow_succ 256 w, Nat.mul_comm (256 ^ w) 256, Nat.mod_mul]
    omega
theorem ib_size (w : Nat) (x : Int) : (Builtin.Struct.intBytes false w x).toList.length = w := by
  unfold Builtin.Struct.intBytes Builtin.Memoryview.toLittleEndian
  simp
theorem nat_ib (w : Nat) (x : Int) : (Builtin.Struct.natOf false (Builtin.Struct.intBytes false w x) : Int) = x % ((2 ^ (8 * w) : Nat) : Int) := by
  have hp : 0 < 2 ^ (8 * w) := Nat.two_pow_pos _
  have h0 := Int.emod_nonneg x (show ((2 ^ (8 * w) : Nat) : Int) ≠ 0 by omega)
  have h1 := Int.emod_lt_of_pos x (show (0 : Int) < ((2 ^ (8 * w) : Nat) : Int) by omega)
  have e : Builtin.Struct.intBytes false w x = Builtin.Memoryview.toLittleEndian w (x % ((2 ^ (8 * w) : Nat) : Int)).toNat := by
    unfold Builtin.Struct.intBytes
    norm_cast
  rw [e]
  unfold Builtin.Struct.natOf Builtin.Memoryview.littleEndian Builtin.Memoryview.toLittleEndian
  rw [if_neg (by decide), List.foldr_toArray, List.range_eq_range', le_fold, Nat.pow_zero, Nat.div_one, show (256 : Nat) = 2 ^ 8 by rfl, ← Nat.pow_mul, Nat.mod_eq_of_lt (by omega)]
  omega
theorem At.nat {tl : List UInt8} {p w : Nat} {x : Int} (h : At tl p (Builtin.Struct.intBytes false w x).toList) (h0 : 0 ≤ x) (h1 : x < 2 ^ (8 * w)) : (Builtin.Struct.natOf false (tl.toArray.extract (tl.length - p) (tl.length - p + w)) : Int) = x := by
  have := h.get
  rw [ib_size] at this
  rw [this, Array.toArray_toList, nat_ib]
  exact Int.emod_eq_of_lt h0 (by first | exact h1 | (norm_cast; done) | (norm_cast; exact h1))
theorem B_prep {g i T w : Nat} (h : T ≤ 4 ^ g * (11 + 15 * i)) (hw : w ≤ 15) : T + w ≤ 4 ^ g * (11 + 15 * (i + 1)) := by
  have : 0 < 4 ^ g := Nat.pow_pos (by decide)
  have e : 4 ^ g * (11 + 15 * (i + 1)) = 4 ^ g * (11 + 15 * i) + 15 * 4 ^ g := by
    rw [show 11 + 15 * (i + 1) = (11 + 15 * i) + 15 by omega, Nat.mul_add]; omega
  omega
theorem B_grow {g i T r : Nat} (h : T ≤ 4 ^ g * (11 + 15 * i)) (hr : r ≤ 11 ∨ r ≤ 2 * T) : T + (gsz r - r) ≤ 4 ^ (g + 1) * (11 + 15 * (i + 1)) := by
  have h4 : 0 < 4 ^ g := Nat.pow_pos (by decide)
  have e : 4 ^ (g + 1) * (11 + 15 * (i + 1)) = 4 * (4 ^ g * (11 + 15 * i)) + 60 * 4 ^ g := by
    rw [Nat.pow_succ, show 11 + 15 * (i + 1) = (11 + 15 * i) + 15 by omega, Nat.mul_add, Nat.mul_comm (4 ^ g) 4, Nat.mul_assoc, Nat.mul_assoc]; omega
  have : gsz r - r ≤ 1 ∨ gsz r - r ≤ r := by unfold gsz; split <;> omega
  omega
theorem R_prep {T T' r m : Nat} (hr : r ≤ 11 ∨ r ≤ 2 * T) (hT : T ≤ T') (hm : m ≤ T') : roomUp m r ≤ 11 ∨ roomUp m r ≤ 2 * T' := by
  have := roomUp_bound m r
  omega
theorem R_grow {T r : Nat} (hT : T ≤ r) : gsz r ≤ 2 * (T + (gsz r - r)) := by unfold gsz; split <;> omega
theorem B_end {g i T : Nat} (hg : g ≤ 3) (hi : i ≤ 12) (h : T ≤ 4 ^ g * (11 + 15 * i)) : T ≤ 12224 := by
  have h1 : 4 ^ g ≤ 4 ^ 3 := Nat.pow_le_pow_right (by decide) hg
  have h2 : 4 ^ g * (11 + 15 * i) ≤ 64 * 191 := Nat.mul_le_mul h1 (by omega)
  omega

theorem pick_12 (items : Array Value) : (slicePick items (some 1) (some 13) none).toList.length ≤ 12 := by
  rw [slicePick_plain]
  simp only [Option.elim]
  have h1 : clipAt items.size 13 = min 13 items.size := by unfold clipAt; simp; try omega
  have h2 : clipAt items.size 1 = min 1 items.size := by unfold clipAt; simp; try omega
  rw [h1, h2]
  simp
  omega
theorem pick_rev (items : Array Value) : (slicePick items none none (some (-1))).toList = items.toList.reverse := by
  rw [krv_pick]
section
variable {prog : Program} {w : World} {Γ : Ctx} {n : Nat} {h : Heap} {g : Array GenState} {d : Drawn} {t : Nat} {os : OsState} {env : Env} {I : PH} {vs : Vs} {Mu : List (Addr × Obj)} {Q : Value → Shared → Prop} {l : Addr} {xs : List Value} {u : Tok} {k : Int}
theorem go_trS {Q : Bool → Shared → Prop} (o : Ok n Γ) (hl : h.IsList l xs.toArray) (hz : xs.length < 2 ^ 20) (hq : ∀ k, Q (!xs.isEmpty) ⟨h, g, d, k, os⟩) : wpG (model prog w) Γ (truthy (.ref l)) Q ⟨h, g, d, t, os⟩ := by
  refine g_leaf o (wpAny_truthy_list (s := ⟨h, g, d, t, os⟩) hl (by rw [List.size_toArray]; omega) ?_)
  rw [show xs.toArray.isEmpty = xs.isEmpty by cases xs <;> rfl]; exact hq _
theorem go_getS {value slice : Expr} {v : Value} (o : Ok n Γ) (hl : h.IsList l xs.toArray) (h0 : 0 ≤ k) (h1 : k < 2 ^ 63) (hx : xs[k.toNat]? = some v)
    (hs : subscripted slice false (.ref l) (.int k u) = operate [.ref l, .int k u] (getItem (.ref l) (.int k u))) (hq : Q v ⟨h, g, d, t, os⟩) : wpG (model prog w) Γ (subscriptTail value slice (.ref l) (.int k u)) Q ⟨h, g, d, t, os⟩ := by
  refine g_leaf o (kba_turn (value' := .Name (Str.ofString "x") default) (fun r => rfl) ?_)
  exact subscriptTail_ops (s := ⟨h, g, d, t, os⟩) hl.typeIs slot_list_getitem.lookup (wpAny_getItem_list (s := ⟨h, g, d, t, os⟩) hl h0 h1 (by rw [List.getElem?_toArray]; exact hx) hq) hs (fun r => rfl)
theorem go_slS {value slice : Expr} {sl : Addr} {vl vu vst : Value} {lo hi st : Option Int} (o : Ok n Γ) (S : InF I env vs Mu h) (hl : h.IsList l xs.toArray) (hsl : h.get? sl = some (SlO vl vu vst)) (pl : IsPart vl lo) (pu : IsPart vu hi) (ps : IsPart vst st) (h0 : st ≠ some 0) (hz : xs.length < 2 ^ 20)
    (hs : subscripted slice false (.ref l) (.ref sl) = operate [.ref sl, .ref l] (getItem (.ref l) (.ref sl)))
    (hq : ∀ x h', InF I env vs ((x, LiO (slicePick xs.toArray lo hi st).toList 0) :: Mu) h' → Q (.ref x) ⟨h', g, d, t, os⟩) : wpG (model prog w) Γ (subscriptTail value slice (.ref l) (.ref sl)) Q ⟨h, g, d, t, os⟩ := by
  refine g_leaf o (kba_turn (value' := .Name (Str.ofString "x") default) (fun r => rfl) ?_)
  refine subscriptTail_ops (s := ⟨h, g, d, t, os⟩) hl.typeIs slot_list_getitem.lookup ?_ hs (fun r => rfl)
  exact wpAny_getItem_list_slice (s := ⟨h, g, d, t, os⟩) hl ⟨_, hsl, rfl, rfl⟩ pl pu ps h0 (hq _ _ (S.push _)) (by rw [List.size_toArray, sizeLine_eq]; omega)
end

local macro_rules | `(tactic| kd_addB) => `(tactic| ((with_reducible rename InF _ _ _ _ _ => S0); first
  | ((with_reducible refine' go_grow (by assumption) (by assumption) (by assumption) S0 ?r1 ?r2 ?hl ?hz ?_); (case r1 => k_caughtNB); (case r2 => k_caughtNB); (case hl => omega); (case hz => omega); intro _ _ _ S1; clear S0)
  | ((with_reducible refine' go_offs (by assumption) (by assumption) (by assumption) S0 ?r1 ?r2 ?hh ?hl ?hz ?_); (case r1 => k_caughtNB); (case r2 => k_caughtNB); (case hh => first | exact rfl | omega); (case hl => omega); (case hz => omega); intro _ _ _ S1; clear S0)
  | ((with_reducible refine' go_head (by assumption) (by assumption) (by assumption) S0 ?r1 ?_); (case r1 => k_caughtNB); intro _ _ S1; clear S0)
  | ((with_reducible refine' go_widths (by assumption) (by assumption) S0 ?_); intro _ _ _ _ _ _ _ S1; clear S0)
  | ((with_reducible refine' go_flags (by assumption) (by assumption) S0 ?hk ?_); (case hk => omega); intro _ _ S1; clear S0)
  | ((with_reducible refine' go_neE (by assumption) ?hl ?hb ?_); (case hb => k_clsL); (case hl => k_clsL))
  | ((with_reducible refine' go_max (by assumption) S0 ?_); intro _ _ _ S1; clear S0)
  | ((with_reducible refine' go_lmul (by assumption) S0 ?hl ?h0 ?h1 ?_); (case hl => k_clsL); (case h0 => omega); (case h1 => omega); intro _ _ S1; clear S0)))
def fB : Option Stmt → List Stmt
  | some (.For _ _ b _ _) => b
  | _ => []
def iB : Option Stmt → List Stmt
  | some (.If _ b _ _) => b
  | _ => []
def iE : Option Stmt → List Stmt
  | some (.If _ _ b _) => b
  | _ => []
noncomputable abbrev bdL : List Stmt := fB (pB PW 37)[8]?
abbrev Vl (sc op : Option Value) (r : Nat) (tr : Tok) (B pl nl wl : Addr) (gN : Nat) (tg : Tok) (m : Nat) (tb : Tok) (number door k rest wider target width x root place : Option Value) : Vs :=
  [("script", sc), ("options", op), ("room", some (.int r tr)), ("b", some (.ref B)), ("pile", some (.ref pl)), ("numbers", some (.ref nl)), ("ways", some (.ref wl)), ("grown", some (.int gN tg)), ("big", some (.int m tb)), ("number", number), ("door", door), ("k", k), ("rest", rest), ("wider", wider), ("target", target), ("width", width), ("x", x), ("root", root), ("place", place)]
section
variable {prog : Program} {w : World} {Γ : Ctx} {n : Nat} {h : Heap} {g : Array GenState} {d : Drawn} {t : Nat} {os : OsState} {env : Env} {mg mb : Str → Option Value} {I : PH} {Mu : List (Addr × Obj)} {P : Params} {Q : Flow → Shared → Prop} {B dx ba pl nl wl : Addr} {vt : Value} {r m gN e : Nat} {tl : List UInt8} {xs : List Value} {sc op number door k rest wider target width x root place : Option Value} {th tm tr tg tb : Tok}
theorem rep_ints {u : Tok} {a b : Nat} (e : a = b) : IntsAre (List.replicate a (.int 0 u)) (List.replicate b 0) := by
  subst e
  induction a with
  | zero => exact IntsAre.nil
  | succ k ih => rw [List.replicate_succ, List.replicate_succ]; exact .cons _ _ ih
theorem deedA (o : Ok (n + 8) Γ) (G : Gl (KK P) mg mb I) (kg : Kg (KK P) env gl_law) (hdx : I dx = some (dictOf [] 0))
    (S : InF I env (Vl sc op r tr B pl nl wl gN tg m tb number door k rest wider target width x root place) ((B, Bl dx ba false (r - tl.length) th m tm vt) :: (ba, BaO (img r tl)) :: (pl, LiO xs e) :: Mu) h)
    (p : Pi xs tl) (hl : tl.length ≤ r) (hz : r < 2 ^ 16)
    (hq : ∀ h' t' ba' xs' e' tr' tg' th' wd', Pi xs' (List.replicate (gsz r - r) 0 ++ tl) → InF I env (Vl sc op (gsz r) tr' B pl nl wl (gN + 1) tg' m tb number door k rest wd' target width x root place) ((B, Bl dx ba' false ((gsz r : Nat) - ((List.replicate (gsz r - r) (0 : UInt8) ++ tl).length : Nat)) th' m tm vt) :: (ba', BaO (img (gsz r) (List.replicate (gsz r - r) 0 ++ tl))) :: (pl, LiO xs' e') :: Mu) h' → Q .next ⟨h', g, d, t', os⟩) :
    wpG (model prog w) Γ (execs (iB bdL[3]?) env) Q ⟨h, g, d, t, os⟩ := by
  dsimp only [Vl] at S
  have hxl := p.len
  have hgt := gsz_gt r
  refine gx_cons ?_
  have fin : ∀ {h' t' ba' th' tr' tg' wd' e'} (zs : List Value), IntsAre zs (List.replicate (gsz r - r) 0) → InF I env (Vl sc op (gsz r) tr' B pl nl wl (gN + 1) tg' m tb number door k rest wd' target width x root place) ((B, Bl dx ba' false (r - tl.length) th' m tm vt) :: (ba', BaO (img (gsz r) tl)) :: (pl, LiO (xs ++ zs) e') :: Mu) h' → Q .next ⟨h', g, d, t', os⟩ := by
    intro h' t' ba' th' tr' tg' wd' e' zs hzs S9
    have hle : (List.replicate (gsz r - r) (0 : UInt8) ++ tl).length = gsz r - r + tl.length := by rw [List.length_append, List.length_replicate]
    refine hq h' t' ba' (xs ++ zs) e' tr' tg' th' wd' ?_ ?_
    · unfold Pi
      rw [List.reverse_append, List.map_append, List.reverse_replicate, List.map_replicate]
      exact IntsAre.append p hzs
    · rw [hle, img_zeros (by omega), show ((gsz r : Nat) : Int) - ((gsz r - r + tl.length : Nat) : Int) = r - tl.length by omega]
      exact S9
  by_cases h0 : (r : Int) > 0
  · have hg : gsz r = 2 * r := by unfold gsz; rw [if_neg (by omega)]
    k_offL
    (with_reducible rename InF _ _ _ _ _ => S0)
    refine' go_ext (by assumption) S0 ?uu ?hb ?hz ?hz2 ?_
    case uu => k_caughtN0
    case hb => k_clsL
    case hz => omega
    case hz2 => rw [List.length_replicate]; omega
    intro _ S1
    clear S0
    k_offL
    (with_reducible rename InF _ _ _ _ _ => S9)
    rw [show (gN : Int) + 1 = ((gN + 1 : Nat) : Int) by omega, show (r : Int) * 2 = ((gsz r : Nat) : Int) by omega] at S9
    exact fin _ (rep_ints (by omega)) (S9.sub (.cons _ (.cons _ (.refl _))))
  · have hg : gsz r = 1 := by unfold gsz; rw [if_pos (by omega)]
    k_offL
    (with_reducible rename InF _ _ _ _ _ => S0)
    refine' go_ext (by assumption) S0 ?uu ?hb ?hz ?hz2 ?_
    case uu => k_caughtN0
    case hb => k_clsL
    case hz => omega
    case hz2 => rw [List.length_replicate]; omega
    intro _ S1
    clear S0
    k_offL
    (with_reducible rename InF _ _ _ _ _ => S9)
    rw [show (gN : Int) + 1 = ((gN + 1 : Nat) : Int) by omega, show (1 : Int) = ((gsz r : Nat) : Int) by omega] at S9
    exact fin _ (rep_ints (by omega)) (S9.sub (.cons _ (.cons _ (.refl _))))
end

def NumOk (J : PH) (tl : List UInt8) (v : Value) : Prop := ∃ (a : Addr) (p k : Nat) (x : Int) (t1 t2 t3 : Tok), v = .ref a ∧ J a = some (TuO [.int p t1, .int k t2, .int x t3]) ∧ k < 4 ∧ 0 ≤ x ∧ x < 2 ^ (8 * 2 ^ k) ∧ At tl p (Builtin.Struct.intBytes false (2 ^ k) x).toList
def WayOk (J : PH) (tl : List UInt8) (v : Value) : Prop := ∃ (a : Addr) (p q : Nat) (t1 t2 : Tok), v = .ref a ∧ J a = some (TuO [.int p t1, .int q t2]) ∧ q ≤ p ∧ At tl p (Builtin.Struct.intBytes false 4 ((p : Int) - q)).toList
theorem NumOk.mono {I J : PH} {tl : List UInt8} {v : Value} (l : Le I J) (x : List UInt8) (h : NumOk I tl v) : NumOk J (x ++ tl) v := by
  obtain ⟨a, p, k, y, t1, t2, t3, e, ho, h1, h2, h3, h4⟩ := h
  exact ⟨a, p, k, y, t1, t2, t3, e, l _ _ ho, h1, h2, h3, h4.pre x⟩
theorem WayOk.mono {I J : PH} {tl : List UInt8} {v : Value} (l : Le I J) (x : List UInt8) (h : WayOk I tl v) : WayOk J (x ++ tl) v := by
  obtain ⟨a, p, q, t1, t2, e, ho, h1, h2⟩ := h
  exact ⟨a, p, q, t1, t2, e, l _ _ ho, h1, h2.pre x⟩
def tlU (tl : List UInt8) (q : Nat) : List UInt8 := (Builtin.Struct.intBytes false 4 (((pTail tl 0 4).length : Nat) - (q : Int) + 4)).toList ++ pTail tl 0 4
theorem tlU_len (tl : List UInt8) (q : Nat) : (tlU tl q).length = 4 + (pTail tl 0 4).length := by unfold tlU; rw [List.length_append, ib_size]
section
variable {prog : Program} {w : World} {Γ : Ctx} {n : Nat} {h : Heap} {g : Array GenState} {d : Drawn} {t : Nat} {os : OsState} {env : Env} {mg mb : Str → Option Value} {I : PH} {Mu : List (Addr × Obj)} {P : Params} {Q : Flow → Shared → Prop} {B dx ba pl nl wl : Addr} {vt : Value} {r m gN e ne we : Nat} {tl : List UInt8} {xs nv wv : List Value} {sc op number door k wider target width x root place : Option Value} {th tm tr tg tb ts : Tok} {rs : Int}
theorem deedB (o : Ok (n + 13) Γ) (G : Gl (KK P) mg mb I) (kg : Kg (KK P) env gl_law) (hdx : I dx = some (dictOf [] 0))
    (S : InF I env (Vl sc op r tr B pl nl wl gN tg m tb number door k (some (.int rs ts)) wider target width x root place) ((B, Bl dx ba false (r - tl.length) th m tm vt) :: (ba, BaO (img r tl)) :: (pl, LiO xs e) :: (nl, LiO nv ne) :: (wl, LiO wv we) :: Mu) h)
    (p : Pi xs tl) (hl : tl.length ≤ r) (hz : r < 2 ^ 15) (hnv : ∀ v ∈ nv, NumOk I tl v) (hne : nv ≠ []) (hnz : nv.length < 2 ^ 18) (hwv : ∀ v ∈ wv, WayOk I tl v) (hwz : wv.length < 2 ^ 18)
    (hq : ∀ J h' t' ba' xs' e' wv' we' tr' tb' th' tm' q tq, Le I J → q ≤ tl.length → Pi xs' (tlU tl q) → (∀ v ∈ wv', WayOk J (tlU tl q) v) → wv'.length = wv.length + 1 → InF J env (Vl sc op (pRoom r tl 0 4) tr' B pl nl wl gN tg (max m 4) tb' number door k (some (.int rs ts)) wider tq width x root place)
      ((B, Bl dx ba' false ((pRoom r tl 0 4 : Nat) - ((tlU tl q).length : Nat)) th' ((max m 4 : Nat)) tm' vt) :: (ba', BaO (img (pRoom r tl 0 4) (tlU tl q))) :: (pl, LiO xs' e') :: (nl, LiO nv ne) :: (wl, LiO wv' we') :: Mu) h' → Q .next ⟨h', g, d, t', os⟩) :
    wpG (model prog w) Γ (execs (iB (iE bdL[3]?)[0]?) env) Q ⟨h, g, d, t, os⟩ := by
  dsimp only [Vl] at S
  have hxl := p.len
  have hn0 : 0 < nv.length := List.length_pos_iff.mpr hne
  have hnvz : (nv.length : Int) ≠ 0 := by omega
  refine gx_cons ?_
  k_offL
  (with_reducible rename InF _ _ _ _ _ => S0)
  have f0 : 0 ≤ rs.fmod nv.length := by rw [Int.fmod_eq_emod_of_nonneg _ (by omega)]; exact Int.emod_nonneg _ hnvz
  have f1 : rs.fmod nv.length < nv.length := by rw [Int.fmod_eq_emod_of_nonneg _ (by omega)]; exact Int.emod_lt_of_pos _ (by omega)
  have fj : (rs.fmod nv.length).toNat < nv.length := by omega
  have hat := hnv _ (List.getElem_mem fj)
  obtain ⟨a, q, kk, xx, t1, t2, t3, ev, hoa, hk4, hx0, hx1, hA⟩ := hat
  have hgv : nv[(rs.fmod nv.length).toNat]? = some (.ref a) := by rw [List.getElem?_eq_getElem fj, ev]
  have hql := hA.le.2
  refine' go_getL (v := .ref a) (by assumption) ?hl f0 (by omega) hgv ?hs ?_
  case hl => k_clsL
  case hs => with_unfolding_all rfl
  k_offL
  refine' go_getT (v := .int q t1) (j := 0) (by assumption) ?hl (by decide) (by decide) ?hj ?hx ?hs ?_
  case hl => exact S0.imm _ _ hoa
  case hj => rfl
  case hx => rfl
  case hs => with_unfolding_all rfl
  k_offL
  have hpl := pTail_len tl 0 4
  have hal := al_lt (len := tl.length) (ad := 0) (show 0 < 4 by decide)
  have hrg := pRoom_ge r tl 0 4
  have hrb := roomUp_bound (tl.length + (al tl.length 0 4 + 4 + 0)) r
  have hrz : pRoom r tl 0 4 < 2 ^ 17 := by unfold pRoom; omega
  (with_reducible rename InF _ _ _ _ _ => S0)
  refine' go_room (sz := 4) (by assumption) G S0 ?r1 p (by decide) (by decide) (by omega) hl (by omega) ?_
  case r1 => k_caughtNB
  intro _ _ _ S1
  clear S0
  k_offL
  (with_reducible rename InF _ _ _ _ _ => S0)
  refine' go_up (sz := 4) (ad := 0) (by assumption) G S0 ?r1 p (by decide) (by decide) (by decide) (by omega) ?_
  case r1 => k_caughtNB
  intro _ _ xs1 e1 p1 S1
  clear S0
  k_offL
  (with_reducible rename InF _ _ _ _ _ => S0)
  refine' go_prepu (by assumption) G hdx S0 ?r1 ?r2 (by omega) (by omega) rfl hl (by omega) ?_
  case r1 => k_caughtNB
  case r2 => k_caughtNB
  intro _ _ b2 th' tm' S1
  clear S0
  have hx1l := p1.len
  k_offL
  (with_reducible rename InF _ _ _ _ _ => S0)
  refine' go_layp (sz := 4) (by assumption) G S0 ?r1 p1 (by decide) (by decide) (by omega) ?_
  case r1 => k_caughtNB
  intro _ _ xs2 e2 p2 S1
  clear S0
  rw [hx1l] at p2
  have hx2l := p2.len
  rw [List.length_append, ib_size] at hx2l
  k_offL
  (with_reducible rename InF _ _ _ _ _ => S9)
  obtain ⟨S8, lj⟩ := S9.freeze .head
  have S7 := S8.perm ((List.Perm.swap _ _ _).trans ((List.Perm.swap _ _ _).cons _))
  have hmx : max (m : Int) 4 = ((max m 4 : Nat) : Int) := by omega
  rw [hmx, show ((pRoom r tl 0 4 : Nat) : Int) - ((pTail tl 0 4).length : Nat) - 4 = ((pRoom r tl 0 4 : Nat) : Int) - ((tlU tl q).length : Nat) by rw [tlU_len]; omega] at S7
  have he : tlU tl q = ((Builtin.Struct.intBytes false 4 (((pTail tl 0 4).length : Nat) - (q : Int) + 4)).toList ++ List.replicate (al tl.length 0 4) 0) ++ tl := by
    unfold tlU; rw [List.append_assoc]; rfl
  refine hq _ _ _ _ _ _ _ _ _ _ _ _ q _ lj hql p2 ?_ (by rw [List.length_append]; rfl) S7
  intro v hv
  rcases List.mem_append.mp hv with hv | hv
  · rw [he]; exact (hwv v hv).mono lj _
  · rw [List.mem_singleton] at hv
    refine ⟨_, xs2.length, q, _, _, hv, put_self, by omega, ?_⟩
    have hN := At.new (Builtin.Struct.intBytes false 4 (((pTail tl 0 4).length : Nat) - (q : Int) + 4)).toList (pTail tl 0 4)
    rw [List.length_append, ib_size, ← hx2l, show (((pTail tl 0 4).length : Nat) : Int) - (q : Int) + 4 = (xs2.length : Int) - q by omega] at hN
    unfold tlU
    rw [show (((pTail tl 0 4).length : Nat) : Int) - (q : Int) + 4 = (xs2.length : Int) - q by omega]
    exact hN
end

def tlN (tl : List UInt8) (kk : Nat) (x : Int) : List UInt8 := (Builtin.Struct.intBytes false (2 ^ kk) x).toList ++ pTail tl 0 (2 ^ kk)
theorem tlN_len (tl : List UInt8) (kk : Nat) (x : Int) : (tlN tl kk x).length = 2 ^ kk + (pTail tl 0 (2 ^ kk)).length := by unfold tlN; rw [List.length_append, ib_size]
section
variable {prog : Program} {w : World} {Γ : Ctx} {n : Nat} {h : Heap} {g : Array GenState} {d : Drawn} {t : Nat} {os : OsState} {env : Env} {mg mb : Str → Option Value} {I : PH} {Mu : List (Addr × Obj)} {P : Params} {Q : Flow → Shared → Prop} {B dx ba pl nl wl : Addr} {vt : Value} {r m gN e ne we kk : Nat} {tl : List UInt8} {xs nv wv : List Value} {sc op number door wider target width x root place : Option Value} {th tm tr tg tb ts tk : Tok} {rs : Int}
theorem deedC (o : Ok (n + 13) Γ) (G : Gl (KK P) mg mb I) (kg : Kg (KK P) env gl_law) (hdx : I dx = some (dictOf [] 0))
    (S : InF I env (Vl sc op r tr B pl nl wl gN tg m tb number door (some (.int kk tk)) (some (.int rs ts)) wider target width x root place) ((B, Bl dx ba false (r - tl.length) th m tm vt) :: (ba, BaO (img r tl)) :: (pl, LiO xs e) :: (nl, LiO nv ne) :: Mu) h)
    (p : Pi xs tl) (hk : kk < 4) (hl : tl.length ≤ r) (hz : r < 2 ^ 15) (hnv : ∀ v ∈ nv, NumOk I tl v) (hnz : nv.length < 2 ^ 18)
    (hq : ∀ J h' t' ba' xs' e' nv' ne' tr' tb' th' tm' y wq xq, Le I J → Pi xs' (tlN tl kk y) → (∀ v ∈ nv', NumOk J (tlN tl kk y) v) → nv'.length = nv.length + 1 → InF J env (Vl sc op (pRoom r tl 0 (2 ^ kk)) tr' B pl nl wl gN tg (max m (2 ^ kk)) tb' number door (some (.int kk tk)) (some (.int rs ts)) wider target wq xq root place)
      ((B, Bl dx ba' false ((pRoom r tl 0 (2 ^ kk) : Nat) - ((tlN tl kk y).length : Nat)) th' ((max m (2 ^ kk) : Nat)) tm' vt) :: (ba', BaO (img (pRoom r tl 0 (2 ^ kk)) (tlN tl kk y))) :: (pl, LiO xs' e') :: (nl, LiO nv' ne') :: Mu) h' → Q .next ⟨h', g, d, t', os⟩) :
    wpG (model prog w) Γ (execs (iE (iE bdL[3]?)[0]?) env) Q ⟨h, g, d, t, os⟩ := by
  dsimp only [Vl] at S
  have hxl := p.len
  obtain ⟨st, F, ch, tf, tbb, tll, tx, f⟩ := flk P hk
  refine gx_cons ?_
  k_offL
  (with_reducible rename InF _ _ _ _ _ => S0)
  rename_i x0 a0 b0 c0 d0
  have hw : ∃ u, [Value.int 1 a0, .int 2 b0, .int 4 c0, .int 8 d0][(kk : Int).toNat]? = some (.int ((2 ^ kk : Nat) : Int) u) := by
    have : kk = 0 ∨ kk = 1 ∨ kk = 2 ∨ kk = 3 := by omega
    rcases this with rfl | rfl | rfl | rfl <;> exact ⟨_, rfl⟩
  obtain ⟨u, hw⟩ := hw
  have hW0 : 0 < 2 ^ kk := Nat.two_pow_pos _
  have hW8 : 2 ^ kk ≤ 8 := Nat.pow_le_pow_right (n := 2) (i := kk) (j := 3) (by decide) (by omega)
  generalize hWe : 2 ^ kk = W at *
  refine' go_getL (by assumption) ?hl (by omega) (by omega) hw ?hs ?_
  case hl => k_clsL
  case hs => with_unfolding_all rfl
  have hp : (2 : Int) ^ ((8 * (W : Int)).toNat) = ((2 ^ (8 * W) : Nat) : Int) := by
    rw [show (8 * (W : Int)).toNat = 8 * W by omega]; norm_cast
  have hpp : 0 < 2 ^ (8 * W) := Nat.two_pow_pos _
  have hnz2 : (2 : Int) ^ ((8 * (W : Int)).toNat) ≠ 0 := by rw [hp]; omega
  k_offL
  (with_reducible rename InF _ _ _ _ _ => S0)
  have hXlt : (rs % ((2 ^ (8 * W) : Nat) : Int)).toNat < 2 ^ (8 * W) := by
    have := Int.emod_lt_of_pos rs (show (0 : Int) < ((2 ^ (8 * W) : Nat) : Int) by omega)
    omega
  rw [hp, emN hpp] at S0
  generalize (rs % ((2 ^ (8 * W) : Nat) : Int)).toNat = X at *
  have hX2 : (X : Int) < 2 ^ (8 * W) := by
    have : ((2 ^ (8 * W) : Nat) : Int) = (2 : Int) ^ (8 * W) := by norm_cast
    omega
  have hpl := pTail_len tl 0 W
  have hal := al_lt (len := tl.length) (ad := 0) hW0
  have hrg := pRoom_ge r tl 0 W
  have hrb := roomUp_bound (tl.length + (al tl.length 0 W + W + 0)) r
  have hrz : pRoom r tl 0 W < 2 ^ 17 := by unfold pRoom; omega
  refine' go_room (sz := W) (by assumption) G S0 ?r1 p hW0 hW8 (by omega) hl (by omega) ?_
  case r1 => k_caughtNB
  intro _ _ _ S1
  clear S0
  k_offL
  (with_reducible rename InF _ _ _ _ _ => S0)
  refine' go_up (sz := W) (ad := 0) (by assumption) G S0 ?r1 p hW0 hW8 (by decide) (by omega) ?_
  case r1 => k_caughtNB
  intro _ _ xs1 e1 p1 S1
  clear S0
  k_offL
  (with_reducible rename InF _ _ _ _ _ => S0)
  refine' go_prepd (by assumption) G hdx S0 ?r1 ?r2 f (by omega) hX2 rfl hl (by omega) ?_
  case r1 => k_caughtNB
  case r2 => k_caughtNB
  intro _ _ b2 th' tm' S1
  clear S0
  have hx1l := p1.len
  k_offL
  (with_reducible rename InF _ _ _ _ _ => S0)
  refine' go_layp (sz := W) (by assumption) G S0 ?r1 p1 hW0 hW8 (by omega) ?_
  case r1 => k_caughtNB
  intro _ _ xs2 e2 p2 S1
  clear S0
  have hx2l := p2.len
  rw [List.length_append, ib_size] at hx2l
  k_offL
  (with_reducible rename InF _ _ _ _ _ => S9)
  obtain ⟨S8, lj⟩ := S9.freeze .head
  have S7 := S8.perm ((List.Perm.swap _ _ _).trans (((List.Perm.swap _ _ _).trans (((List.Perm.swap _ _ _)).cons _)).cons _))
  have S6 := (S8.perm ((List.Perm.swap _ _ _).trans ((List.Perm.swap _ _ _).cons _))).sub (.cons_cons _ (.cons_cons _ (.cons_cons _ (.cons _ (.refl _)))))
  clear S7 S8 S9
  subst hWe
  have hmx : max (m : Int) ((2 ^ kk : Nat) : Int) = ((max m (2 ^ kk) : Nat) : Int) := by omega
  rw [hmx, show ((pRoom r tl 0 (2 ^ kk) : Nat) : Int) - ((pTail tl 0 (2 ^ kk)).length : Nat) - ((2 ^ kk : Nat) : Int) = ((pRoom r tl 0 (2 ^ kk) : Nat) : Int) - ((tlN tl kk X).length : Nat) by rw [tlN_len]; omega] at S6
  have he : tlN tl kk X = ((Builtin.Struct.intBytes false (2 ^ kk) X).toList ++ List.replicate (al tl.length 0 (2 ^ kk)) 0) ++ tl := by
    unfold tlN; rw [List.append_assoc]; rfl
  refine hq _ _ _ _ _ _ _ _ _ _ _ _ (X : Int) _ _ lj p2 ?_ (by rw [List.length_append]; rfl) S6
  intro v hv
  rcases List.mem_append.mp hv with hv | hv
  · rw [he]; exact (hnv v hv).mono lj _
  · rw [List.mem_singleton] at hv
    refine ⟨_, xs2.length, kk, (X : Int), _, _, _, hv, put_self, hk, by omega, hX2, ?_⟩
    have hN := At.new (Builtin.Struct.intBytes false (2 ^ kk) X).toList (pTail tl 0 (2 ^ kk))
    rw [List.length_append, ib_size, ← hx2l] at hN
    exact hN
end

section
variable {prog : Program} {w : World} {Γ : Ctx} {n : Nat} {h : Heap} {g : Array GenState} {d : Drawn} {t : Nat} {os : OsState} {env : Env} {mg mb : Str → Option Value} {I : PH} {Mu : List (Addr × Obj)} {P : Params} {Q : Flow → Shared → Prop} {B dx ba pl nl wl : Addr} {vt : Value} {r m gN e ne we kk : Nat} {tl : List UInt8} {xs nv wv : List Value} {sc op number door k rest wider target width x root place : Option Value} {th tm tr tg tb ts tk : Tok} {rs : Int}
theorem chk (o : Ok (n + 8) Γ) (G : Gl (KK P) mg mb I) (kg : Kg (KK P) env gl_law) (hdx : I dx = some (dictOf [] 0))
    (S : InF I env (Vl sc op r tr B pl nl wl gN tg m tb number door k rest wider target width x root place) ((B, Bl dx ba false (r - tl.length) th m tm vt) :: (ba, BaO (img r tl)) :: (pl, LiO xs e) :: Mu) h)
    (p : Pi xs tl) (hl : tl.length ≤ r) (hz : r < 2 ^ 16)
    (hq : ∀ h' t', InF I env (Vl sc op r tr B pl nl wl gN tg m tb number door k rest wider target width x root place) ((B, Bl dx ba false (r - tl.length) th m tm vt) :: (ba, BaO (img r tl)) :: (pl, LiO xs e) :: Mu) h' → Q .next ⟨h', g, d, t', os⟩) :
    wpG (model prog w) Γ (execs (bdL.drop 4) env) Q ⟨h, g, d, t, os⟩ := by
  dsimp only [Vl] at S
  have hxl := p.len
  have hz2 : (img r tl).size = r := img_size hl
  refine gx_cons ?_
  k_offL
  rw [if_neg (by simp)]
  k_offL
  (with_reducible rename InF _ _ _ _ _ => S9)
  exact hq _ _ S9
def LpI (I : PH) (env : Env) (B pl nl wl dx : Addr) (vt : Value) (Mu : List (Addr × Obj)) (g : Array GenState) (d : Drawn) (os : OsState) (i : Nat) (s : Shared) : Prop :=
  ∃ J h t ba r m gN tl xs nv wv e ne we sc op number door k rest wider target width x root place th tm tr tg tb, s = ⟨h, g, d, t, os⟩ ∧ Le I J ∧
    InF J env (Vl sc op r tr B pl nl wl gN tg m tb number door k rest wider target width x root place) ((B, Bl dx ba false (r - tl.length) th m tm vt) :: (ba, BaO (img r tl)) :: (pl, LiO xs e) :: (nl, LiO nv ne) :: (wl, LiO wv we) :: Mu) h ∧
    Pi xs tl ∧ tl.length ≤ r ∧ (r ≤ 11 ∨ r ≤ 2 * tl.length) ∧ gN ≤ 3 ∧ tl.length ≤ 4 ^ gN * (11 + 15 * i) ∧ (∃ j, m = 2 ^ j) ∧ m ≤ 8 ∧ (∀ v ∈ nv, NumOk J tl v) ∧ nv.length ≤ i ∧ (∀ v ∈ wv, WayOk J tl v) ∧ wv.length ≤ i
theorem tlU_app (tl : List UInt8) (q : Nat) : ∃ y, tlU tl q = y ++ tl := ⟨_, by unfold tlU pTail; rw [← List.append_assoc]⟩
theorem tlN_app (tl : List UInt8) (kk : Nat) (x : Int) : ∃ y, tlN tl kk x = y ++ tl := ⟨_, by unfold tlN pTail; rw [← List.append_assoc]⟩
theorem pow_max {a b : Nat} (ha : ∃ j, a = 2 ^ j) (hb : ∃ j, b = 2 ^ j) : ∃ j, max a b = 2 ^ j := by
  rcases Nat.le_total a b with q | q
  · rw [Nat.max_eq_right q]; exact hb
  · rw [Nat.max_eq_left q]; exact ha
theorem LpI.mk {J : PH} {i : Nat} (lJ : Le I J)
    (S : InF J env (Vl sc op r tr B pl nl wl gN tg m tb number door k rest wider target width x root place) ((B, Bl dx ba false (r - tl.length) th m tm vt) :: (ba, BaO (img r tl)) :: (pl, LiO xs e) :: (nl, LiO nv ne) :: (wl, LiO wv we) :: Mu) h)
    (p : Pi xs tl) (hl : tl.length ≤ r) (hr : r ≤ 11 ∨ r ≤ 2 * tl.length) (hg : gN ≤ 3) (hb : tl.length ≤ 4 ^ gN * (11 + 15 * i)) (hm : ∃ j, m = 2 ^ j) (hm8 : m ≤ 8) (hn : ∀ v ∈ nv, NumOk J tl v) (hnz : nv.length ≤ i) (hw : ∀ v ∈ wv, WayOk J tl v) (hwz : wv.length ≤ i) :
    LpI I env B pl nl wl dx vt Mu g d os i ⟨h, g, d, t, os⟩ :=
  ⟨J, h, t, ba, r, m, gN, tl, xs, nv, wv, e, ne, we, sc, op, number, door, k, rest, wider, target, width, x, root, place, th, tm, tr, tg, tb, rfl, lJ, S, p, hl, hr, hg, hb, hm, hm8, hn, hnz, hw, hwz⟩
theorem body_ok {i : Nat} {nb : Int} {tn : Tok} (o : Ok (n + 13) Γ) (G : Gl (KK P) mg mb I) (kg : Kg (KK P) env gl_law) (hdx : I dx = some (dictOf [] 0)) {J : PH} (lJ : Le I J) (hi : i < 12)
    (S : InF J env (Vl sc op r tr B pl nl wl gN tg m tb (some (.int nb tn)) door k rest wider target width x root place) ((B, Bl dx ba false (r - tl.length) th m tm vt) :: (ba, BaO (img r tl)) :: (pl, LiO xs e) :: (nl, LiO nv ne) :: (wl, LiO wv we) :: Mu) h)
    (p : Pi xs tl) (hl : tl.length ≤ r) (hr : r ≤ 11 ∨ r ≤ 2 * tl.length) (hg : gN ≤ 3) (hb : tl.length ≤ 4 ^ gN * (11 + 15 * i)) (hm : ∃ j, m = 2 ^ j) (hm8 : m ≤ 8) (hn : ∀ v ∈ nv, NumOk J tl v) (hnz : nv.length ≤ i) (hw : ∀ v ∈ wv, WayOk J tl v) (hwz : wv.length ≤ i)
    (hq : ∀ s, LpI I env B pl nl wl dx vt Mu g d os (i + 1) s → Q .next s) : wpG (model prog w) Γ (execs bdL env) Q ⟨h, g, d, t, os⟩ := by
  dsimp only [Vl] at S
  have GJ := G.le lJ
  have hdJ := lJ _ _ hdx
  have hT := B_end hg (by omega) hb
  have hz5 : (5 : Int) ≠ 0 := by decide
  refine gx_cons ?_
  k_offL
  refine go_fdivS (by assumption) (by decide) (by decide) ?_
  intro _ _
  k_offL
  refine go_fdivS (by assumption) (by decide) (by decide) ?_
  intro _ trs
  (with_reducible rename InF _ _ _ _ _ => S0)
  have hk4 : (nb.fdiv 5).fmod 4 = ((((nb.fdiv 5) % 4).toNat : Nat) : Int) := emN (b := 4) (by decide)
  have hk5 : ((nb.fdiv 5) % 4).toNat < 4 := by have := Int.emod_lt_of_pos (nb.fdiv 5) (show (0 : Int) < 4 by decide); omega
  rw [hk4] at S0
  generalize ((nb.fdiv 5) % 4).toNat = kk at *
  generalize nb.fdiv 20 = rs at *
  refine' go_st (by assumption) S0 ?uu ?_
  case uu => k_caught0
  intro h1 t1 S1
  clear S0
  show wpG _ _ (execs _ _) _ _
  obtain ⟨td, tk, ts, hS⟩ : ∃ td tk ts, InF J env (Vl sc op r tr B pl nl wl gN tg m tb (some (.int nb tn)) (some (.int (nb.fmod 5) td)) (some (.int kk tk)) (some (.int rs ts)) wider target width x root place) ((B, Bl dx ba false (r - tl.length) th m tm vt) :: (ba, BaO (img r tl)) :: (pl, LiO xs e) :: (nl, LiO nv ne) :: (wl, LiO wv we) :: Mu) h1 := ⟨_, _, _, S1⟩
  clear S1
  by_cases hA : nb.fmod 5 = 4 ∧ gN < 3
  · refine gx_cons (gx_If (g_mono (Q := fun b s => b = true ∧ ∃ h t, s = ⟨h, g, d, t, os⟩ ∧ InF J env (Vl sc op r tr B pl nl wl gN tg m tb (some (.int nb tn)) (some (.int (nb.fmod 5) td)) (some (.int kk tk)) (some (.int rs ts)) wider target width x root place) ((B, Bl dx ba false (r - tl.length) th m tm vt) :: (ba, BaO (img r tl)) :: (pl, LiO xs e) :: (nl, LiO nv ne) :: (wl, LiO wv we) :: Mu) h) ?tst ?_))
    case tst =>
      obtain ⟨hA1, hA2⟩ := hA
      dsimp only [Vl] at hS
      k_offL
      exact ⟨rfl, _, _, rfl, by assumption⟩
    rintro b s ⟨rfl, h2, t2, rfl, S2⟩
    refine ite_pos (c := true = true) rfl ?_
    refine deedA (n := n + 5) o GJ kg hdJ S2 p hl (by omega) fun h3 t3 ba3 xs3 e3 tr3 tg3 th3 wd3 p3 S3 => ?_
    have hgr := B_grow hb hr
    have hgl : (List.replicate (gsz r - r) (0 : UInt8) ++ tl).length = tl.length + (gsz r - r) := by rw [List.length_append, List.length_replicate]; omega
    have hgt := gsz_gt r
    have hg2 : gsz r ≤ 2 * r + 1 := by unfold gsz; split <;> omega
    refine chk (n := n + 5) o GJ kg hdJ S3 p3 (by omega) (by omega) fun h4 t4 S4 => ?_
    refine hq _ (LpI.mk lJ S4 p3 (by omega) (.inr ?_) (by omega) (by rw [hgl]; exact hgr) hm hm8 (fun v hv => (hn v hv).mono .rfl _) (by omega) (fun v hv => (hw v hv).mono .rfl _) (by omega))
    rw [hgl]; exact R_grow hl
  refine gx_cons (gx_If (g_mono (Q := fun b s => b = false ∧ ∃ h t, s = ⟨h, g, d, t, os⟩ ∧ InF J env (Vl sc op r tr B pl nl wl gN tg m tb (some (.int nb tn)) (some (.int (nb.fmod 5) td)) (some (.int kk tk)) (some (.int rs ts)) wider target width x root place) ((B, Bl dx ba false (r - tl.length) th m tm vt) :: (ba, BaO (img r tl)) :: (pl, LiO xs e) :: (nl, LiO nv ne) :: (wl, LiO wv we) :: Mu) h) ?tst ?_))
  case tst =>
    dsimp only [Vl] at hS
    by_cases hA1 : nb.fmod 5 = 4
    · have hA2 : ¬ (gN < 3) := fun q => hA ⟨hA1, q⟩
      k_offL
      exact ⟨rfl, _, _, rfl, by assumption⟩
    · k_offL
      exact ⟨rfl, _, _, rfl, by assumption⟩
  rintro b s ⟨rfl, h2, t2, rfl, S2⟩
  refine ite_neg (c := false = true) Bool.false_ne_true ?_
  clear hS
  by_cases hB : nb.fmod 5 = 3 ∧ nv ≠ []
  · refine gx_cons (gx_If (g_mono (Q := fun b s => b = true ∧ ∃ h t, s = ⟨h, g, d, t, os⟩ ∧ InF J env (Vl sc op r tr B pl nl wl gN tg m tb (some (.int nb tn)) (some (.int (nb.fmod 5) td)) (some (.int kk tk)) (some (.int rs ts)) wider target width x root place) ((B, Bl dx ba false (r - tl.length) th m tm vt) :: (ba, BaO (img r tl)) :: (pl, LiO xs e) :: (nl, LiO nv ne) :: (wl, LiO wv we) :: Mu) h) ?tst ?_))
    case tst =>
      obtain ⟨hB1, hB2⟩ := hB
      dsimp only [Vl] at S2
      k_offL
      rw [if_pos (by simpa using hB2)]
      k_offL
      (with_reducible rename InF _ _ _ _ _ => S9)
      exact ⟨rfl, _, _, rfl, S9.sub (.cons _ (.refl _))⟩
    rintro b s ⟨rfl, h3, t3, rfl, S3⟩
    refine ite_pos (c := true = true) rfl ?_
    refine deedB o GJ kg hdJ S3 p hl (by omega) hn hB.2 (by omega) hw (by omega) fun J4 h4 t4 ba4 xs4 e4 wv4 we4 tr4 tb4 th4 tm4 q4 tq4 l4 hq4 p4 hw4 hwz4 S4 => ?_
    have hUl := tlU_len tl q4
    have hpl := pTail_len tl 0 4
    have hal := al_lt (len := tl.length) (ad := 0) (show 0 < 4 by decide)
    have hrg := pRoom_ge r tl 0 4
    have hrb := roomUp_bound (tl.length + (al tl.length 0 4 + 4 + 0)) r
    have hrz : pRoom r tl 0 4 < 2 ^ 16 := by unfold pRoom; omega
    obtain ⟨y, hy⟩ := tlU_app tl q4
    refine gx_nil ?_
    refine chk (n := n + 5) o (GJ.le l4) kg (l4 _ _ hdJ) S4 p4 (by omega) hrz fun h5 t5 S5 => ?_
    refine hq _ (LpI.mk (lJ.trans l4) S5 p4 (by omega) (R_prep hr (by omega) (by omega)) hg ?_ (pow_max hm ⟨2, rfl⟩) (by omega) (fun v hv => hy ▸ (hn v hv).mono l4 y) (by omega) hw4 (by omega))
    rw [show (tlU tl q4).length = tl.length + (al tl.length 0 4 + 4) by omega]
    exact B_prep hb (by omega)
  refine gx_cons (gx_If (g_mono (Q := fun b s => b = false ∧ ∃ h t, s = ⟨h, g, d, t, os⟩ ∧ InF J env (Vl sc op r tr B pl nl wl gN tg m tb (some (.int nb tn)) (some (.int (nb.fmod 5) td)) (some (.int kk tk)) (some (.int rs ts)) wider target width x root place) ((B, Bl dx ba false (r - tl.length) th m tm vt) :: (ba, BaO (img r tl)) :: (pl, LiO xs e) :: (nl, LiO nv ne) :: (wl, LiO wv we) :: Mu) h) ?tst ?_))
  case tst =>
    dsimp only [Vl] at S2
    by_cases hB1 : nb.fmod 5 = 3
    · have hB2 : nv = [] := by
        cases nv with
        | nil => rfl
        | cons v l => exact absurd ⟨hB1, List.cons_ne_nil _ _⟩ hB
      k_offL
      rw [if_neg (by rw [hB2]; decide)]
      (with_reducible rename InF _ _ _ _ _ => S9)
      exact ⟨rfl, _, _, rfl, S9.sub (.cons _ (.refl _))⟩
    · k_offL
      exact ⟨rfl, _, _, rfl, by assumption⟩
  rintro b s ⟨rfl, h3, t3, rfl, S3⟩
  refine ite_neg (c := false = true) Bool.false_ne_true ?_
  clear S2
  refine deedC o GJ kg hdJ S3 p hk5 hl (by omega) hn (by omega) fun J4 h4 t4 ba4 xs4 e4 nv4 ne4 tr4 tb4 th4 tm4 y4 wq4 xq4 l4 p4 hn4 hnz4 S4 => ?_
  have hUl := tlN_len tl kk y4
  have hpl := pTail_len tl 0 (2 ^ kk)
  have hW0 : 0 < 2 ^ kk := Nat.two_pow_pos _
  have hW8 : 2 ^ kk ≤ 8 := Nat.pow_le_pow_right (n := 2) (i := kk) (j := 3) (by decide) (by omega)
  have hal := al_lt (len := tl.length) (ad := 0) hW0
  have hrg := pRoom_ge r tl 0 (2 ^ kk)
  have hrb := roomUp_bound (tl.length + (al tl.length 0 (2 ^ kk) + 2 ^ kk + 0)) r
  have hrz : pRoom r tl 0 (2 ^ kk) < 2 ^ 16 := by unfold pRoom; omega
  obtain ⟨y, hy⟩ := tlN_app tl kk y4
  refine gx_nil ?_
  refine chk (n := n + 5) o (GJ.le l4) kg (l4 _ _ hdJ) S4 p4 (by omega) hrz fun h5 t5 S5 => ?_
  refine hq _ (LpI.mk (lJ.trans l4) S5 p4 (by omega) (R_prep hr (by omega) (by omega)) hg ?_ (pow_max hm ⟨kk, rfl⟩) (by omega) hn4 (by omega) (fun v hv => hy ▸ (hw v hv).mono l4 y) (by omega))
  rw [show (tlN tl kk y4).length = tl.length + (al tl.length 0 (2 ^ kk) + 2 ^ kk) by omega]
  exact B_prep hb (by omega)
end

local macro_rules | `(tactic| kct_strs) => `(tactic| ((with_reducible show wpG _ _ (eval (Expr.Name _ _) _) _ _); (with_reducible rename InF _ _ _ _ _ => S0); ((with_reducible refine' go_nmC (by assumption) S0 (by assumption) ?m ?hd ?_); (case m => k_clsL); (case hd => assumption))))
section
variable {prog : Program} {w : World} {Γ : Ctx} {n : Nat} {h : Heap} {g : Array GenState} {d : Drawn} {t : Nat} {os : OsState} {env : Env} {mg mb : Str → Option Value} {I : PH} {Mu M1 : List (Addr × Obj)} {P : Params} {B dx ba pl nl wl c1 c2 : Addr} {vt : Value} {r m gN e ne we kk : Nat} {tl : List UInt8} {xs nv wv : List Value} {sc op number door k rest wider target width x root place : Option Value} {th tm tr tg tb ts tk : Tok} {rs : Int} {o1 o2 : Obj}
theorem go_stC' {n : Nat} {vs : Vs} {y : Str} {c : Addr} {ob : Obj} {v : Value} {v0 : Option Value} {Q : Unit → Shared → Prop} (o : Ok n Γ) (S : InF I env vs Mu h) (C : CeF env y c) (r1 : Rm1 c ob Mu M1) (hd : ob.data = .cell v0) (hq : ∀ h' ob', ob'.data = .cell (some v) → InF I env vs ((c, ob') :: M1) h' → Q () ⟨h', g, d, t, os⟩) : wpG (model prog w) Γ (storeName env y v) Q ⟨h, g, d, t, os⟩ :=
  go_stC o (S.perm r1.perm) C hd hq
def tlF (tl : List UInt8) (m q : Nat) : List UInt8 := (Builtin.Struct.intBytes false 4 (((pTail (pTail tl 4 m) 0 4).length : Nat) - (q : Int) + 4)).toList ++ pTail (pTail tl 4 m) 0 4
theorem tlF_len (tl : List UInt8) (m q : Nat) : (tlF tl m q).length = 4 + (pTail (pTail tl 4 m) 0 4).length := by unfold tlF; rw [List.length_append, ib_size]
theorem tlF_app (tl : List UInt8) (m q : Nat) : ∃ y, tlF tl m q = y ++ tl := ⟨_, by unfold tlF pTail; rw [← List.append_assoc, ← List.append_assoc]⟩
theorem tail1 {Q : Flow → Shared → Prop} (o : Ok (n + 17) Γ) (G : Gl (KK P) mg mb I) (kg : Kg (KK P) env gl_law) (hdx : I dx = some (dictOf [] 0)) (C1 : CeF env "made" c1) (ho1 : o1.data = .cell none)
    (S : InF I env (Vl sc op r tr B pl nl wl gN tg m tb number door k rest wider target width x root place) ((B, Bl dx ba false (r - tl.length) th m tm vt) :: (ba, BaO (img r tl)) :: (pl, LiO xs e) :: (nl, LiO nv ne) :: (wl, LiO wv we) :: (c1, o1) :: (c2, o2) :: Mu) h)
    (p : Pi xs tl) (hl : tl.length ≤ r) (hr : r ≤ 11 ∨ r ≤ 2 * tl.length) (hT : tl.length ≤ 12224) (hm : ∃ j, m = 2 ^ j) (hm8 : m ≤ 8) (hn : ∀ v ∈ nv, NumOk I tl v) (hnz : nv.length < 2 ^ 18)
    (hq : ∀ h' t' q tq ea o1' xs' e', q ≤ tl.length → o1'.data = .cell (some (.ref ea)) → Pi xs' (tlF tl m q) → InF I env (Vl sc op r tr B pl nl wl gN tg m tb number door k rest wider target width x (some (.int (q : Nat) tq)) place) ((c1, o1') :: (ea, BaO (tlF tl m q).toArray) :: (pl, LiO xs' e') :: (nl, LiO nv ne) :: (wl, LiO wv we) :: (c2, o2) :: Mu) h' →
      wpG (model prog w) Γ (execs ((pB PW 37).drop 15) env) Q ⟨h', g, d, t', os⟩) :
    wpG (model prog w) Γ (execs ((pB PW 37).drop 9) env) Q ⟨h, g, d, t, os⟩ := by
  have hxl := p.len
  have hm0 : 0 < m := by obtain ⟨j, rfl⟩ := hm; exact Nat.two_pow_pos j
  refine gx_cons (gx_Assign_N rfl (g_mono (Q := fun v s => ∃ q t1 h t, v = .int (q : Nat) t1 ∧ q ≤ tl.length ∧ s = ⟨h, g, d, t, os⟩ ∧ InF I env (Vl sc op r tr B pl nl wl gN tg m tb number door k rest wider target width x root place) ((B, Bl dx ba false (r - tl.length) th m tm vt) :: (ba, BaO (img r tl)) :: (pl, LiO xs e) :: (nl, LiO nv ne) :: (wl, LiO wv we) :: (c1, o1) :: (c2, o2) :: Mu) h) ?ev ?_))
  case ev =>
    dsimp only [Vl] at S
    by_cases hE : nv = []
    · k_offL
      rw [if_neg (by rw [hE]; decide)]
      k_offL
      (with_reducible rename InF _ _ _ _ _ => S9)
      exact ⟨0, _, _, _, rfl, Nat.zero_le _, rfl, S9.sub (.cons _ (.refl _))⟩
    · have hn0 : 0 < nv.length := List.length_pos_iff.mpr hE
      k_offL
      rw [if_pos (by simpa using hE)]
      k_offL
      (with_reducible rename InF _ _ _ _ _ => S0)
      have fj : nv.length - 1 < nv.length := by omega
      obtain ⟨a, q, kk, xx, t1, t2, t3, ev, hoa, hk4, hx0, hx1, hA⟩ := hn _ (List.getElem_mem fj)
      have hgv : nv[((-1 : Int) + nv.length).toNat]? = some (.ref a) := by rw [show ((-1 : Int) + nv.length).toNat = nv.length - 1 by omega, List.getElem?_eq_getElem fj, ev]
      refine' go_getLn (v := .ref a) (by assumption) ?hl (by decide) (by omega) (by decide) hgv ?hs ?_
      case hl => k_clsL
      case hs => with_unfolding_all rfl
      k_offL
      refine' go_getT (v := .int q t1) (j := 0) (by assumption) ?hl (by decide) (by decide) ?hj ?hx ?hs ?_
      case hl => exact S0.imm _ _ hoa
      case hj => rfl
      case hx => rfl
      case hs => with_unfolding_all rfl
      exact ⟨q, _, _, _, rfl, hA.le.2, rfl, S0.sub (.cons _ (.refl _))⟩
  rintro v s ⟨q, tq, h2, t2, rfl, hql, rfl, S2⟩
  clear S
  dsimp only [Vl] at S2
  refine' go_st (by assumption) S2 ?uu ?_
  case uu => k_caught0
  intro h1 t1 S1
  clear S2
  show wpG _ _ (execs _ _) _ _
  refine gx_cons ?_
  k_offL
  have hm4 := al_lt (len := tl.length) (ad := 4) hm0
  have hpl := pTail_len tl 4 m
  have hrg := pRoom_ge r tl 4 m
  have hrb := roomUp_bound (tl.length + (al tl.length 4 m + m + 4)) r
  have hrz : pRoom r tl 4 m < 2 ^ 16 := by unfold pRoom; omega
  have hm40 := al_lt (len := (pTail tl 4 m).length) (ad := 0) (show 0 < 4 by decide)
  have hpl2 := pTail_len (pTail tl 4 m) 0 4
  have hrg2 := pRoom_ge (pRoom r tl 4 m) (pTail tl 4 m) 0 4
  have hrz2 : pRoom (pRoom r tl 4 m) (pTail tl 4 m) 0 4 < 2 ^ 18 := pRoom_le (by decide) (by decide) (by decide) (by omega) hrz
  have hFl := tlF_len tl m q
  (with_reducible rename InF _ _ _ _ _ => S0)
  refine' go_up (sz := m) (ad := 4) (by assumption) G S0 ?r1 p hm0 hm8 (by decide) (by omega) ?_
  case r1 => k_caughtNB
  intro _ _ xs1 e1 p1 S1
  clear S0
  k_offL
  (with_reducible rename InF _ _ _ _ _ => S0)
  refine' go_up (sz := 4) (ad := 0) (by assumption) G S0 ?r1 p1 (by decide) (by decide) (by decide) (by omega) ?_
  case r1 => k_caughtNB
  intro _ _ xs2 e2 p2 S1
  clear S0
  have hx2l := p2.len
  k_offL
  (with_reducible rename InF _ _ _ _ _ => S0)
  refine' go_layp (sz := 4) (by assumption) G S0 ?r1 p2 (by decide) (by decide) (by omega) ?_
  case r1 => k_caughtNB
  intro _ _ xs3 e3 p3 S1
  clear S0
  rw [hx2l] at p3
  k_offL
  (with_reducible rename InF _ _ _ _ _ => S0)
  refine' go_fin (m := m) (by assumption) G hdx S0 ?r1 ?r2 hm hm8 (by omega) (by omega) rfl hl (by omega) hrz ?_
  case r1 => k_caughtNB
  case r2 => k_caughtNB
  intro _ _ b2 th' tm' hd' he S1
  clear S0
  k_offL
  rw [if_neg (by simp)]
  k_offL
  (with_reducible rename InF _ _ _ _ _ => S0)
  refine' go_outp (tl := tlF tl m q) (by assumption) G hdx S0 ?r1 ?r2 ?hh (by omega) hrz2 ?_
  case r1 => k_caughtNB
  case r2 => exact Rm1.head
  case hh => rw [hFl, he]; omega
  intro _ _ ea S1
  clear S0
  refine' go_stC' (by assumption) S1 C1 ?r1 ho1 ?_
  case r1 => k_caughtNB
  intro h9 o9 ho9 S9
  clear S1
  refine hq h9 _ q tq ea o9 xs3 e3 hql ho9 p3 ?_
  exact S9.sub (.cons_cons _ (.cons_cons _ (.cons _ (.cons _ (.refl _)))))
end

local macro_rules | `(tactic| kd_addB) => `(tactic| (first
  | ((with_reducible refine' go_bytesB (by assumption) ?ho ?hz ?_); (case ho => k_clsL); (case hz => omega); intro _ _)
  | with_reducible refine go_neB (by assumption) ?_))
section
variable {prog : Program} {w : World} {Γ : Ctx} {n : Nat} {h : Heap} {g : Array GenState} {d : Drawn} {t : Nat} {os : OsState} {env : Env} {mg mb : Str → Option Value} {I : PH} {Mu M1 : List (Addr × Obj)} {P : Params} {B dx ea pl nl wl c1 c2 : Addr} {r m gN e ne we kk q : Nat} {F : List UInt8} {xs nv wv : List Value} {sc op number door k rest wider target width x root place : Option Value} {tr tg tb ts tk tq : Tok} {rs : Int} {o1 o2 : Obj}
theorem byteArr_of (F : List UInt8) : byteArr (F.map fun b => (b.toNat : Int)) = F.toArray := by
  unfold byteArr
  rw [List.map_map]
  have : List.map ((fun n : Int => n.toNat.toUInt8) ∘ fun b : UInt8 => (b.toNat : Int)) F = List.map id F := List.map_congr_left fun b _ => by
    show ((b.toNat : Int)).toNat.toUInt8 = b
    rw [Int.toNat_natCast]
    simp
  rw [this, List.map_id]
theorem go_slL' {Q : Value → Shared → Prop} {vs : Vs} {l sl : Addr} {ops : List Value} {value slice : Expr} {vl vu vst : Value} {lo hi st : Option Int} (o : Ok n Γ) (S : InF I env vs Mu h) (hl : h.get? l = some (LiO xs e)) (hsl : h.get? sl = some (SlO vl vu vst)) (pl : IsPart vl lo) (pu : IsPart vu hi) (ps : IsPart vst st) (h0 : st ≠ some 0) (hz : xs.length < 2 ^ 20)
    (hs : subscripted slice false (.ref l) (.ref sl) = operate ops (getItem (.ref l) (.ref sl)))
    (hq : ∀ x h', InF I env vs ((x, LiO (slicePick xs.toArray lo hi st).toList 0) :: Mu) h' → Q (.ref x) ⟨h', g, d, t, os⟩) : wpG (model prog w) Γ (subscriptTail value slice (.ref l) (.ref sl)) Q ⟨h, g, d, t, os⟩ := by
  refine g_leaf o (kba_turn (value' := .Name (Str.ofString "x") default) (fun r => rfl) ?_)
  refine subscriptTail_ops (s := ⟨h, g, d, t, os⟩) (li_is hl).typeIs slot_list_getitem.lookup ?_ hs (fun r => rfl)
  exact wpAny_getItem_list_slice (s := ⟨h, g, d, t, os⟩) (li_is hl) ⟨_, hsl, rfl, rfl⟩ pl pu ps h0 (hq _ _ (S.push _)) (by rw [List.size_toArray, sizeLine_eq]; omega)
theorem tail2 {Q : Flow → Shared → Prop} (o : Ok (n + 9) Γ) (G : Gl (KK P) mg mb I) (kg : Kg (KK P) env gl_law) (C1 : CeF env "made" c1) (C2 : CeF env "t" c2) (ho1 : o1.data = .cell (some (.ref ea))) (ho2 : o2.data = .cell none)
    (S : InF I env (Vl sc op r tr B pl nl wl gN tg m tb number door k rest wider target width x (some (.int (q : Nat) tq)) place) ((c1, o1) :: (ea, BaO F.toArray) :: (pl, LiO xs e) :: (nl, LiO nv ne) :: (wl, LiO wv we) :: (c2, o2) :: Mu) h)
    (p : Pi xs F) (hz : F.length < 2 ^ 16) (hA : At F F.length (Builtin.Struct.intBytes false 4 ((F.length : Int) - q)).toList) (hqF : q ≤ F.length)
    (hq : ∀ J h' t' T dx2 tp o2', Le I J → J dx2 = some (dictOf [] 0) → o2'.data = .cell (some (.ref T)) → InF J env (Vl sc op r tr B pl nl wl gN tg m tb number door k rest wider target width x (some (.int (q : Nat) tq)) place) ((T, Tb dx2 ea tp) :: (ea, BaO F.toArray) :: (c1, o1) :: (c2, o2') :: (nl, LiO nv ne) :: (wl, LiO wv we) :: Mu) h' →
      wpG (model prog w) Γ (execs ((pB PW 37).drop 18) env) Q ⟨h', g, d, t', os⟩) :
    wpG (model prog w) Γ (execs ((pB PW 37).drop 15) env) Q ⟨h, g, d, t, os⟩ := by
  have hxl := p.len
  have hFz : F.toArray.size = F.length := List.size_toArray ..
  dsimp only [Vl] at S
  refine gx_cons ?_
  k_offL
  (with_reducible rename InF _ _ _ _ _ => S0)
  refine' go_slL' (ops := [.ref pl, .ref _]) (lo := none) (hi := none) (st := some (-1)) (by assumption) S0 ?hl ?hsl .none .none (.int _ _) (by decide) ?hz ?hs ?_
  case hl => k_clsL
  case hsl => k_clsL
  case hz => omega
  case hs => with_unfolding_all rfl
  intro xr h5 S1
  clear S0
  have hrev : IntsAre (slicePick xs.toArray none none (some (-1))).toList (F.map fun b => (b.toNat : Int)) := by
    rw [pick_rev]
    have := IntsAre.reverse p
    rw [← List.map_reverse, List.reverse_reverse] at this
    exact this
  have hrl : (slicePick xs.toArray none none (some (-1))).toList.length = F.length := by rw [pick_rev]; simpa using hxl
  k_offL
  (with_reducible rename InF _ _ _ _ _ => S0)
  refine' go_bytesL (by assumption) S0 ?hl hrev ?hr ?hz ?_
  case hl => k_clsL
  case hr => intro n hn; obtain ⟨b, _, rfl⟩ := List.mem_map.mp hn; exact ⟨by omega, by have := b.toNat_lt; omega⟩
  case hz => omega
  intro h6 t6 k6 S1
  clear S0
  rw [byteArr_of]
  k_offL
  rw [if_neg (by simp)]
  k_offL
  (with_reducible rename InF _ _ _ _ _ => S0)
  refine' go_Tbl (n := n + 1) (by assumption) G S0 ?_
  intro J h7 t7 T dx2 tp lj hdx2 S1
  clear S0
  have GJ := G.le lj
  refine' go_stC' (by assumption) S1 C2 ?r1 ho2 ?_
  case r1 => k_caughtNB
  intro h9 o9 ho9 S9
  clear S1
  show wpG _ _ (execs _ _) _ _
  refine gx_cons ?_
  clear G
  k_offL
  have h4 := hA.le.1
  rw [ib_size] at h4
  have hnat : (Builtin.Struct.natOf false (F.toArray.extract (0 : Int).toNat ((0 : Int).toNat + 4)) : Int) = (F.length : Int) - q := by
    have hp : (2 : Int) ^ (8 * 4) = 4294967296 := by decide
    have := hA.nat (by omega) (by rw [hp]; omega)
    rw [Nat.sub_self] at this
    exact this
  (with_reducible rename InF _ _ _ _ _ => S0)
  refine' go_indir (bs := F.toArray) (by assumption) GJ hdx2 S0 ?r1 ?r2 (by decide) (by omega) (by omega) ?_
  case r1 => k_caughtNB
  case r2 => k_caughtNB
  intro _ _ _ S1
  clear S0
  rw [hnat, Int.zero_add]
  k_offL
  rw [if_neg (by simp)]
  refine gx_nil ?_
  (with_reducible rename InF _ _ _ _ _ => S9)
  refine hq J _ _ T dx2 tp o9 lj hdx2 ho9 ?_
  exact (S9.sub (.cons_cons _ (.cons_cons _ (.cons_cons _ (.cons _ (.cons _ (.cons_cons _ (.cons _ (.refl _))))))))).perm (((List.Perm.swap _ _ _).cons _).cons _)
end

section
variable {prog : Program} {w : World} {Γ : Ctx} {n : Nat} {h : Heap} {g : Array GenState} {d : Drawn} {t : Nat} {os : OsState} {env : Env} {mg mb : Str → Option Value} {I : PH} {Mu M1 : List (Addr × Obj)} {P : Params} {B dx ea pl nl wl c1 c2 : Addr} {r m gN e ne we kk q : Nat} {F : List UInt8} {xs nv wv : List Value} {sc op number door k rest wider target width x root place : Option Value} {tr tg tb ts tk tq tp : Tok} {rs : Int} {o1 o2 : Obj} {T dx2 : Addr}
theorem go_lot {vs : Vs} {elts : List Expr} {kk : Nat} {pos : Pos} {it l a : Addr} {io : Obj} {i : Nat} {Q : Unit → Shared → Prop} (S : InF I env vs ((it, io) :: Mu) h) (hi : ItP io l i) (hq : Q () ⟨h, g, d, t, os⟩) : wpG (model prog w) Γ (letOwnedTupleGo (.Tuple elts kk pos) (.ref it) (.ref a)) Q ⟨h, g, d, t, os⟩ := by
  unfold letOwnedTupleGo
  dsimp only
  refine g_bind (g_load (S.get (.head _)) ?_)
  rw [hi.1, hi.2]
  dsimp only
  refine g_ff (by rw [show (["enumerate", "zip", "dict_itemiterator", "dict_reverseitemiterator", "odict_iterator", "itertools.zip_longest", "itertools.pairwise"].contains "list_iterator") = false by decide, Bool.false_and]; decide) ?_
  exact g_pure hq
theorem tail3 {Q : Flow → Shared → Prop} (o : Ok (n + 9) Γ) (G : Gl (KK P) mg mb I) (kg : Kg (KK P) env gl_law) (hdx2 : I dx2 = some (dictOf [] 0)) (C1 : CeF env "made" c1) (C2 : CeF env "t" c2) (ho1 : o1.data = .cell (some (.ref ea))) (ho2 : o2.data = .cell (some (.ref T)))
    (S : InF I env (Vl sc op r tr B pl nl wl gN tg m tb number door k rest wider target width x root place) ((T, Tb dx2 ea tp) :: (ea, BaO F.toArray) :: (c1, o1) :: (c2, o2) :: (nl, LiO nv ne) :: (wl, LiO wv we) :: Mu) h)
    (hz : F.length < 2 ^ 16) (hn : ∀ v ∈ nv, NumOk I F v)
    (hq : ∀ h' t' k x place, InF I env (Vl sc op r tr B pl nl wl gN tg m tb number door k rest wider target width x root place) ((T, Tb dx2 ea tp) :: (ea, BaO F.toArray) :: (c1, o1) :: (c2, o2) :: (nl, LiO nv ne) :: (wl, LiO wv we) :: Mu) h' →
      wpG (model prog w) Γ (execs ((pB PW 37).drop 19) env) Q ⟨h', g, d, t', os⟩) :
    wpG (model prog w) Γ (execs ((pB PW 37).drop 18) env) Q ⟨h, g, d, t, os⟩ := by
  have hFz : F.toArray.size = F.length := List.size_toArray ..
  dsimp only [Vl] at S
  refine gx_cons (gx_For (n := n + 8) o (fun _ => rfl) ?_)
  k_offL
  (with_reducible rename InF _ _ _ _ _ => S0)
  rename_i it h9
  refine ⟨fun m' s => ∃ h t i io k x place, s = ⟨h, g, d, t, os⟩ ∧ i + m' = nv.length ∧ ItP io nl i ∧ InF I env (Vl sc op r tr B pl nl wl gN tg m tb number door k rest wider target width x root place) ((it, io) :: (T, Tb dx2 ea tp) :: (ea, BaO F.toArray) :: (c1, o1) :: (c2, o2) :: (nl, LiO nv ne) :: (wl, LiO wv we) :: Mu) h, nv.length, ⟨_, _, 0, _, _, _, _, rfl, by omega, itp _ _, S0⟩, ?_⟩
  rintro Γ' m' s o' ⟨h, t, i, io, k, x, place, rfl, him, hio, S1⟩
  clear S0
  by_cases hi : i < nv.length
  · obtain ⟨a, p, kk, xx, t1, t2, t3, ev, hoa, hk4, hx0, hx1, hA⟩ := hn _ (List.getElem_mem hi)
    have hgv : nv[i]? = some (.ref a) := by rw [List.getElem?_eq_getElem hi, ev]
    refine go_nextL o' S1 hio (S1.get (.tail _ (.tail _ (.tail _ (.tail _ (.tail _ (.head _))))))) hgv fun io' h' hio' S2 => ?_
    clear S1
    refine go_lot S2 hio' ?_
    dsimp only [Vl] at S2
    refine' go_unp3 o' S2 (S2.imm _ _ hoa) ?u1 ?u2 ?u3 ?_
    case u1 => k_caught0
    case u2 => k_caught0
    case u3 => k_caught0
    intro h2 t2 S3
    clear S2
    obtain ⟨st, F', ch, tf, tbb, tll, tx, f⟩ := flk P hk4
    have hle := hA.le
    rw [ib_size] at hle
    k_offL
    (with_reducible rename InF _ _ _ _ _ => S0)
    have hoff : ((F.length : Int) - (p : Int)).toNat = F.length - p := by omega
    have hnat := hA.nat hx0 hx1
    refine' go_tget (bs := F.toArray) (by assumption) G hdx2 S0 ?r1 ?r2 f (by omega) (by omega) (by omega) ?_
    case r1 => k_caughtNB
    case r2 => k_caughtNB
    intro _ _ _ S1
    clear S0
    rw [hoff, hnat]
    k_offL
    rw [if_neg (by simp)]
    k_offL
    (with_reducible rename InF _ _ _ _ _ => S9)
    have S8 := S9.perm (((List.Perm.swap _ _ _).cons _).trans (List.Perm.swap _ _ _))
    exact ⟨m' - 1, by omega, _, _, i + 1, io', _, _, _, rfl, by omega, hio', S8⟩
  · refine go_nextLe o' S1 hio (S1.get (.tail _ (.tail _ (.tail _ (.tail _ (.tail _ (.head _))))))) (by rw [List.getElem?_eq_none]; omega) fun h' S2 => ?_
    exact hq _ _ _ _ _ S2
end

section
variable {prog : Program} {w : World} {Γ : Ctx} {n : Nat} {h : Heap} {g : Array GenState} {d : Drawn} {t : Nat} {os : OsState} {env : Env} {mg mb : Str → Option Value} {I : PH} {Mu M1 : List (Addr × Obj)} {P : Params} {B dx ea pl nl wl c1 c2 : Addr} {r m gN e ne we kk q : Nat} {F : List UInt8} {xs nv wv : List Value} {sc op number door k rest wider target width x root place : Option Value} {tr tg tb ts tk tq tp : Tok} {rs : Int} {o1 o2 : Obj} {T dx2 : Addr}
abbrev scC : Scope := { kind := .function, names := [(".0", .local), ("place", .local), ("target", .local), ("len", .globalImplicit), ("made", .free), ("t", .free)], isGenerator := false, isCoroutine := false }
theorem scC_nm : ∀ x ∈ scC.names, x.2 = .local → scC.names.lookup x.1 = some .local := by decide +kernel
theorem scC_nc : ∀ x ∈ scC.names, x.2 ≠ .cell := by decide +kernel
theorem clos_ok (C1 : CeF env "made" c1) (C2 : CeF env "t" c2) : closureFor scC env = pure ([("t", c2), ("made", c1)] : List (Str × Addr)) := by
  simp [closureFor, cellOf, C1.c, C2.c]
theorem scC_names (hf : env.scope.kind = .function) (C1 : CeF env "made" c1) (C2 : CeF env "t" c2) : (relabel scC env).names = ([(".0", .local), ("place", .local), ("target", .local), ("len", .globalImplicit), ("made", .cell), ("t", .cell)] : List (Str × NameKind)) := by
  simp [relabel, hf, C1.k, C2.k]
theorem InF.comp {vs : Vs} (S : InF I env vs Mu h) {scope : Scope} {cl : List (Str × Addr)} {unb : List Str} (hE : EnvF (compEnvC scope cl h.objs.size env) unb) {h₁ : Heap} (hns : h₁.Ns h.objs.size (fun _ => none))
    (hsb : Heap.SameBut h.objs.size (h.push { cls := .type "dict", data := .dict #[] }) h₁) :
    ∃ fr, InF I (compEnvC scope cl h.objs.size env) (unb.map fun y => (y, none)) (Mu ++ [fr]) h₁ ∧ ∀ Mu' h' vs' h'', InF I (compEnvC scope cl h.objs.size env) vs' (Mu' ++ [fr]) h' → Heap.SameBut h.objs.size h' h'' → InF I env vs Mu' h'' := by
  obtain ⟨fr, SL, back⟩ := InF.lend S
  have S1 := SL.push { cls := .type "dict", data := .dict #[] }
  obtain ⟨oL, es, ep, ho, hd, hks, hf⟩ := hns
  have S2 := Hp.at_ (pre := []) S1 (fun b hb => hsb.2 b hb) ho
  have hk : (unb.map fun y => (y, (none : Option Value))).map (·.1) = unb := by rw [List.map_map]; exact List.map_id _
  refine ⟨fr, ⟨hk.symm ▸ hE, oL, ⟨es, ep, hd, hks, fun y => (hf y).trans (lookup_binds [] unb y).symm⟩, S2⟩, fun Mu' h' vs' h'' S3 hs => back Mu' h'' ?_⟩
  obtain ⟨e, oL2, f, H⟩ := S3
  have ha := H.none_of (pre := [])
  obtain ⟨n1, n2⟩ := H.ne (pre := [])
  have H2 := H.tail
  refine ⟨fun b x q => (hs.2 b (fun z => ?_)).trans (H2.imm b x q), fun p m => ⟨(hs.2 _ (n2 p m)).trans (H2.mu p m).1, (H2.mu p m).2⟩, H2.nd⟩
  subst z
  have ha' : I h.objs.size = none := ha
  rw [ha'] at q; cases q
theorem tail4 {Q : Flow → Shared → Prop} (o : Ok (n + 9) Γ) (G : Gl (KK P) mg mb I) (kg : Kg (KK P) env gl_law) (hdx2 : I dx2 = some (dictOf [] 0)) (C1 : CeF env "made" c1) (C2 : CeF env "t" c2) (ho1 : o1.data = .cell (some (.ref ea))) (ho2 : o2.data = .cell (some (.ref T)))
    (S : InF I env (Vl sc op r tr B pl nl wl gN tg m tb number door k rest wider target width x root place) ((T, Tb dx2 ea tp) :: (ea, BaO F.toArray) :: (c1, o1) :: (c2, o2) :: (nl, LiO nv ne) :: (wl, LiO wv we) :: Mu) h)
    (hz : F.length < 2 ^ 16) (hw : ∀ v ∈ wv, WayOk I F v) (hwz : wv.length < 2 ^ 18)
    (hq : ∀ h' t', (∀ a o, I a = some o → h'.get? a = some o) → Q (.ret (.bool true)) ⟨h', g, d, t', os⟩) :
    wpG (model prog w) Γ (execs ((pB PW 37).drop 19) env) Q ⟨h, g, d, t, os⟩ := by
  have hFz : F.toArray.size = F.length := List.size_toArray ..
  have hfn := S.ef.fn
  dsimp only [Vl] at S
  refine gx_cons ?_
  k_offL
  refine g_comp (n := n + 9) o (fun _ => rfl) (clos_ok C1 C2) rfl scC_nm ?_
  k_offL
  (with_reducible rename InF _ _ _ _ _ => S1)
  rename_i it h1 acc h2
  refine g_leaf o (wpAny_newFunctionEnv scC_nc (fun x m => nomatch m) (fun h3 hns hsb => ?_) rfl)
  intro Γ2 hc2 oB
  have hnm := scC_names hfn C1 C2
  have hE : EnvF (compEnvC scC [("t", c2), ("made", c1)] h2.objs.size env) [".0", "place", "target"] := ⟨rfl, by decide +kernel, fun x m => ⟨by
    show (relabel scC env).names.lookup x = some .local
    rw [hnm]
    revert x
    decide +kernel, by revert x; decide +kernel⟩⟩
  obtain ⟨fr, S2, back⟩ := InF.comp S1 (scope := scC) (cl := [("t", c2), ("made", c1)]) hE hns hsb
  have kg' : Kg (KK P) (compEnvC scC [("t", c2), ("made", c1)] h2.objs.size env) [("len", .builtin "len")] := ⟨kg.glo, kg.bui, fun p m => by
    rw [List.mem_singleton] at m
    subst m
    refine ⟨?_, by decide +kernel, gv_len P⟩
    show (relabel scC env).names.lookup ("len" : Str) = _
    rw [hnm]; decide +kernel⟩
  have C1' : CeF (compEnvC scC [("t", c2), ("made", c1)] h2.objs.size env) "made" c1 := ⟨by
    show (relabel scC env).names.lookup ("made" : Str) = _
    rw [hnm]; decide +kernel, by
    show List.lookup ("made" : Str) ([("t", c2), ("made", c1)] : List (Str × Addr)) = some c1
    rw [List.lookup_cons, show ((("made" : Str) == ("t" : Str)) = false) by decide +kernel]
    rw [List.lookup_cons, beq_self_eq_true], C1.d⟩
  have C2' : CeF (compEnvC scC [("t", c2), ("made", c1)] h2.objs.size env) "t" c2 := ⟨by
    show (relabel scC env).names.lookup ("t" : Str) = _
    rw [hnm]; decide +kernel, by
    show List.lookup ("t" : Str) ([("t", c2), ("made", c1)] : List (Str × Addr)) = some c2
    rw [List.lookup_cons, beq_self_eq_true], C2.d⟩
  dsimp only [List.map, List.append, List.cons_append, List.nil_append] at S2
  refine codeG_compStart (n := n + 8) (env := compEnvC scC [("t", c2), ("made", c1)] h2.objs.size env) oB hc2 (fun Γ3 hc3 o3 => ?_) ?_
  · refine codeG_comp (n := n + 8) o3 hc3 (fun m' s => ∃ h t i io pl tl, s = ⟨h, g, d, t, os⟩ ∧ i + m' = wv.length ∧ ItP io wl i ∧ InF I (compEnvC scC [("t", c2), ("made", c1)] h2.objs.size env) [(".0", none), ("place", pl), ("target", tl)] ((it, io) :: (acc, LiO (List.replicate i (.bool true)) i) :: (T, Tb dx2 ea tp) :: (ea, BaO F.toArray) :: (c1, o1) :: (c2, o2) :: (nl, LiO nv ne) :: (wl, LiO wv we) :: (Mu ++ [fr])) h) ?_ wv.length ⟨_, _, 0, _, _, _, rfl, by omega, itp _ _, S2.perm (.swap _ _ _)⟩
    rintro m' s o' ⟨h, t, i, io, pl, tl, rfl, him, hio, S3⟩
    by_cases hi : i < wv.length
    · obtain ⟨a, p, q, t1, t2, ev, hoa, hqp, hA⟩ := hw _ (List.getElem_mem hi)
      have hgv : wv[i]? = some (.ref a) := by rw [List.getElem?_eq_getElem hi, ev]
      refine go_nextL o' S3 hio (S3.get (.tail _ (.tail _ (.tail _ (.tail _ (.tail _ (.tail _ (.tail _ (.head _))))))))) hgv fun io' h' hio' S4 => ?_
      clear S3
      refine go_lot S4 hio' ?_
      refine' go_unp2 o' S4 (S4.imm _ _ hoa) ?u1 ?u2 ?_
      case u1 => k_caught0
      case u2 => k_caught0
      intro h5 t5 S5
      clear S4 S2 S1
      have hle := hA.le
      rw [ib_size] at hle
      clear C1 C2 kg
      k_offL
      (with_reducible rename InF _ _ _ _ _ => S0)
      have hoff : ((F.length : Int) - (p : Int)).toNat = F.length - p := by omega
      have hp32 : (2 : Int) ^ (8 * 4) = 4294967296 := by decide
      have hnat := hA.nat (by omega) (by rw [hp32]; omega)
      have hsum : ((F.length : Int) - p + ((p : Int) - q)) = (F.length : Int) - q := by omega
      refine' go_indir (bs := F.toArray) (by assumption) G hdx2 S0 ?r1 ?r2 (by omega) (by omega) (by omega) ?_
      case r1 => k_caughtNB
      case r2 => k_caughtNB
      intro _ _ _ S1
      clear S0
      rw [hoff, hnat, hsum]
      k_offL
      (with_reducible rename InF _ _ _ _ _ => S0)
      refine' go_app (by assumption) S0 ?uu ?hz ?_
      case uu => k_caughtN0
      case hz => rw [List.length_replicate]; omega
      intro h7 S9
      clear S0
      rw [beq_self_eq_true, ← List.replicate_succ'] at S9
      have S8 := S9.perm ((((List.Perm.swap _ _ _).cons _).trans (List.Perm.swap _ _ _)).trans (((((List.Perm.swap _ _ _).cons _).cons _)).trans ((List.Perm.swap _ _ _).cons _)))
      exact ⟨m' - 1, by omega, _, _, i + 1, io', _, _, rfl, by omega, hio', S8⟩
    · refine go_nextLe o' S3 hio (S3.get (.tail _ (.tail _ (.tail _ (.tail _ (.tail _ (.tail _ (.tail _ (.head _))))))))) (by rw [List.getElem?_eq_none]; omega) fun h' S4 => ?_
      refine ⟨_, S4.ns, fun h'' hs => ?_⟩
      have S5 := back (_ :: _ :: _ :: _ :: _ :: _ :: _ :: Mu) h' _ h'' S4 hs
      clear S1 S2 S3 S4
      k_offL
      (with_reducible rename InF _ _ _ _ _ => S0)
      refine go_all (k := i) o S0 (S0.get (.head _)) fun h9 k9 S9 => ?_
      exact hq _ _ S9.imm
  · exact wpAny_pyIter_listiter (s := ⟨h3, g, d, _, os⟩) ⟨_, S2.get (.tail _ (.head _)), rfl, rfl⟩ ⟨rfl, rfl⟩
end

section
variable {prog : Program} {w : World} {Γ : Ctx} {R : Result → Shared → Prop} {h : Heap} {g : Array GenState} {d : Drawn} {t : Nat} {os : OsState} {mg mb : Str → Option Value} {I : PH} {P : Params} {l : Addr} {vs : List Value} {ns : List Int}
theorem InF.front {env : Env} {vs : Vs} {Mu M1 : List (Addr × Obj)} {a : Addr} {o : Obj} (S : InF I env vs Mu h) (r : Rm1 a o Mu M1) : InF I env vs ((a, o) :: M1) h := S.perm r.perm
theorem law_ok (hc : Γ.code = .call (.ref 761) ⟨[.ref l], []⟩) (o : OkB 40 Γ) (G : Gl (KK P) mg mb I) (S : Hp I [] h) (hl : ∀ h' : Heap, (∀ a o, I a = some o → h'.get? a = some o) → h'.IsList l vs.toArray) (hi : IntsAre vs ns) (hz : vs.length < 2 ^ 18)
    (k : ∀ h' t', (∀ a o, I a = some o → h'.get? a = some o) → R (.ok (.ret (.bool true))) ⟨h', g, d, t', os⟩) : codeG (model prog w) Γ R ⟨h, g, d, t, os⟩ := by
  refine inC (F_law P) (bd_law P _) (unb := ["options", "room", "b", "pile", "numbers", "ways", "grown", "big", "number", "door", "k", "rest", "wider", "target", "width", "x", "root", "place"]) rfl hc o G S ?_
  intro Γ' env h' t' c1 c2 o1 o2 o' C1 C2 ho1 ho2 S' kg
  clear S
  dsimp only [List.map, List.append, List.cons_append, List.nil_append] at S'
  refine gx_cons (gx_Assign_N rfl (g_mono (Q := fun v s => ∃ op t1 h t, v = .int op t1 ∧ s = ⟨h, g, d, t, os⟩ ∧ InF I env [("script", some (.ref l)), ("options", none), ("room", none), ("b", none), ("pile", none), ("numbers", none), ("ways", none), ("grown", none), ("big", none), ("number", none), ("door", none), ("k", none), ("rest", none), ("wider", none), ("target", none), ("width", none), ("x", none), ("root", none), ("place", none)] ((c1, o1) :: (c2, o2) :: []) h) ?ev ?_))
  case ev =>
    have hl1 := hl _ S'.imm
    k_offL
    refine go_trS (by assumption) hl1 (by omega) fun k1 => ?_
    by_cases hE : vs = []
    · rw [if_neg (by rw [hE]; decide)]
      k_offL
      exact ⟨0, _, _, _, rfl, rfl, by assumption⟩
    · rw [if_pos (by simpa using hE)]
      k_offL
      have hn0 : 0 < vs.length := List.length_pos_iff.mpr hE
      obtain ⟨v0, hv0⟩ : ∃ v, vs[0]? = some v := ⟨_, List.getElem?_eq_getElem hn0⟩
      obtain ⟨n0, u0, rfl, _⟩ := hi.at _ _ hv0
      refine go_getS (v := .int n0 u0) (by assumption) hl1 (by decide) (by decide) hv0 (by with_unfolding_all rfl) ?_
      exact ⟨n0, u0, _, _, rfl, rfl, by assumption⟩
  rintro v s ⟨op, top, h2, t2, rfl, rfl, S2⟩
  clear S'
  refine' go_st (by assumption) S2 ?uu ?_
  case uu => k_caught0
  intro h1 t1 S1
  clear S2
  show wpG _ _ (execs _ _) _ _
  refine gx_cons ?_
  k_offL
  (with_reducible rename InF _ _ _ _ _ => S0)
  have hr0 : op.fmod 12 = ((((op % 12).toNat : Nat)) : Int) := emN (b := 12) (by decide)
  have hr1 : (op % 12).toNat ≤ 11 := by have := Int.emod_lt_of_pos op (show (0 : Int) < 12 by decide); omega
  rw [hr0] at S0 ⊢
  generalize (op % 12).toNat = r0 at *
  refine' go_Bld (n := 30) (o'.le (by decide)) G S0 (by omega) (by omega) ?_
  intro J _ _ B dx ba th tm vt lJ hdx S1
  clear S0
  have GJ := G.le lJ
  have hl2 : ∀ h' : Heap, (∀ a o, J a = some o → h'.get? a = some o) → h'.IsList l vs.toArray := fun h' q => hl h' fun a o e => q _ _ (lJ _ _ e)
  have k2 : ∀ h' t', (∀ a o, J a = some o → h'.get? a = some o) → R (.ok (.ret (.bool true))) ⟨h', g, d, t', os⟩ := fun h' t' q => k h' t' fun a o e => q _ _ (lJ _ _ e)
  clear G hl k lJ
  k_offL
  (with_reducible rename InF _ _ _ _ _ => S0)
  refine gx_For (n := 38) o' (fun _ => rfl) ?_
  k_offL
  (with_reducible rename InF _ _ _ _ _ => S0)
  rename_i wl _ _ _ _ _ _ _ _ _ so h5
  refine' go_slS (lo := some 1) (hi := some 13) (st := none) (by assumption) S0 (hl2 _ S0.imm) ?hsl (.int _ _) (.int _ _) .none (by decide) (by omega) ?hs ?_
  case hsl => k_clsL
  case hs => with_unfolding_all rfl
  intro sl h6 S1
  clear S0
  have hsi : IntsAre (slicePick vs.toArray (some 1) (some 13) none).toList (pickNums ns (some 1) (some 13) none) := hi.pick _ _ _
  have hs12 : (slicePick vs.toArray (some 1) (some 13) none).toList.length ≤ 12 := pick_12 _
  generalize (slicePick vs.toArray (some 1) (some 13) none).toList = sv at *
  generalize pickNums ns (some 1) (some 13) none = sn at *
  k_offL
  (with_reducible rename InF _ _ _ _ _ => S0)
  rename_i it h7
  have S1 := S0.sub (.cons_cons _ (.cons_cons _ (.cons _ (.refl _))))
  clear S0
  rw [Int.toNat_natCast, show Array.replicate r0 (0 : UInt8) = img r0 [] by unfold img; simp] at S1
  have e0 : (r0 : Int) - (([] : List UInt8).length : Nat) = (r0 : Int) := by simp
  obtain ⟨pl, nl, wl, tr, tg, tb, hS⟩ : ∃ pl nl wl tr tg tb, InF J env (Vl (some (.ref l)) (some (.int op top)) r0 tr B pl nl wl 0 tg 1 tb none none none none none none none none none none) [(it, ItO sl 0), (sl, LiO sv 0), (wl, LiO [] 0), (nl, LiO [] 0), (pl, LiO [] 0), (B, Bl dx ba false r0 th 1 tm vt), (ba, BaO (img r0 [])), (c1, o1), (c2, o2)] h7 := ⟨_, _, _, _, _, _, S1⟩
  clear S1
  have A := InF.front (InF.front (InF.front (InF.front (InF.front (InF.front (InF.front (InF.front (InF.front hS (a := sl) (o := LiO sv 0) (by k_caughtNB)) (a := c2) (o := o2) (by k_caughtNB)) (a := c1) (o := o1) (by k_caughtNB)) (a := it) (o := ItO sl 0) (by k_caughtNB)) (a := wl) (o := LiO [] 0) (by k_caughtNB)) (a := nl) (o := LiO [] 0) (by k_caughtNB)) (a := pl) (o := LiO [] 0) (by k_caughtNB)) (a := ba) (o := BaO (img r0 [])) (by k_caughtNB)) (a := B) (o := Bl dx ba false r0 th 1 tm vt) (by k_caughtNB)
  clear hS
  refine ⟨fun m' s => ∃ i io, i + m' = sv.length ∧ ItP io sl i ∧ LpI J env B pl nl wl dx vt [(it, io), (c1, o1), (c2, o2), (sl, LiO sv 0)] g d os i s, sv.length, ⟨0, _, by omega, itp _ _, ?_⟩, ?_⟩
  · exact LpI.mk (tl := []) (gN := 0) (m := 1) .rfl (by rw [e0]; exact A) Pi.nil (Nat.zero_le _) (.inl (by omega)) (by decide) (Nat.zero_le _) ⟨0, rfl⟩ (by decide) (fun v hv => by cases hv) (Nat.le_refl _) (fun v hv => by cases hv) (Nat.le_refl _)
  rintro Γ2 m' s o2' ⟨i, io, him, hio, J2, h8, t8, ba8, r8, m8, gN8, tl8, xs8, nv8, wv8, e8, ne8, we8, sc8, op8, number8, door8, k8, rest8, wider8, target8, width8, x8, root8, place8, th8, tm8, tr8, tg8, tb8, rfl, l8, S8, p8, hl8, hr8, hg8, hb8, hm8, hm88, hn8, hnz8, hw8, hwz8⟩
  clear A
  have S9 := S8.perm (List.perm_middle (l₁ := [_, _, _, _, _]))
  by_cases hi9 : i < sv.length
  · obtain ⟨v9, hv9⟩ : ∃ v, sv[i]? = some v := ⟨_, List.getElem?_eq_getElem hi9⟩
    obtain ⟨n9, u9, rfl, _⟩ := hsi.at _ _ hv9
    refine go_nextL o2' S9 hio (S9.get (a := sl) (o := LiO sv 0) (.tail _ (.tail _ (.tail _ (.tail _ (.tail _ (.tail _ (.tail _ (.tail _ (.head _)))))))))) hv9 fun io' h' hio' S10 => ?_
    refine g_pure ?_
    refine' go_asN o2' S10 ?uu ?_
    case uu => k_caught0
    intro h11 t11 S11
    have S12 := S11.perm (List.perm_middle (l₁ := [_, _, _, _, _])).symm
    refine body_ok (n := 25) (o2'.le (by decide)) GJ kg hdx l8 (by omega) S12 p8 hl8 hr8 hg8 hb8 hm8 hm88 hn8 hnz8 hw8 hwz8 fun s hs => ?_
    exact ⟨m' - 1, by omega, i + 1, io', by omega, hio', hs⟩
  · refine go_nextLe o2' S9 hio (S9.get (a := sl) (o := LiO sv 0) (.tail _ (.tail _ (.tail _ (.tail _ (.tail _ (.tail _ (.tail _ (.tail _ (.head _)))))))))) (by rw [List.getElem?_eq_none]; omega) fun h' S10 => ?_
    have hT := B_end hg8 (by omega) hb8
    have GJ2 := GJ.le l8
    show wpG _ _ (execs _ _) _ _
    have S11 := S10.sub (Mu' := [_, _, _, _, _, _, _]) (.cons_cons _ (.cons_cons _ (.cons_cons _ (.cons_cons _ (.cons_cons _ (.cons_cons _ (.cons_cons _ (.cons _ (.refl _)))))))))
    refine tail1 (n := 22) o' GJ2 kg (l8 _ _ hdx) C1 ho1 S11 p8 hl8 hr8 hT hm8 hm88 hn8 (by omega) fun h12 t12 q tq ea o12 xs12 e12 hq12 ho12 p12 S12 => ?_
    have hm0 : 0 < m8 := by obtain ⟨j, rfl⟩ := hm8; exact Nat.two_pow_pos j
    have hm4 := al_lt (len := tl8.length) (ad := 4) hm0
    have hpl := pTail_len tl8 4 m8
    have hm40 := al_lt (len := (pTail tl8 4 m8).length) (ad := 0) (show 0 < 4 by decide)
    have hpl2 := pTail_len (pTail tl8 4 m8) 0 4
    have hFl := tlF_len tl8 m8 q
    obtain ⟨y, hy⟩ := tlF_app tl8 m8 q
    have hA := At.new (Builtin.Struct.intBytes false 4 (((pTail (pTail tl8 4 m8) 0 4).length : Nat) - (q : Int) + 4)).toList (pTail (pTail tl8 4 m8) 0 4)
    rw [show (((pTail (pTail tl8 4 m8) 0 4).length : Nat) - (q : Int) + 4) = ((tlF tl8 m8 q).length : Int) - q by omega] at hA
    have hE : (Builtin.Struct.intBytes false 4 (((tlF tl8 m8 q).length : Int) - q)).toList ++ pTail (pTail tl8 4 m8) 0 4 = tlF tl8 m8 q := by
      conv => rhs; unfold tlF
      rw [show (((pTail (pTail tl8 4 m8) 0 4).length : Nat) - (q : Int) + 4) = ((tlF tl8 m8 q).length : Int) - q by omega]
    rw [hE] at hA
    refine tail2 (n := 30) o' GJ2 kg C1 C2 ho12 ho2 S12 p12 (by omega) hA (by omega) fun J3 h13 t13 T dx2 tp o13 l3 hdx2 ho13 S13 => ?_
    have GJ3 := GJ2.le l3
    refine tail3 (n := 30) o' GJ3 kg hdx2 C1 C2 ho12 ho13 S13 (by omega) (fun v hv => hy ▸ (hn8 v hv).mono l3 y) fun h14 t14 k14 x14 place14 S14 => ?_
    refine tail4 (n := 30) o' GJ3 kg hdx2 C1 C2 ho12 ho13 S14 (by omega) (fun v hv => hy ▸ (hw8 v hv).mono l3 y) (by omega) fun h15 t15 himm => ?_
    exact k2 _ _ fun a ob e => himm _ _ (l3 _ _ (l8 _ _ e))
end

set_option maxHeartbeats 4000000 in
theorem holds1 : PySem.Challenge.rw_eh5018_01.Holds := by
  refine hd ?_
  intro w s₀ s₁ mg mb G Y fa o pm cd doc dV kV ho hd hcd hD hmg hg args vals as hpre hlay hrd hwl hlo
  have KX := kIn_of Y
  refine Ground.open G ?_
  intro T B D TE TW
  wrow_args hpre hlay hrd hwl hlo
  rename_i ns _ _ _ _ _ _ _ l vs _ hL _ _ _ hI _ hlen _
  have hfa : fa = 761 := by
    have e : nsIn (Mine.hd.heap_39 w.params) mainGlobals "law" = some (some (.ref 761)) := by kernel_rfl
    have h1 := mg_of KX T.g e
    have h2 : mg "law" = some (.ref fa) := hmg
    rw [h1] at h2
    injection h2 with h2; injection h2 with h2; exact h2.symm
  subst hfa
  have G' : Gl (KK w.params) mg mb (fun a => s₁.heap.get? a) := ⟨KX, fun h q => ⟨T.g.keeps q, T.b.keeps q, T.nolimit.keeps q⟩, T.builtins⟩
  have S' : Hp (fun a => s₁.heap.get? a) [] s₁.heap := ⟨fun _ _ e => e, (fun _ m => nomatch m), List.nodup_nil⟩
  have hlen2 : vs.length < 2 ^ 18 := by
    have h1 := hI.length
    have h2 : ns.length ≤ 63 := by omega
    omega
  obtain ⟨h, g, d, t, os⟩ := s₁
  refine g_call (Γ0_ok.le (by decide : 40 ≤ 100)) fun Γ' hc o' => law_ok hc o' G' S' (fun h' q => hL.at fun o e => q _ _ e) hI hlen2 fun h' t' himm => ?_
  refine ⟨.inl ⟨.bool true, .bool true, [], rfl, (fun cls => rfl), .bool _, ?_, fun _ => ⟨List.nodup_nil, (fun a m => nomatch m)⟩⟩, .of_keep himm, rfl, .of_eq hg⟩
  have h1 : WShape.has PySem.Challenge.rw_eh5018_01.row.toRowW.records (.bool true) PySem.Challenge.rw_eh5018_01.row.toRowW.returns = true := by first | decide | rfl | (simp [WShape.has]; done)
  have h2 : ∀ e : WCtx, e.res = some (.bool true) → WTm.holds PySem.Challenge.rw_eh5018_01.row.toRowW.records PySem.Challenge.rw_eh5018_01.row.toRowW.post e = true := fun e he => by
    show WTm.holds _ (WTm.eq .res (.lit (.bool true))) e = true
    unfold WTm.holds
    simp [WTm.value, he, same]
  exact Bool.and_eq_true_iff.mpr ⟨h1, h2 _ rfl⟩

end Mine
end
theorem PySem.Challenge.cw_eh5018_01_holds : PySem.Challenge.rw_eh5018_01.Holds :=
  Mine.holds1
