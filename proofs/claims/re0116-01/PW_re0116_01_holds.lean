import PyProof.Rows.All
import Wide.All
import OpenK.AllK
import Wide.FinOn
import KE.KRevIter
import PyProof.Rows.SeqMore2
import KE.KRevSl
import OpenK.KEqL
import KE.KxIndex
import PyProof.RulesDelMore
import PyProof.DelItemList
import KE.KSuper
import PyProof.Rows.StrFit
import PyProof.Rows.StrGather
import PyProof.Rows.StrClose
import PyProof.GenCompD
import PyProof.Rows.StrJoin2
import KE.KCallOwn
import PyProof.DictTable
import PyProof.DictRoadsH
import PyProof.NeKinds
import KE.LcSums
import KE.KAnyBase
import PySem.Challenge.RW_re0116_01
set_option Elab.async false
section
open PySem PySem.W PyProof.Rows
namespace Mine
local macro_rules | `(tactic| o_head ($_f:ident $k $_a $_e $_ts)) => `(tactic| (assumption; exact $k))
set_option maxRecDepth 100000 in
set_option maxHeartbeats 8000000 in
noncomputable def hd : Params → Frag := by
  refine (fun (K : Params → Frag) (_ : OpenRow.Holds (OpenLaw.row PySem.Challenge.rw_re0116_01) → OpenRow.Holds (OpenLaw.row PySem.Challenge.rw_re0116_01)) => K) ?K ?h
  rotate_left
  intro _
  km_head
end Mine
end
section
open PySem PySem.W PyProof.Rows
namespace Mine
set_option maxRecDepth 100000
set_option maxHeartbeats 8000000
noncomputable def VW : Program := { Challenge.rw_re0116_01.prog with main := { Challenge.rw_re0116_01.prog.main with body := [0, 2, 3, 4, 5, 6, 7, 8, 10, 11, 12, 14, 15, 17, 18, 19, 20].filterMap fun i => Challenge.rw_re0116_01.prog.main.body[i]? } }
def asW : List Addr := [2,3,15,17,18,20,21,22,24,25,27,28,29,31,32,34,35,36,38,39,41,42,43,45,46,48,49,50,52,53,55,56,57,59,60,62,63,64,66,67,69,70,71,73,74,76,77,78,81,86,87,88,90,91,93,94,95,97,98,100,101,102,103,105,106,108,109,110,111,113,114,116,117,118,120,121,123,124,125,127,128,130,131,132,133,135,136,138,139,140,142,143,145,146,147,148,150,151,153,154,155,156,157,158,159,162,164,165,167,168,169,172,173,174,177,178,179,182,183]
noncomputable def HK : Hook := kmHook Mine.hd.heap_1 asW (fun _ => by kernel_rfl) [44, 37, 126]
noncomputable abbrev PP : Program := Challenge.rw_re0116_01.row.prog
theorem said1 : sreFenced PP.main = true := by kernel_rfl
theorem said2 : namesResolve PP = true := by kernel_rfl
theorem said3 : PP.boundNames.all (fun n => !worldNames.contains n) = true := by kernel_rfl
theorem said4 : noRoadLSs { strict := !(importedModules PP.main.body).all cThrough.contains, foot := none, bare := (["vars", "dir", "locals"] : List Str).filter (readsOut PP PP.main.body) } PP.main.body = true := by kernel_rfl
theorem said5 : namesMeet PP PP.main.body (fun _ n => attrL n) = true := by kernel_rfl
theorem said6 : looksOpen PP = true := by
  unfold looksOpen
  exact look_both (look_both (look_both (look_both (look_both said1 (by kernel_rfl)) said2) said3) said4) said5
theorem said7 : OpenRow.partSaid Challenge.rw_re0116_01.row = true := by
  unfold OpenRow.partSaid
  rw [said6]
  kernel_rfl
theorem said8 : OpenRow.wellSaid Challenge.rw_re0116_01.row = true := by
  unfold OpenRow.wellSaid
  rw [said7]
  kernel_rfl
theorem law_said : OpenLaw.wellSaid Challenge.rw_re0116_01 = true := by
  unfold OpenLaw.wellSaid
  rw [said8]
  kernel_rfl
theorem law_left : LeftO Challenge.rw_re0116_01.row.prog VW [Str.ofString "_Accumulator"] (fun s => xlAt VW [] s && recOk (RowW.records Challenge.rw_re0116_01.row.toRowW) s) (Hook.obs HK) (Hook.val HK) 2098 := by
  intro w
  kernel_rfl
end Mine
end
section
open PySem PySem.W PyProof.Rows PySem.Calls
set_option maxRecDepth 100000
namespace Mine
def er : Value → Value
  | .int i _ => .int i 0
  | .str s _ => .str s 0
  | v => v
theorem er_int {v : Value} {i : Int} (h : er v = .int i 0) : ∃ t, v = .int i t := by
  cases v <;> simp only [er, reduceCtorEq, Value.int.injEq] at h
  exact ⟨_, by rw [h.1]⟩
theorem er_str {v : Value} {x : Str} (h : er v = .str x 0) : ∃ t, v = .str x t := by
  cases v <;> simp only [er, reduceCtorEq, Value.str.injEq] at h
  exact ⟨_, by rw [h.1]⟩
theorem er_bool {v : Value} {b : Bool} (h : er v = .bool b) : v = .bool b := by
  cases v <;> simp only [er, reduceCtorEq] at h <;> first | exact h | (rw [h])
theorem er_ref {v : Value} {a : Addr} (h : er v = .ref a) : v = .ref a := by
  cases v <;> simp only [er, reduceCtorEq] at h <;> first | exact h | (rw [h])
theorem er_none {v : Value} (h : er v = .none) : v = .none := by
  cases v <;> simp only [er, reduceCtorEq] at h <;> rfl
theorem er_builtin {v : Value} {x : String} (h : er v = .builtin x) : v = .builtin x := by
  cases v <;> simp only [er, reduceCtorEq] at h <;> first | exact h | (rw [h])
theorem er_type {v : Value} {x : String} (h : er v = .type x) : v = .type x := by
  cases v <;> simp only [er, reduceCtorEq] at h <;> first | exact h | (rw [h])
def erF : Flow → Flow
  | .ret v => .ret (er v)
  | f => f
def erM (p : Value × List Value) : Value × List Value := (er p.1, p.2.map er)
abbrev Loc := List (Str × Value)
abbrev AO := Obj → Prop
abbrev Led := List (Addr × AO)
def isL (vs : List Value) : AO := fun o => ∃ (cs : List Value) (ep : Nat), o = listOf cs.toArray ep ∧ cs.map er = vs
def isT (vs : List Value) : AO := fun o => ∃ (cs : List Value) (ep : Nat), o = { cls := .type "tuple", data := .seq cs.toArray ep } ∧ cs.map er = vs
def isCell (v : Option Value) : AO := fun o => ∃ c, o.data = .cell c ∧ c.map er = v
abbrev PG : Program := Challenge.rw_re0116_01.row.prog
structure Cx where
  w : World
  dp : Nat
  un : Nat
  gd : Option (List Code)
  cn : Str
  cs : Scope
  L : Addr
  a : Addr
  ccd : Value
  cl : List (Str × Addr)
  outer : List Env
  A₀ : Around
  base : Heap
  h₀ : Heap
  p : Program
  loose : List Str
  mean : ExcName → Option Value
  mg : Str → Option Value
  mb : Str → Option Value
  s : Shared
abbrev Cx.A (c : Cx) : Around := ktrTop c.dp c.un c.gd c.cn c.cs c.L c.a c.ccd c.cl c.outer
abbrev Cx.env (c : Cx) : Env := envX c.cn c.cs c.L c.a c.ccd c.cl
abbrev Cx.M (c : Cx) : Model := model PG c.w
abbrev Cx.st (c : Cx) (h : Heap) (tk : Tok) (g : Array GenState) : Shared := { c.s with heap := h, toks := tk, gens := g }
structure Good (c : Cx) : Prop where
  B : Below c.A₀ c.base c.outer c.h₀
  X : (Mine.hd.heap_1 c.w.params).In c.h₀
  T : Top c.p c.loose c.mean c.mg c.mb c.h₀
  k : c.cs.kind = .function
  d : c.dp ≤ 900
  u : c.un ≤ 6000
  t44 : CodeHd c.base 48 44
  t37 : CodeHd c.base 41 37
  t126 : CodeHd c.base 130 126
def Den : List (Addr × Obj) → Led → Prop
  | [], [] => True
  | p :: ps, q :: qs => p.1 = q.1 ∧ q.2 p.2 ∧ Den ps qs
  | _, _ => False
theorem Den.mem : ∀ {C : List (Addr × Obj)} {N : Led} {a : Addr} {P : AO}, Den C N → (a, P) ∈ N → ∃ o, (a, o) ∈ C ∧ P o
  | [], [], _, _, _, h => nomatch h
  | [], _ :: _, _, _, d, _ => d.elim
  | _ :: _, [], _, _, d, _ => d.elim
  | (b, o) :: C, (b', P') :: N, a, P, d, h => by
    obtain ⟨e, q, d⟩ := d
    rcases List.mem_cons.mp h with h | h
    · cases h
      cases e
      exact ⟨o, .head _, q⟩
    · obtain ⟨o', m, p⟩ := Den.mem d h
      exact ⟨o', .tail _ m, p⟩
theorem Den.addrs : ∀ {C : List (Addr × Obj)} {N : Led}, Den C N → C.map (·.1) = N.map (·.1)
  | [], [], _ => rfl
  | [], _ :: _, d => d.elim
  | _ :: _, [], d => d.elim
  | _ :: _, _ :: _, d => by rw [List.map_cons, List.map_cons, d.1, Den.addrs d.2.2]
structure At (c : Cx) (h : Heap) (m : Loc) (N : Led) : Prop where
  ex : ∃ μ C, Fr c.h₀ c.L h μ ∧ (∀ x, (μ x).map er = m.lookup x) ∧ News c.h₀ c.L h C ∧ Den C N ∧ (C.map (·.1)).Nodup
structure Run {α : Type} (c : Cx) (e : α → α) (t : Sem α) (m : Loc) (N : Led) (K : α → Loc → Led → Prop) : Prop where
  go : ∀ (h : Heap) (tk : Tok) (g : Array GenState) (Q : α → Shared → Prop) (E : Value → Shared → Prop), AllBare g → At c h m N →
    (∀ v h' tk' g' m' N', AllBare g' → At c h' m' N' → K (e v) m' N' → Q v (c.st h' tk' g')) → wpAny c.M c.A t Q E (c.st h tk g)
theorem Run.mono {α : Type} {c : Cx} {e : α → α} {t : Sem α} {m : Loc} {N : Led} {K K' : α → Loc → Led → Prop} (H : Run c e t m N K) (h : ∀ v m N, K v m N → K' v m N) : Run c e t m N K' :=
  ⟨fun h0 tk g Q E hg a k => H.go h0 tk g Q E hg a fun v h' tk' g' m' N' hg' a' q => k v h' tk' g' m' N' hg' a' (h _ _ _ q)⟩
theorem At.ext {c : Cx} {h : Heap} {m m' : Loc} {N : Led} (a : At c h m N) (e : ∀ x, m.lookup x = m'.lookup x) : At c h m' N := by
  obtain ⟨μ, C, F, l, r⟩ := a.ex
  exact ⟨μ, C, F, fun x => (l x).trans (e x), r⟩
theorem Run.ext {α : Type} {c : Cx} {e : α → α} {t : Sem α} {m m' : Loc} {N : Led} {K : α → Loc → Led → Prop} (he : ∀ x, m.lookup x = m'.lookup x) (H : Run c e t m' N K) : Run c e t m N K :=
  ⟨fun h0 tk g Q E hg a k => H.go h0 tk g Q E hg (a.ext he) k⟩
theorem At.sub {c : Cx} {h : Heap} {m : Loc} {N N' : Led} (a : At c h m N) (hp : (N'.map (·.1)).Nodup) (hs : ∀ q ∈ N', q ∈ N) : At c h m N' := by
  obtain ⟨μ, C, F, l, Nw, d, nd⟩ := a.ex
  have pick : ∀ (N' : Led), (∀ q ∈ N', q ∈ N) → ∃ C', Den C' N' ∧ ∀ p ∈ C', p ∈ C := by
    intro N'
    induction N' with
    | nil => intro _; exact ⟨[], trivial, fun _ h => nomatch h⟩
    | cons q N' ih =>
      intro hs
      obtain ⟨C', d', s'⟩ := ih fun q hq => hs q (.tail _ hq)
      obtain ⟨o, mo, po⟩ := d.mem (a := q.1) (P := q.2) (hs q (.head _))
      refine ⟨(q.1, o) :: C', ⟨rfl, po, d'⟩, fun p hp => ?_⟩
      rcases List.mem_cons.mp hp with rfl | hp
      · exact mo
      · exact s' p hp
  obtain ⟨C', d', s'⟩ := pick N' hs
  exact ⟨μ, C', F, l, fun p hp => Nw p (s' p hp), d', by rw [d'.addrs]; exact hp⟩
theorem At.nodup {c : Cx} {h : Heap} {m : Loc} {N : Led} (a : At c h m N) : (N.map (·.1)).Nodup := by
  obtain ⟨μ, C, F, l, Nw, d, nd⟩ := a.ex
  rw [← d.addrs]; exact nd
inductive Rem (x : Addr × AO) : Led → Led → Prop
  | head {r : Led} : Rem x (x :: r) r
  | tail {y : Addr × AO} {r r' : Led} : Rem x r r' → Rem x (y :: r) (y :: r')
inductive Pk : Led → Led → Prop
  | all {N : Led} : Pk N N
  | nil {N : Led} : Pk N []
  | cons {x : Addr × AO} {N M N' : Led} : Rem x N M → Pk M N' → Pk N (x :: N')
  | drop {y : Addr × AO} {N N' : Led} : Pk N N' → Pk (y :: N) N'
  | app {A N N' : Led} : Pk N N' → Pk (A ++ N) (A ++ N')
  | perm {N N' : Led} : N'.Perm N → Pk N N'
  | trans {N M N' : Led} : Pk N M → Pk M N' → Pk N N'
theorem Rem.perm {x : Addr × AO} {N M : Led} (h : Rem x N M) : (x :: M).Perm N := by
  induction h with
  | head => exact .refl _
  | tail _ ih => exact (List.Perm.swap _ _ _).trans (ih.cons _)
theorem Pk.sub {N N' : Led} (h : Pk N N') : ∃ D, (N' ++ D).Perm N := by
  induction h with
  | all => exact ⟨[], by rw [List.append_nil]⟩
  | nil => exact ⟨_, .refl _⟩
  | cons r _ ih =>
    obtain ⟨D, hD⟩ := ih
    exact ⟨D, (hD.cons _).trans r.perm⟩
  | drop _ ih =>
    obtain ⟨D, hD⟩ := ih
    exact ⟨_ :: D, List.perm_middle.trans (hD.cons _)⟩
  | app _ ih =>
    obtain ⟨D, hD⟩ := ih
    exact ⟨D, by rw [List.append_assoc]; exact hD.append_left _⟩
  | perm h => exact ⟨[], by rw [List.append_nil]; exact h⟩
  | trans _ _ ih1 ih2 =>
    obtain ⟨D1, h1⟩ := ih1
    obtain ⟨D2, h2⟩ := ih2
    exact ⟨D2 ++ D1, by rw [← List.append_assoc]; exact (h2.append_right D1).trans h1⟩
theorem At.pick {c : Cx} {h : Heap} {m : Loc} {N N' : Led} (a : At c h m N) (p : Pk N N') : At c h m N' := by
  obtain ⟨D, hD⟩ := p.sub
  have n1 := ((hD.map (·.1)).nodup_iff).mpr a.nodup
  rw [List.map_append] at n1
  exact a.sub (List.nodup_append.mp n1).1 fun q hq => hD.subset (List.mem_append_left _ hq)
theorem Run.pick {α : Type} {c : Cx} {e : α → α} {t : Sem α} {m : Loc} {N N' : Led} {K : α → Loc → Led → Prop} (p : Pk N N') (H : Run c e t m N' K) : Run c e t m N K :=
  ⟨fun h0 tk g Q E hg a k => H.go h0 tk g Q E hg (a.pick p) k⟩
inductive Pos (D : Addr) (P : AO) : Led → (AO → Led) → Prop
  | head {r : Led} : Pos D P ((D, P) :: r) (fun Q => (D, Q) :: r)
  | tail {x : Addr × AO} {r : Led} {g : AO → Led} : Pos D P r g → Pos D P (x :: r) (fun Q => x :: g Q)
theorem Pos.split {D : Addr} {P : AO} {N : Led} {g : AO → Led} (x : Pos D P N g) : ∃ pre post, N = pre ++ (D, P) :: post ∧ ∀ Q, g Q = pre ++ (D, Q) :: post := by
  induction x with
  | head => exact ⟨[], _, rfl, fun _ => rfl⟩
  | tail _ ih =>
    obtain ⟨pre, post, rfl, e⟩ := ih
    exact ⟨_ :: pre, post, rfl, fun Q => by dsimp only; rw [e]; rfl⟩
theorem Den.at : ∀ {pre post : Led} {D : Addr} {P : AO} {C : List (Addr × Obj)}, Den C (pre ++ (D, P) :: post) → ∃ cp o cq, C = cp ++ (D, o) :: cq ∧ P o ∧ ∀ {Q : AO} {o' : Obj}, Q o' → Den (cp ++ (D, o') :: cq) (pre ++ (D, Q) :: post)
  | [], post, D, P, [], d => d.elim
  | [], post, D, P, (b, o) :: C, d => by
    obtain ⟨e, q, d⟩ := d
    dsimp only at e
    subst e
    exact ⟨[], o, C, rfl, q, fun h => ⟨rfl, h, d⟩⟩
  | _ :: pre, post, D, P, [], d => d.elim
  | x :: pre, post, D, P, y :: C, d => by
    obtain ⟨e, q, d⟩ := d
    obtain ⟨cp, o, cq, rfl, h, k⟩ := Den.at (pre := pre) d
    exact ⟨y :: cp, o, cq, rfl, h, fun h' => ⟨e, q, k h'⟩⟩
theorem At.upd {c : Cx} {h h' : Heap} {m : Loc} {N : Led} {g : AO → Led} {D : Addr} {P Q : AO} (a : At c h m N) (x : Pos D P N g) (ch : ∀ o, P o → h.get? D = some o → ∃ o', h'.get? D = some o' ∧ Q o') (k : ∀ b o, b ≠ D → h.get? b = some o → h'.get? b = some o) : At c h' m (g Q) := by
  obtain ⟨μ, C, F, l, Nw, d, nd⟩ := a.ex
  obtain ⟨pre, post, rfl, e⟩ := x.split
  obtain ⟨cp, o, cq, rfl, hP, kd⟩ := d.at
  have z := Nw (D, o) (List.mem_append_right _ (.head _))
  obtain ⟨o', h1, h2⟩ := ch o hP z.1
  rw [e]
  refine ⟨μ, cp ++ (D, o') :: cq, ⟨F.ns.at' fun o e => k _ _ z.2.1.symm e, fun b ob eb => k b ob (fun q => by rw [q, z.2.2] at eb; cases eb) (F.keep b ob eb), F.above⟩, l, fun p hp => ?_, kd h2, ?_⟩
  · have ne : ∀ p ∈ cp ++ cq, p.1 ≠ D := by
      intro p hp q
      rw [List.map_append, List.map_cons] at nd
      rcases List.mem_append.mp hp with hp | hp
      · exact (List.nodup_append.mp nd).2.2 p.1 (List.mem_map_of_mem (f := (·.1)) hp) D (.head _) q
      · have m1 := List.mem_map_of_mem (f := (·.1)) hp
        rw [q] at m1
        exact (List.nodup_cons.mp (List.nodup_append.mp nd).2.1).1 m1
    rcases List.mem_append.mp hp with hp | hp
    · have n := Nw p (List.mem_append_left _ hp)
      exact ⟨k _ _ (ne p (List.mem_append_left _ hp)) n.1, n.2⟩
    · rcases List.mem_cons.mp hp with rfl | hp
      · exact ⟨h1, z.2⟩
      · have n := Nw p (List.mem_append_right _ (.tail _ hp))
        exact ⟨k _ _ (ne p (List.mem_append_right _ hp)) n.1, n.2⟩
  · simpa only [List.map_append, List.map_cons] using nd
theorem At.push {c : Cx} {h : Heap} {m : Loc} {N : Led} {o : Obj} {P : AO} (a : At c h m N) (hP : P o) (hfree : o.isFreed = false := by rfl) : At c (h.push o) m ((h.objs.size, P) :: N) := by
  obtain ⟨μ, C, F, l, Nw, d, nd⟩ := a.ex
  refine ⟨μ, (h.objs.size, o) :: C, F.push o, l, Nw.push F o hfree, ⟨rfl, hP, d⟩, ?_⟩
  rw [List.map_cons, List.nodup_cons]
  refine ⟨fun hm => ?_, nd⟩
  obtain ⟨p, hp, e⟩ := List.mem_map.mp hm
  exact absurd (Heap.lt_size (Nw p hp).1) (by rw [e]; exact Nat.lt_irrefl _)
theorem At.get {c : Cx} {h : Heap} {m : Loc} {N : Led} {a : Addr} {P : AO} (x : At c h m N) (hm : (a, P) ∈ N) : ∃ o, h.get? a = some o ∧ P o := by
  obtain ⟨μ, C, F, l, Nw, d, nd⟩ := x.ex
  obtain ⟨o, mo, po⟩ := d.mem hm
  exact ⟨o, (Nw _ mo).1, po⟩
end Mine
end
section
open PySem PySem.W PyProof.Rows PySem.Calls
set_option maxRecDepth 100000
namespace Mine
abbrev Kv := Value → Loc → Led → Prop
noncomputable abbrev HP (c : Cx) : Frag := Mine.hd.heap_1 c.w.params
structure Bin (c : Cx) (op : Operator) (a b : Value) (m : Loc) (N : Led) (K : Kv) : Prop where
  go : ∀ a' b', er a' = a → er b' = b → Run c er (binaryOp op a' b') m N K
structure Cmp (c : Cx) (op : CmpOp) (a b : Value) (m : Loc) (N : Led) (K : Kv) : Prop where
  go : ∀ a' b', er a' = a → er b' = b → Run c er (compareOp op a' b') m N K
structure Unr (c : Cx) (op : UnaryOp) (a : Value) (m : Loc) (N : Led) (K : Kv) : Prop where
  go : ∀ a', er a' = a → Run c er (unaryOp op a') m N K
structure Tru (c : Cx) (a : Value) (m : Loc) (N : Led) (K : Bool → Loc → Led → Prop) : Prop where
  go : ∀ a', er a' = a → Run c id (truthy a') m N K
structure Get (c : Cx) (o : Value) (x : Str) (m : Loc) (N : Led) (K : Value → List Value → Loc → Led → Prop) : Prop where
  go : ∀ o' pl, er o' = o → Run c erM (getMethod o' x pl) m N (fun p => K p.1 p.2)
def Cal (c : Cx) (f : Value) (args : List Value) (m : Loc) (N : Led) (K : Kv) : Prop := ∀ f' args', er f' = f → args'.map er = args → Run c er (call f' args') m N K
def Kep (c : Cx) (f : Value) (N : Led) : Prop := ∀ f' h m, er f' = f → At c h m N → ∃ k, (k = Keeper.frame ∨ k = Keeper.machine ∨ k = Keeper.boundFrame) ∧ Looks c.M h (keeperOf f') k
structure CalW (c : Cx) (f : Value) (args : List Value) (m : Loc) (N : Led) (K : Kv) : Prop where
  kep : Kep c f N
  go : Cal c f args m N K
structure Sub (c : Cx) (v i : Expr) (a b : Value) (m : Loc) (N : Led) (K : Kv) : Prop where
  go : ∀ a' b', er a' = a → er b' = b → Run c er (subscriptTail v i a' b') m N K
structure SubS (c : Cx) (v i : Expr) (o l u st : Value) (m : Loc) (N : Led) (K : Kv) : Prop where
  go : ∀ (o' l' u' st' : Value) (h : Heap) (tk : Tok) (g : Array GenState) (Q E : Value → Shared → Prop), er o' = o → er l' = l → er u' = u → er st' = st → AllBare g → At c h m N →
    (∀ v h' tk' g' m' N', AllBare g' → At c h' m' N' → K (er v) m' N' → Q v (c.st h' tk' g')) → wpAny c.M c.A (subscriptTail v i o' (.ref h.objs.size)) Q E (c.st (h.push { cls := .type "slice", data := .fields #[l', u', st'] }) tk g)
structure SetI (c : Cx) (o i v : Value) (m : Loc) (N : Led) (K : Loc → Led → Prop) : Prop where
  go : ∀ o' i' v', er o' = o → er i' = i → er v' = v → Run c id (setItem o' i' v') m N (fun _ => K)
def globF : List (Str × Value) := [("_div2n1n", .ref 28), ("_div3n2n", .ref 35), ("_int2digits", .ref 42), ("_digits2int", .ref 49), ("_divmod_pos", .ref 56), ("int_divmod", .ref 63), ("_ellipsis_match", .ref 70), ("_strip_exception_details", .ref 77), ("_Accumulator", .ref 157), ("_law_worth", .ref 168), ("_law_answer", .ref 173), ("_law_learn", .ref 178)]
def globB : List (Str × Value) := [("len", .builtin "len"), ("range", .type "range"), ("abs", .builtin "abs"), ("sum", .builtin "sum"), ("divmod", .builtin "divmod"), ("reversed", .type "reversed"), ("str", .type "str")]
def globC : List (Str × Value) := [("ELLIPSIS_MARKER", .str "..." 0), ("EMPTYSTRING", .str "" 0), ("_DIV_LIMIT", .int 4000 0)]
def glob (x : Str) : Option Value := match globF.lookup x with
  | some v => some v
  | none => match globB.lookup x with
    | some v => some v
    | none => globC.lookup x
def vName (ns : List (Str × NameKind)) (cl : List (Str × Addr)) (x : Str) (m : Loc) (N : Led) (K : Kv) : Prop := match ns.lookup x with
  | some .local => match m.lookup x with
    | some v => K v m N
    | none => False
  | some .cell => match cl.lookup x with
    | some a => ∃ v, (a, isCell (some v)) ∈ N ∧ K v m N
    | none => False
  | some .free => match cl.lookup x with
    | some a => ∃ v, (a, isCell (some v)) ∈ N ∧ K v m N
    | none => False
  | some .globalImplicit => match glob x with
    | some v => K v m N
    | none => False
  | _ => False
def vConst (k : Const) (m : Loc) (N : Led) (K : Kv) : Prop := match k with
  | .int i => K (.int i 0) m N
  | .str x => K (.str x 0) m N
  | .bool b => K (.bool b) m N
  | .none => K .none m N
  | _ => False
def vList (F : Expr → Loc → Led → Kv → Prop) : List Expr → Loc → Led → (List Value → Loc → Led → Prop) → Prop
  | [], m, N, K => K [] m N
  | e :: es, m, N, K => F e m N fun v m N => vList F es m N fun vs m N => K (v :: vs) m N
def noStar (es : List Expr) : Bool := es.all fun e => match e with
  | .Starred _ _ => false
  | _ => true
def one {α : Type} : List α → Option α
  | [x] => some x
  | _ => none
def vCmpT (c : Cx) (env : Env) (F : Expr → Loc → Led → Kv → Prop) (t l : Expr) (m : Loc) (N : Led) (K : Bool → Loc → Led → Prop) (op : Option CmpOp) (r : Option Expr) : Prop := match op with
  | some op => match r with
    | some r => behindInMarks op r = false ∧ F l m N fun a m N => F r m N fun b m N => Cmp c op a b m N fun v m N => Tru c v m N K
    | none => Run c id (PySem.isTrue t env (eval t env)) m N K
  | none => Run c id (PySem.isTrue t env (eval t env)) m N K
def vTest (c : Cx) (env : Env) (F : Expr → Loc → Led → Kv → Prop) (t : Expr) (m : Loc) (N : Led) (K : Bool → Loc → Led → Prop) : Prop := match t with
  | .Compare l ops rs p => vCmpT c env F (.Compare l ops rs p) l m N K (one ops) (one rs)
  | .Name x p => F (.Name x p) m N fun v m N => Tru c v m N K
  | .Call f a k p => F (.Call f a k p) m N fun v m N => Tru c v m N K
  | e => Run c id (PySem.isTrue e env (eval e env)) m N K
def vPart (F : Expr → Loc → Led → Kv → Prop) (e : Option Expr) (m : Loc) (N : Led) (K : Kv) : Prop := match e with
  | some e => F e m N K
  | none => K .none m N
def isSlice : Expr → Bool
  | .Slice .. => true
  | _ => false
def vCmp (c : Cx) (env : Env) (F : Expr → Loc → Led → Kv → Prop) (t l : Expr) (m : Loc) (N : Led) (K : Kv) (op : Option CmpOp) (r : Option Expr) : Prop := match op with
  | some op => match r with
    | some r => behindInMarks op r = false ∧ F l m N fun a m N => F r m N fun b m N => Cmp c op a b m N K
    | none => Run c er (eval t env) m N K
  | none => Run c er (eval t env) m N K
def vSubs (c : Cx) (F : Expr → Loc → Led → Kv → Prop) (v i : Expr) (m : Loc) (N : Led) (K : Kv) : Prop := match i with
  | .Slice l u st ps => F v m N fun o m N => vPart F l m N fun l' m N => vPart F u m N fun u' m N => vPart F st m N fun st' m N => SubS c v (.Slice l u st ps) o l' u' st' m N K
  | i => F v m N fun a m N => F i m N fun b m N => Sub c v i a b m N K
def atomE : Expr → Bool
  | .Name .. => true
  | .Constant .. => true
  | _ => false
def vMeth (c : Cx) (F : Expr → Loc → Led → Kv → Prop) (o : Expr) (x : Str) (px : PySem.Pos) (args : List Expr) (p : PySem.Pos) (m : Loc) (N : Led) (K : Kv) : Prop :=
  (noStar args && Nat.blt args.length 30 && px.endLine == p.line) = true ∧ F o m N fun o m N => Get c o x m N fun f first m N => vList F args m N fun vs m N => CalW c f (first ++ vs) m N K
def vFun (c : Cx) (F : Expr → Loc → Led → Kv → Prop) (f : Expr) (args : List Expr) (m : Loc) (N : Led) (K : Kv) : Prop :=
  noStar args = true ∧ F f m N fun f m N => vList F args m N fun vs m N => CalW c f vs m N K
def vCall (c : Cx) (env : Env) (F : Expr → Loc → Led → Kv → Prop) (f : Expr) (args : List Expr) (kw : List Keyword) (p : PySem.Pos) (m : Loc) (N : Led) (K : Kv) : Prop := match kw with
  | [] => match f with
    | .Attribute o x px => match atomE o with
      | true => vMeth c F o x px args p m N K
      | false => Run c er (eval (.Call (.Attribute o x px) args [] p) env) m N K
    | .Name x px => vFun c F (.Name x px) args m N K
    | f => Run c er (eval (.Call f args [] p) env) m N K
  | kw => Run c er (eval (.Call f args kw p) env) m N K
def vG (c : Cx) (env : Env) (V : Str → Loc → Led → Kv → Prop) : Nat → Expr → Loc → Led → Kv → Prop
  | 0, _, _, _, _ => False
  | n + 1, e, m, N, K => match e with
    | .Name x _ => V x m N K
    | .Constant k _ _ => vConst k m N K
    | .BinOp l op r _ => vG c env V n l m N fun a m N => vG c env V n r m N fun b m N => Bin c op a b m N K
    | .UnaryOp op x _ => vG c env V n x m N fun a m N => Unr c op a m N K
    | .Compare l ops rs p => vCmp c env (vG c env V n) (.Compare l ops rs p) l m N K (one ops) (one rs)
    | .IfExp t b o _ => vTest c env (vG c env V n) t m N fun z m N => (z = true → vG c env V n b m N K) ∧ (z = false → vG c env V n o m N K)
    | .Tuple es _ _ => noStar es = true ∧ vList (vG c env V n) es m N fun vs m N => Nat.ble vs.length 1000 = true ∧ ∀ a, K (.ref a) m ((a, isT vs) :: N)
    | .List es _ => noStar es = true ∧ vList (vG c env V n) es m N fun vs m N => Nat.ble vs.length 1000 = true ∧ ∀ a, K (.ref a) m ((a, isL vs) :: N)
    | .Subscript v i _ => vSubs c (vG c env V n) v i m N K
    | .Call f args kw p => vCall c env (vG c env V n) f args kw p m N K
    | e => Run c er (eval e env) m N K
def vE (c : Cx) (ns : List (Str × NameKind)) (cl : List (Str × Addr)) (n : Nat) : Expr → Loc → Led → Kv → Prop := vG c c.env (vName ns cl) n
theorem lookup_mem {α : Type} {x : Str} {v : α} : ∀ {l : List (Str × α)}, l.lookup x = some v → (x, v) ∈ l
  | [], h => nomatch h
  | (y, u) :: l, h => by
    rw [List.lookup_cons] at h
    by_cases e : (x == y) = true
    · rw [e] at h
      rw [eq_of_beq e]
      cases h
      exact .head _
    · rw [Bool.eq_false_iff.mpr e] at h
      exact .tail _ (lookup_mem h)
section
variable {c : Cx} {m : Loc} {N : Led}
theorem look_local {μ : Str → Option Value} {x : Str} {v : Value} (l : ∀ x, (μ x).map er = m.lookup x) (h : m.lookup x = some v) : ∃ v', μ x = some v' ∧ er v' = v := Option.map_eq_some_iff.mp ((l x).trans h)
theorem glob_F (c : Cx) : ∀ q ∈ globF, nsIn (HP c) mainGlobals q.1 = some (some q.2) := by
  intro q hq
  simp only [globF, List.mem_cons, List.mem_nil_iff, or_false] at hq
  rcases hq with rfl | rfl | rfl | rfl | rfl | rfl | rfl | rfl | rfl | rfl | rfl | rfl <;> kernel_rfl
theorem glob_B (c : Cx) : ∀ q ∈ globB, nsIn (HP c) mainGlobals q.1 = some none ∧ bootBuiltins q.1 = some q.2 ∧ q.1 ≠ "__name__" := by
  intro q hq
  simp only [globB, List.mem_cons, List.mem_nil_iff, or_false] at hq
  rcases hq with rfl | rfl | rfl | rfl | rfl | rfl | rfl <;> refine ⟨by kernel_rfl, ?_, by decide⟩ <;> dsimp only <;> boot_by_name
theorem of_map_er {o : Option (Option Value)} {x : Value} (h : o.map (fun y => y.map er) = some (some x)) : ∃ v, o = some (some v) ∧ er v = x := by
  cases o with
  | none => cases h
  | some y => cases y with
    | none => cases h
    | some v => exact ⟨v, rfl, Option.some.inj (Option.some.inj h)⟩
theorem glob_C (c : Cx) : ∀ q ∈ globC, ∃ v, nsIn (HP c) mainGlobals q.1 = some (some v) ∧ er v = q.2 := by
  intro q hq
  simp only [globC, List.mem_cons, List.mem_nil_iff, or_false] at hq
  rcases hq with rfl | rfl | rfl <;> exact of_map_er (by kernel_rfl)
theorem glob_ok (c : Cx) {x : Str} {v : Value} (h : glob x = some v) : (∃ v', nsIn (HP c) mainGlobals x = some (some v') ∧ er v' = v) ∨ (nsIn (HP c) mainGlobals x = some none ∧ ∃ v', bootBuiltins x = some v' ∧ er v' = v ∧ x ≠ "__name__") := by
  unfold glob at h
  cases h1 : globF.lookup x with
  | some v1 =>
    rw [h1] at h
    cases h
    refine .inl ⟨_, glob_F c _ (lookup_mem h1), ?_⟩
    exact (by decide : ∀ q ∈ globF, er q.2 = q.2) _ (lookup_mem h1)
  | none =>
    rw [h1] at h
    cases h2 : globB.lookup x with
    | some v1 =>
      rw [h2] at h
      cases h
      obtain ⟨a, b, d⟩ := glob_B c _ (lookup_mem h2)
      exact .inr ⟨a, _, b, (by decide : ∀ q ∈ globB, er q.2 = q.2) _ (lookup_mem h2), d⟩
    | none =>
      rw [h2] at h
      exact .inl (glob_C c _ (lookup_mem h))
theorem vName_sound (G : Good c) {ns : List (Str × NameKind)} {cl : List (Str × Addr)} (hns : c.cs.names = ns) (hcl : c.cl = cl) {x : Str} {p : PySem.Pos} {K : Kv} (h : vName ns cl x m N K) (hd : (x == ("__debug__" : Str)) = false) (hd2 : (x == ("__classdict__" : Str)) = false) : Run c er (eval (.Name x p) c.env) m N K := by
  subst hns hcl
  refine ⟨fun h0 tk g Q E hg a k => ?_⟩
  obtain ⟨μ, C, F, l, Nw, d, nd⟩ := a.ex
  unfold vName at h
  split at h
  · rename_i e
    split at h
    · rename_i v e2
      obtain ⟨v', e3, e4⟩ := look_local l e2
      exact nameX_L (s := c.st h0 tk g) F e3 (k v' h0 tk g m N hg a (by rw [e4]; exact h)) G.k e hd
    · exact h.elim
  · rename_i e
    split at h
    · rename_i b e2
      obtain ⟨v, hm, h⟩ := h
      obtain ⟨o, mo, v', e3, e4⟩ := d.mem hm
      obtain ⟨v'', rfl, e5⟩ := Option.map_eq_some_iff.mp e4
      exact nameX_C (s := c.st h0 tk g) Nw e2 mo e3 (k v'' h0 tk g m N hg a (by rw [e5]; exact h)) G.k e hd
    · exact h.elim
  · rename_i e
    split at h
    · rename_i b e2
      obtain ⟨v, hm, h⟩ := h
      obtain ⟨o, mo, v', e3, e4⟩ := d.mem hm
      obtain ⟨v'', rfl, e5⟩ := Option.map_eq_some_iff.mp e4
      exact nameX_F (s := c.st h0 tk g) Nw e2 mo e3 (k v'' h0 tk g m N hg a (by rw [e5]; exact h)) G.k e hd hd2
    · exact h.elim
  · rename_i e
    split at h
    · rename_i v e2
      rcases glob_ok c e2 with ⟨v', e3, e4⟩ | ⟨e3, v', e4, e5, e6⟩
      · exact nameX_K (s := c.st h0 tk g) F G.X (topRead_of G.T) e3 (k v' h0 tk g m N hg a (by rw [e4]; exact h)) G.k e hd
      · exact nameX_B (s := c.st h0 tk g) F G.X (topRead_of G.T) e3 e4 e6 (k v' h0 tk g m N hg a (by rw [e5]; exact h)) G.k e hd
    · exact h.elim
  · exact h.elim
end
end Mine
end
section
open PySem PySem.W PyProof.Rows PySem.Calls
set_option maxRecDepth 100000
namespace Mine
def plainNames (ns : List (Str × NameKind)) : Bool := ns.all fun q => q.1 != ("__debug__" : Str) && q.1 != ("__classdict__" : Str)
theorem plain_of {ns : List (Str × NameKind)} (h : plainNames ns = true) {x : Str} {k : NameKind} (e : ns.lookup x = some k) : (x == ("__debug__" : Str)) = false ∧ (x == ("__classdict__" : Str)) = false := by
  have := List.all_eq_true.mp h (x, k) (lookup_mem e)
  simp only [Bool.and_eq_true, bne_iff_ne] at this
  exact ⟨beq_eq_false_iff_ne.mpr this.1, beq_eq_false_iff_ne.mpr this.2⟩
theorem vName_some {ns : List (Str × NameKind)} {cl : List (Str × Addr)} {x : Str} {m : Loc} {N : Led} {K : Kv} (h : vName ns cl x m N K) : ∃ k, ns.lookup x = some k := by
  unfold vName at h
  split at h <;> first | exact ⟨_, by assumption⟩ | exact h.elim
theorem star_plain (env : Env) : ∀ {es : List Expr}, noStar es = true → starEach es env = es.map fun e => (false, eval e env)
  | [], _ => rfl
  | e :: es, h => by
    unfold noStar at h
    rw [List.all_cons, Bool.and_eq_true] at h
    have ih := star_plain env (es := es) h.2
    cases e <;> first | exact absurd h.1 Bool.false_ne_true | (show _ :: starEach es env = _; rw [ih]; rfl)
theorem back_plain (env : Env) (pos : PySem.Pos) {es : List Expr} (h : noStar es = true) : backTo pos (starEach es env) = es.map fun e => (false, eval e env) := by
  rw [star_plain env h]
  unfold backTo
  rw [List.map_map]
  exact List.map_congr_left fun e _ => rfl
section
variable {c : Cx}
variable {env : Env}
theorem vList_sound {F : Expr → Loc → Led → Kv → Prop} (hF : ∀ e m N K, F e m N K → Run c er (eval e env) m N K) :
    ∀ (es : List Expr) (m : Loc) (N : Led) (K : List Value → Loc → Led → Prop), vList F es m N K → Run c (List.map er) (spliced (es.map fun e => (false, eval e env))) m N K
  | [], m, N, K, h => ⟨fun h0 tk g Q E hg a k => spliced_nil (k [] h0 tk g m N hg a h)⟩
  | e :: es, m, N, K, h => ⟨fun h0 tk g Q E hg a k => spliced_cons ((hF _ _ _ _ h).go h0 tk g _ E hg a fun v h' tk' g' m' N' hg' a' q' =>
      (vList_sound hF es m' N' _ q').go h' tk' g' _ E hg' a' fun vs h2 tk2 g2 m2 N2 hg2 a2 q2 => k (v :: vs) h2 tk2 g2 m2 N2 hg2 a2 q2)⟩
theorem args_sound {F : Expr → Loc → Led → Kv → Prop} (hF : ∀ e m N K, F e m N K → Run c er (eval e env) m N K) {f : Value} {es : List Expr} {m : Loc} {N : Led} {K : List Value → Loc → Led → Prop} (h : vList F es m N K)
    {h0 : Heap} {tk : Tok} {g : Array GenState} {Q : Args → Shared → Prop} {E : Value → Shared → Prop} (hg : AllBare g) (a : At c h0 m N) (k : ∀ vs h' tk' g' m' N', AllBare g' → At c h' m' N' → K (vs.map er) m' N' → Q ⟨vs, []⟩ (c.st h' tk' g')) :
    wpAny c.M c.A (evalArgs f true (es.map fun e => (false, eval e env)) []) Q E (c.st h0 tk g) := by
  cases es with
  | nil => exact evalArgs_nil3 (k [] h0 tk g m N hg a h)
  | cons e es => exact evalArgs_plain ((vList_sound hF (e :: es) m N K h).go h0 tk g _ E hg a fun vs h' tk' g' m' N' hg' a' q => k vs h' tk' g' m' N' hg' a' q)
theorem callW_sound {F : Expr → Loc → Led → Kv → Prop} (hF : ∀ e m N K, F e m N K → Run c er (eval e env) m N K) {f : Value} {first : List Value} {pos : PySem.Pos} {es : List Expr} (hs : noStar es = true) {m : Loc} {N : Led} {K : Kv} {f0 : Value} {first0 : List Value}
    (ef : er f = f0) (e1 : first.map er = first0) (h : vList F es m N fun vs m N => CalW c f0 (first0 ++ vs) m N K) : Run c er (callWith pos f first (backTo pos (starEach es env)) []) m N K := by
  refine ⟨fun h0 tk g Q E hg a k => ?_⟩
  rw [back_plain _ _ hs]
  refine callWith_of (P := fun h => ∃ m N, At c h m N ∧ Kep c f0 N) ?_ (fun h ⟨m, N, a, kp⟩ => kp f h m ef a) ?_
  · rw [List.any_map]
    simp
  · refine args_sound hF h hg a fun vs h' tk' g' m' N' hg' a' q => ⟨⟨m', N', a', q.kep⟩, ?_⟩
    exact (q.go f (first ++ vs) ef (by rw [List.map_append, e1])).go h' tk' g' Q E hg' a' k
theorem vPart_sound {F : Expr → Loc → Led → Kv → Prop} (hF : ∀ e m N K, F e m N K → Run c er (eval e env) m N K) {e : Option Expr} {m : Loc} {N : Led} {K : Kv} (h : vPart F e m N K) : Run c er (evalPart e env) m N K := by
  cases e with
  | some e => exact hF _ _ _ _ h
  | none => exact ⟨fun h0 tk g Q E hg a k => wpAny_pure (k .none h0 tk g m N hg a h)⟩
theorem vTest_sound {F : Expr → Loc → Led → Kv → Prop} (hF : ∀ e m N K, F e m N K → Run c er (eval e env) m N K) {t : Expr} {m : Loc} {N : Led} {K : Bool → Loc → Led → Prop} (h : vTest c env F t m N K) : Run c id (PySem.isTrue t env (eval t env)) m N K := by
  have plain : (F t m N fun v m N => Tru c v m N K) → (PySem.isTrue t env (eval t env) = (do let v ← eval t env; standAt t.pos; holding [v] (truthy v))) → Run c id (PySem.isTrue t env (eval t env)) m N K :=
    fun q e => ⟨fun h0 tk g Q E hg a k => isTrue_plain ((hF _ _ _ _ q).go h0 tk g _ E hg a fun v h' tk' g' m' N' hg' a' q' => (q'.go v rfl).go h' tk' g' Q E hg' a' k) e⟩
  cases t with
  | Compare l ops rs p =>
    match ops, rs, h with
    | [op], [r], h =>
      have h : behindInMarks op r = false ∧ F l m N fun a m N => F r m N fun b m N => Cmp c op a b m N fun v m N => Tru c v m N K := h
      exact ⟨fun h0 tk g Q E hg a k => wpAny_isTrue_Compare1 ((hF _ _ _ _ h.2).go h0 tk g _ E hg a fun v h' tk' g' m' N' hg' a' q' =>
        (hF _ _ _ _ q').go h' tk' g' _ E hg' a' fun v2 h2 tk2 g2 m2 N2 hg2 a2 q2 => (q2.go v v2 rfl rfl).go h2 tk2 g2 _ E hg2 a2 fun v3 h3 tk3 g3 m3 N3 hg3 a3 q3 => (q3.go v3 rfl).go h3 tk3 g3 Q E hg3 a3 k) h.1⟩
    | [], _, h => exact h
    | _ :: _ :: _, _, h => exact h
    | [_], [], h => exact h
    | [_], _ :: _ :: _, h => exact h
  | Name x p => exact plain h rfl
  | Call f a k p => exact plain h rfl
  | _ => exact h
theorem tup_new {vs : List Value} {m : Loc} {N : Led} {K : Kv} (hl : vs.length ≤ 1000) (h : ∀ a, K (.ref a) m ((a, isT (vs.map er)) :: N)) : Run c er (newTuple vs) m N K :=
  ⟨fun h0 tk g Q E hg a k => wpAny_newObj_type (k _ _ tk g m _ hg (a.push (P := isT (vs.map er)) ⟨vs, 0, rfl, rfl⟩) (h _)) (by show vs.toArray.size ≤ sizeLine; rw [List.size_toArray, sizeLine_eq]; omega)⟩
theorem list_new {vs : List Value} {m : Loc} {N : Led} {K : Kv} (hl : vs.length ≤ 1000) (h : ∀ a, K (.ref a) m ((a, isL (vs.map er)) :: N)) : Run c er (newList vs) m N K :=
  ⟨fun h0 tk g Q E hg a k => wpAny_newObj_type (k _ _ tk g m _ hg (a.push (P := isL (vs.map er)) ⟨vs, 0, rfl, rfl⟩) (h _)) (by show vs.toArray.size ≤ sizeLine; rw [List.size_toArray, sizeLine_eq]; omega)⟩
theorem method_eq {o : Expr} {x : Str} {apos pos : PySem.Pos} {es : List Expr} {env : Env} (hb : attributeBase o x env (eval o env) = eval o env) (hs : noStar es = true) (hl : es.length < 30) (hp : (apos.endLine == pos.line) = true) :
    eval (.Call (.Attribute o x apos) es [] pos) env = (do
      let ov ← eval o env
      standAt apos.atName
      let (f, first) ← holding [ov] (getMethod ov x (do return (← importBound o env).getD true))
      callWith pos f first (backTo pos (starEach es env)) []) := by
  show (do
    let ov ← attributeBase o x env (eval o env)
    standAt apos.atName
    methodCall o x apos pos env ov (es.length + 0) (backTo pos (starEach es env)) (backToKw pos (keywordEach [] env))) = _
  have hm : methodCallForm (es.length + 0) (backTo pos (starEach es env)) (backToKw pos (keywordEach [] env)) = true := by
    rw [back_plain _ _ hs]
    unfold methodCallForm
    rw [List.all_map]
    have e2 : backToKw pos (keywordEach [] env) = [] := rfl
    rw [e2]
    have : (List.all es ((fun x : Bool × Sem Value => !x.1) ∘ fun e => (false, eval e env))) = true := List.all_eq_true.mpr fun _ _ => rfl
    rw [this]
    simp [hl]
  rw [hb]
  unfold methodCall
  rw [hm]
  unfold methodCallPos calleeOf
  simp only [hp, Bool.not_true, Bool.false_or, if_true, pure_bind]
  rfl
theorem getW_sound {F : Expr → Loc → Led → Kv → Prop} (hF : ∀ e m N K, F e m N K → Run c er (eval e env) m N K) {o : Expr} {x : Str} {apos pos : PySem.Pos} {es : List Expr} (hs : (noStar es && Nat.blt es.length 30 && apos.endLine == pos.line) = true) {m : Loc} {N : Led} {K : Kv}
    (hb : attributeBase o x env (eval o env) = eval o env)
    (h : F o m N fun o m N => Get c o x m N fun f first m N => vList F es m N fun vs m N => CalW c f (first ++ vs) m N K) : Run c er (eval (.Call (.Attribute o x apos) es [] pos) env) m N K := by
  rw [Bool.and_eq_true, Bool.and_eq_true] at hs
  have hl : es.length < 30 := Nat.le_of_ble_eq_true hs.1.2
  exact ⟨fun h0 tk g Q E hg a k => MethodCall_ ((hF _ _ _ _ h).go h0 tk g _ E hg a fun v h' tk' g' m' N' hg' a' q => (q.go v _ rfl).go h' tk' g' _ E hg' a' fun p h2 tk2 g2 m2 N2 hg2 a2 q2 =>
    (callW_sound hF hs.1.1 rfl rfl q2).go h2 tk2 g2 Q E hg2 a2 k) (method_eq hb hs.1.1 hl hs.2)⟩
theorem vSubs_sound {F : Expr → Loc → Led → Kv → Prop} (hF : ∀ e m N K, F e m N K → Run c er (eval e env) m N K) {v i : Expr} {p : PySem.Pos} {m : Loc} {N : Led} {K : Kv} (h : vSubs c F v i m N K) : Run c er (eval (.Subscript v i p) env) m N K := by
  have plain : ∀ {i : Expr}, (F v m N fun a m N => F i m N fun b m N => Sub c v i a b m N K) → Run c er (eval (.Subscript v i p) env) m N K := fun h =>
    ⟨fun h0 tk g Q E hg a k => Subscript_ ((hF _ _ _ _ h).go h0 tk g _ E hg a fun v h' tk' g' m' N' hg' a' q => (hF _ _ _ _ q).go h' tk' g' _ E hg' a' fun v2 h2 tk2 g2 m2 N2 hg2 a2 q2 => (q2.go v v2 rfl rfl).go h2 tk2 g2 Q E hg2 a2 k)⟩
  cases i with
  | Slice l u st ps =>
    have h : F v m N fun o m N => vPart F l m N fun l' m N => vPart F u m N fun u' m N => vPart F st m N fun st' m N => SubS c v (.Slice l u st ps) o l' u' st' m N K := h
    exact ⟨fun h0 tk g Q E hg a k => Subscript_ ((hF _ _ _ _ h).go h0 tk g _ E hg a fun o h' tk' g' m' N' hg' a' q => wpAny_Slice ((vPart_sound hF q).go h' tk' g' _ E hg' a' fun l h1 tk1 g1 m1 N1 hg1 a1 q1 => (vPart_sound hF q1).go h1 tk1 g1 _ E hg1 a1 fun u h2 tk2 g2 m2 N2 hg2 a2 q2 =>
        (vPart_sound hF q2).go h2 tk2 g2 _ E hg2 a2 fun st h3 tk3 g3 m3 N3 hg3 a3 q3 => q3.go o l u st h3 tk3 g3 Q E rfl rfl rfl rfl hg3 a3 k))⟩
  | _ => exact plain h
theorem vCall_sound {F : Expr → Loc → Led → Kv → Prop} (hF : ∀ e m N K, F e m N K → Run c er (eval e env) m N K) {f : Expr} {args : List Expr} {kw : List Keyword} {p : PySem.Pos} {m : Loc} {N : Led} {K : Kv} (h : vCall c env F f args kw p m N K) : Run c er (eval (.Call f args kw p) env) m N K := by
  cases kw with
  | cons k kw => exact h
  | nil =>
    cases f with
    | Attribute o x px =>
      cases o with
      | Name y py =>
        have h : vMeth c F (.Name y py) x px args p m N K := h
        exact getW_sound hF h.1 rfl h.2
      | Constant y ky py =>
        have h : vMeth c F (.Constant y ky py) x px args p m N K := h
        exact getW_sound hF h.1 rfl h.2
      | _ => exact h
    | Name x px =>
      have h : vFun c F (.Name x px) args m N K := h
      exact ⟨fun h0 tk g Q E hg a k => Call_ ((hF _ _ _ _ h.2).go h0 tk g _ E hg a fun v h' tk' g' m' N' hg' a' q => (callW_sound hF (first := []) h.1 rfl rfl q).go h' tk' g' Q E hg' a' k) rfl⟩
    | _ => exact h
theorem vG_sound {V : Str → Loc → Led → Kv → Prop} (hV : ∀ x p m N K, V x m N K → Run c er (eval (.Name x p) env) m N K) : ∀ (n : Nat) (e : Expr) (m : Loc) (N : Led) (K : Kv), vG c env V n e m N K → Run c er (eval e env) m N K
  | 0, _, _, _, _, h => h.elim
  | n + 1, e, m, N, K, h => by
    have ih := vG_sound hV n
    cases e with
    | Name x p => exact hV _ _ _ _ _ h
    | Constant k _ _ =>
      cases k with
      | int i => exact ⟨fun h0 tk g Q E hg a k => wpAny_Constant_int (k _ _ _ g m N hg a h)⟩
      | str x => exact ⟨fun h0 tk g Q E hg a k => Constant_str (k _ _ _ g m N hg a h)⟩
      | bool b => exact ⟨fun h0 tk g Q E hg a k => Constant_bool (k _ _ _ g m N hg a h)⟩
      | none => exact ⟨fun h0 tk g Q E hg a k => Constant_none (k _ _ _ g m N hg a h)⟩
      | _ => exact False.elim h
    | BinOp l op r _ =>
      have h : vG c env V n l m N fun a m N => vG c env V n r m N fun b m N => Bin c op a b m N K := h
      exact ⟨fun h0 tk g Q E hg a k => wpAny_BinOp ((ih _ _ _ _ h).go h0 tk g _ E hg a fun v h' tk' g' m' N' hg' a' q => (ih _ _ _ _ q).go h' tk' g' _ E hg' a' fun v2 h2 tk2 g2 m2 N2 hg2 a2 q2 => (q2.go v v2 rfl rfl).go h2 tk2 g2 Q E hg2 a2 k)⟩
    | UnaryOp op x _ =>
      have h : vG c env V n x m N fun a m N => Unr c op a m N K := h
      exact ⟨fun h0 tk g Q E hg a k => UnaryOp_ ((ih _ _ _ _ h).go h0 tk g _ E hg a fun v h' tk' g' m' N' hg' a' q => (q.go v rfl).go h' tk' g' Q E hg' a' k)⟩
    | Compare l ops rs p =>
      match ops, rs, h with
      | [op], [r], h =>
        have h : behindInMarks op r = false ∧ vG c env V n l m N fun a m N => vG c env V n r m N fun b m N => Cmp c op a b m N K := h
        exact ⟨fun h0 tk g Q E hg a k => wpAny_Compare1 ((ih _ _ _ _ h.2).go h0 tk g _ E hg a fun v h' tk' g' m' N' hg' a' q => (ih _ _ _ _ q).go h' tk' g' _ E hg' a' fun v2 h2 tk2 g2 m2 N2 hg2 a2 q2 => (q2.go v v2 rfl rfl).go h2 tk2 g2 Q E hg2 a2 k) h.1⟩
      | [], _, h => exact h
      | _ :: _ :: _, _, h => exact h
      | [_], [], h => exact h
      | [_], _ :: _ :: _, h => exact h
    | IfExp t b o _ =>
      have h : vTest c env (vG c env V n) t m N fun z m N => (z = true → vG c env V n b m N K) ∧ (z = false → vG c env V n o m N K) := h
      refine ⟨fun h0 tk g Q E hg a k => IfExp_ ((vTest_sound ih h).go h0 tk g _ E hg a fun z h' tk' g' m' N' hg' a' q => ?_)⟩
      cases z
      · exact (ih _ _ _ _ (q.2 rfl)).go h' tk' g' Q E hg' a' k
      · exact (ih _ _ _ _ (q.1 rfl)).go h' tk' g' Q E hg' a' k
    | Tuple es _ _ =>
      have h : noStar es = true ∧ vList (vG c env V n) es m N fun vs m N => Nat.ble vs.length 1000 = true ∧ ∀ a, K (.ref a) m ((a, isT vs) :: N) := h
      exact ⟨fun h0 tk g Q E hg a k => Tuple_ (by
        rw [back_plain _ _ h.1]
        exact (vList_sound ih _ _ _ _ h.2).go h0 tk g _ E hg a fun vs h' tk' g' m' N' hg' a' q => (tup_new (by have := Nat.le_of_ble_eq_true q.1; rwa [List.length_map] at this) q.2).go h' tk' g' Q E hg' a' k)⟩
    | List es _ =>
      have h : noStar es = true ∧ vList (vG c env V n) es m N fun vs m N => Nat.ble vs.length 1000 = true ∧ ∀ a, K (.ref a) m ((a, isL vs) :: N) := h
      exact ⟨fun h0 tk g Q E hg a k => List_ (by
        rw [back_plain _ _ h.1]
        exact (vList_sound ih _ _ _ _ h.2).go h0 tk g _ E hg a fun vs h' tk' g' m' N' hg' a' q => (list_new (by have := Nat.le_of_ble_eq_true q.1; rwa [List.length_map] at this) q.2).go h' tk' g' Q E hg' a' k)⟩
    | Subscript v i p => exact vSubs_sound ih h
    | Call f args kw p => exact vCall_sound ih h
    | _ => exact h
theorem vE_sound (G : Good c) {ns : List (Str × NameKind)} {cl : List (Str × Addr)} (hns : c.cs.names = ns) (hcl : c.cl = cl) (hp : plainNames ns = true) (n : Nat) (e : Expr) (m : Loc) (N : Led) (K : Kv) (h : vE c ns cl n e m N K) : Run c er (eval e c.env) m N K :=
  vG_sound (fun x p m N K h => by
    obtain ⟨k, hk⟩ := vName_some h
    exact vName_sound G hns hcl h (plain_of hp hk).1 (plain_of hp hk).2) n e m N K h
end
end Mine
end
section
open PySem PySem.W PyProof.Rows PySem.Calls
set_option maxRecDepth 100000
namespace Mine
abbrev Kf := Flow → Loc → Led → Prop
def notComp : Expr → Bool
  | .ListComp .. | .SetComp .. | .DictComp .. => false
  | _ => true
theorem swaps_none {e : Expr} (h : notComp e = true) (t : Option Expr) (l : Nat) (env : Env) : swapsWith e t l env = pure false := by
  cases e <;> first | rfl | exact absurd h Bool.false_ne_true
structure Ipl (c : Cx) (op : Operator) (a b : Value) (m : Loc) (N : Led) (K : Kv) : Prop where
  go : ∀ a' b', er a' = a → er b' = b → Run c er (inplaceOp op a' b') m N K
def vSto (ns : List (Str × NameKind)) (cl : List (Str × Addr)) (x : Str) (v : Value) (m : Loc) (N : Led) (K : Loc → Led → Prop) : Prop := match ns.lookup x with
  | some .local => K ((x, v) :: m) N
  | some .cell => match cl.lookup x with
    | some a => ∃ v₀ g, Pos a (isCell v₀) N g ∧ K m (g (isCell (some v)))
    | none => False
  | _ => False
def starred : Expr → Bool
  | .Starred .. => true
  | _ => false
def swapP (ns : List (Str × NameKind)) (ts : List Expr) (v : Expr) : Option (Option (List Str)) := match v with
  | .Tuple vs _ _ =>
    if (!(ts.length == 2 || ts.length == 3) || vs.length != ts.length) = true then some none
    else if vs.any starred = true then some none
    else
      let line := (ts.head?.map (·.pos.line)).getD 0
      let names := ts.filterMap fun e => match e with
        | .Name id pos => if (ns.lookup id == some .local && pos.line == line) = true then some id else none
        | _ => none
      if (names.length != ts.length || names.eraseDups.length != names.length) = true then some none
      else if vs.all (foldedForSure 8) = true then some none
      else if vs.all (constantsAlone 8) = true then none
      else some (some names)
  | _ => some none
def vStoAll (ns : List (Str × NameKind)) (cl : List (Str × Addr)) : List Str → List Value → Loc → Led → (Loc → Led → Prop) → Prop
  | [], [], m, N, K => K m N
  | x :: xs, v :: vs, m, N, K => vSto ns cl x v m N fun m N => vStoAll ns cl xs vs m N K
  | _, _, _, _, _ => False
def namesOf : List Expr → Option (List Str)
  | [] => some []
  | .Name x _ :: r => (namesOf r).map (x :: ·)
  | _ => none
def vTup (ns : List (Str × NameKind)) (cl : List (Str × Addr)) (F : Expr → Loc → Led → Kv → Prop) (ts : List Expr) (v : Expr) (m : Loc) (N : Led) (K : Loc → Led → Prop) : Prop := match swapP ns ts v with
  | some none => F v m N fun a m N => ∃ t vs xs, a = .ref t ∧ (t, isT vs) ∈ N ∧ namesOf ts = some xs ∧ xs.length = vs.length ∧ vStoAll ns cl xs vs m N K
  | some (some xs) => F v m N fun a m N => ∃ t vs, a = .ref t ∧ (t, isT vs) ∈ N ∧ xs.length = vs.length ∧ vStoAll ns cl xs.reverse vs.reverse m N K
  | none => False
structure ForI (c : Cx) (t : Expr) (body : List Stmt) (x : Value) (m : Loc) (N : Led) (K : Kf) : Prop where
  go : ∀ (x' : Value) (h : Heap) (tk : Tok) (g : Array GenState) (Q : Flow → Shared → Prop) (E : Value → Shared → Prop), er x' = x → AllBare g → At c h m N →
    (∀ f h' tk' g' m' N', AllBare g' → At c h' m' N' → K (erF f) m' N' → Q f (c.st h' tk' g')) →
    wpAny c.M c.A (pyIter x') (fun it s₂ => codeAny c.M c.A (.forLoop t it body [] c.env) (fun r s' => match r with | .ok f => Q f s' | .error e => cameBackBy c.M c.A c.env E e s') s₂) E (c.st h tk g)
def notSet : Expr → Bool
  | .Set .. => false
  | _ => true
def vAsgS (c : Cx) (F : Expr → Loc → Led → Kv → Prop) (o i : Expr) (p : PySem.Pos) (v : Expr) (p2 : PySem.Pos) (m : Loc) (N : Led) (K : Kf) : Prop := match isSlice i with
  | true => Run c erF (exec (.Assign [.Subscript o i p] v p2) c.env) m N K
  | false => notComp v = true ∧ F v m N fun a m N => F o m N fun b m N => F i m N fun j m N => SetI c b j a m N (K .next)
def vAsg1 (c : Cx) (ns : List (Str × NameKind)) (cl : List (Str × Addr)) (F : Expr → Loc → Led → Kv → Prop) (t v : Expr) (p2 : PySem.Pos) (m : Loc) (N : Led) (K : Kf) : Prop := match t with
  | .Name x _ => notComp v = true ∧ F v m N fun a m N => vSto ns cl x a m N (K .next)
  | .Subscript o i p => vAsgS c F o i p v p2 m N K
  | .Tuple ts _ _ => notComp v = true ∧ vTup ns cl F ts v m N (K .next)
  | t => Run c erF (exec (.Assign [t] v p2) c.env) m N K
def vAsg (c : Cx) (ns : List (Str × NameKind)) (cl : List (Str × Addr)) (F : Expr → Loc → Led → Kv → Prop) (ts : List Expr) (v : Expr) (p2 : PySem.Pos) (m : Loc) (N : Led) (K : Kf) : Prop := match one ts with
  | some t => vAsg1 c ns cl F t v p2 m N K
  | none => Run c erF (exec (.Assign ts v p2) c.env) m N K
def vAug (c : Cx) (ns : List (Str × NameKind)) (F : Expr → Loc → Led → Kv → Prop) (t : Expr) (op : Operator) (v : Expr) (m : Loc) (N : Led) (K : Kf) : Prop := match t with
  | .Name x _ => match ns.lookup x with
    | some .local => match m.lookup x with
      | some a => F v m N fun b m N => Ipl c op a b m N fun r m N => K .next ((x, r) :: m) N
      | none => False
    | _ => False
  | _ => False
def vS1 (c : Cx) (ns : List (Str × NameKind)) (cl : List (Str × Addr)) (F : Expr → Loc → Led → Kv → Prop) (st : Stmt) (m : Loc) (N : Led) (K : Kf) : Prop := match st with
  | .Assign ts v p => vAsg c ns cl F ts v p m N K
  | .AugAssign t op v _ => vAug c ns F t op v m N K
  | .Return e _ => match e with
    | some e => F e m N fun v m N => K (.ret v) m N
    | none => K (.ret .none) m N
  | .If t b o _ => vTest c c.env F t m N fun z m N => (z = true → Run c erF (execs b c.env) m N K) ∧ (z = false → Run c erF (execs o c.env) m N K)
  | .Expr e _ => notComp e = true ∧ F e m N fun _ m N => K .next m N
  | .For t it body els p => match els with
    | [] => notSet it = true ∧ F it m N fun x m N => ForI c t body x m N K
    | els => Run c erF (exec (.For t it body els p) c.env) m N K
  | .Assert t msg p => match msg with
    | none => vTest c c.env F t m N fun z m N => z = true ∧ K .next m N
    | some e => Run c erF (exec (.Assert t (some e) p) c.env) m N K
  | s => Run c erF (exec s c.env) m N K
structure Fn (c : Cx) (ns : List (Str × NameKind)) (cl : List (Str × Addr)) : Prop where
  G : Good c
  ns_ : c.cs.names = ns
  cl_ : c.cl = cl
  plain : plainNames ns = true
section
variable {c : Cx}
theorem vSto_sound (G : Good c) {ns : List (Str × NameKind)} {cl : List (Str × Addr)} (hns : c.cs.names = ns) (hcl : c.cl = cl) {x : Str} {v : Value} {m : Loc} {N : Led} {K : Loc → Led → Prop} (h : vSto ns cl x (er v) m N K) : Run c id (storeName c.env x v) m N (fun _ => K) := by
  subst hns hcl
  refine ⟨fun h0 tk g Q E hg a k => ?_⟩
  obtain ⟨μ, C, F, l, Nw, d, nd⟩ := a.ex
  unfold vSto at h
  split at h
  · rename_i e
    refine storeX_L (s := c.st h0 tk g) F Nw (fun h' F' N' => k () h' _ g _ N hg ⟨_, C, F', fun y => ?_, N', d, nd⟩ h) G.k e
    rw [List.lookup_cons]
    by_cases q : y = x
    · rw [if_pos q, beq_iff_eq.mpr q]; rfl
    · rw [if_neg q, beq_eq_false_iff_ne.mpr q]; exact l y
  · rename_i e
    split at h
    · rename_i b e2
      obtain ⟨v₀, gg, x9, h⟩ := h
      obtain ⟨pre, post, rfl, eg⟩ := x9.split
      obtain ⟨cp, o, cq, rfl, ⟨u, hu1, hu2⟩, kd⟩ := d.at
      have up : UpdF b o (cp ++ (b, o) :: cq) (fun o' => cp ++ (b, o') :: cq) := by
        have ne : ∀ p ∈ cp ++ cq, p.1 ≠ b := by
          intro p hp q
          rw [List.map_append, List.map_cons] at nd
          rcases List.mem_append.mp hp with hp | hp
          · exact (List.nodup_append.mp nd).2.2 p.1 (List.mem_map_of_mem (f := (·.1)) hp) b (.head _) q
          · have m1 := List.mem_map_of_mem (f := (·.1)) hp
            rw [q] at m1
            exact (List.nodup_cons.mp (List.nodup_append.mp nd).2.1).1 m1
        exact updF_at (fun p hp => ne p (List.mem_append_left _ hp)) (fun p hp => ne p (List.mem_append_right _ hp))
      refine storeX_C (s := c.st h0 tk g) F Nw e2 up hu1 (fun h' o' F' N' e3 => k () h' tk g m _ hg ⟨μ, _, F', l, N', ?_, ?_⟩ h) G.k e
      · rw [eg]; exact kd ⟨_, e3, rfl⟩
      · simpa only [List.map_append, List.map_cons] using nd
    · exact h.elim
  · exact h.elim
where
  updF_at {d : Addr} {o : Obj} : ∀ {pre post : List (Addr × Obj)}, (∀ p ∈ pre, p.1 ≠ d) → (∀ p ∈ post, p.1 ≠ d) → UpdF d o (pre ++ (d, o) :: post) (fun o' => pre ++ (d, o') :: post)
    | [], _, _, hp => .head hp
    | _ :: _, _, h, hp => .tail (h _ (.head _)) (updF_at (fun q hq => h q (.tail _ hq)) hp)
theorem swapP_eq (G : Good c) {ts : List Expr} {k : Nat} {tp : PySem.Pos} {v : Expr} {r : Option (List Str)} (h : swapP c.cs.names ts v = some r) : swappedStores [.Tuple ts k tp] v c.env = pure r := by
  have hb : c.env.blockKind = .function := by unfold Env.blockKind; rw [show c.env.scope.kind = .function from G.k]; rfl
  unfold swappedStores
  cases v with
  | Tuple vs k2 p2 =>
    unfold swapP at h
    dsimp only at h ⊢
    simp only [hb, bne_self_eq_false, Bool.or_false]
    have es : (vs.any fun x => match x with | .Starred .. => true | _ => false) = vs.any starred := by
      congr 1
    split at h
    · rename_i e; cases h; rw [if_pos e]
    · rename_i e
      rw [if_neg e]
      split at h
      · rename_i e2; cases h
        rw [← es] at e2
        exact if_pos e2
      · rename_i e2
        rw [← es] at e2
        refine (if_neg e2).trans ?_
        split at h
        · rename_i e3; cases h; exact if_pos e3
        · rename_i e3
          refine (if_neg e3).trans ?_
          split at h
          · rename_i e4; cases h; exact if_pos e4
          · rename_i e4
            refine (if_neg e4).trans ?_
            split at h
            · cases h
            · rename_i e5; cases h; exact if_neg e5
  | _ => cases h; rfl
theorem vStoAll_sound (G : Good c) {ns : List (Str × NameKind)} {cl : List (Str × Addr)} (hns : c.cs.names = ns) (hcl : c.cl = cl) : ∀ (xs : List Str) (ts : List (Value → Sem Unit)) (vs : List Value) (m : Loc) (N : Led) (K : Loc → Led → Prop),
    (∀ (i : Nat) x, xs[i]? = some x → ∃ t, ts[i]? = some t ∧ ∀ v m N K, vSto ns cl x (er v) m N K → Run c id (t v) m N (fun _ => K)) → ts.length = xs.length → vStoAll ns cl xs (vs.map er) m N K → Run c id (assignInOrder ts vs) m N (fun _ => K)
  | [], [], vs, m, N, K, _, _, h => by
    cases vs with
    | nil => exact ⟨fun h0 tk g Q E hg a k => assignInOrder_nil (k () h0 tk g m N hg a h)⟩
    | cons v vs => exact h.elim
  | [], _ :: _, _, _, _, _, _, e, _ => by cases e
  | _ :: _, [], _, _, _, _, _, e, _ => by cases e
  | x :: xs, t :: ts, [], m, N, K, _, _, h => h.elim
  | x :: xs, t :: ts, v :: vs, m, N, K, ht, e, h => by
    obtain ⟨t', e1, h1⟩ := ht 0 x rfl
    cases e1
    exact ⟨fun h0 tk g Q E hg a k => assignInOrder_cons ((h1 v _ _ _ h).go h0 tk g _ E hg a fun _ h' tk' g' m' N' hg' a' q =>
      (vStoAll_sound G hns hcl xs ts vs m' N' K (fun i x hx => ht (i + 1) x hx) (Nat.succ.inj e) q).go h' tk' g' Q E hg' a' k)⟩
theorem namesOf_ok {env : Env} : ∀ {ts : List Expr} {xs : List Str}, namesOf ts = some xs → (assignEach ts env).length = xs.length ∧ (assignEach ts env).findIdx? (·.1) = none ∧ ∀ (i : Nat) x, xs[i]? = some x → ∃ p, ((assignEach ts env).map (·.2))[i]? = some (fun v => assign (.Name x p) env v)
  | [], xs, h => by
    cases h
    exact ⟨rfl, rfl, fun i x e => by simp at e⟩
  | e :: ts, xs, h => by
    cases e with
    | Name y p =>
      unfold namesOf at h
      obtain ⟨xs', h1, rfl⟩ := Option.map_eq_some_iff.mp h
      obtain ⟨a1, a2, a3⟩ := namesOf_ok (env := env) h1
      refine ⟨congrArg (· + 1) a1, ?_, fun i x e => ?_⟩
      · show (List.findIdx? (·.1) ((false, fun v => assign (.Name y p) env v) :: assignEach ts env)) = none
        rw [List.findIdx?_cons, if_neg Bool.false_ne_true, a2]; rfl
      · cases i with
        | zero => cases e; exact ⟨p, rfl⟩
        | succ i => exact a3 i x e
    | _ => cases h
theorem sto_name (G : Good c) {ns : List (Str × NameKind)} {cl : List (Str × Addr)} (hns : c.cs.names = ns) (hcl : c.cl = cl) {x : Str} {p : PySem.Pos} {v : Value} {m : Loc} {N : Led} {K : Loc → Led → Prop} (h : vSto ns cl x (er v) m N K) : Run c id (assign (.Name x p) c.env v) m N (fun _ => K) :=
  ⟨fun h0 tk g Q E hg a k => PyProof.Rows.assign_Name ((vSto_sound G hns hcl h).go h0 tk g Q E hg a k)⟩
theorem sto_bind (G : Good c) {ns : List (Str × NameKind)} {cl : List (Str × Addr)} (hns : c.cs.names = ns) (hcl : c.cl = cl) {x : Str} {v : Value} {m : Loc} {N : Led} {K : Loc → Led → Prop} (h : vSto ns cl x (er v) m N K) : Run c id (bindName c.env x v) m N (fun _ => K) :=
  ⟨fun h0 tk g Q E hg a k => bindName_ ((vSto_sound G hns hcl h).go h0 tk g Q E hg a k)⟩
theorem asg_names (G : Good c) {ns : List (Str × NameKind)} {cl : List (Str × Addr)} (hns : c.cs.names = ns) (hcl : c.cl = cl) {ts : List Expr} {k : Nat} {p : PySem.Pos} {t : Addr} {vs : List Value} {xs : List Str} {m : Loc} {N : Led} {K : Loc → Led → Prop}
    (ht : (t, isT vs) ∈ N) (hx : namesOf ts = some xs) (hl : xs.length = vs.length) (h : vStoAll ns cl xs vs m N K) : Run c id (assign (.Tuple ts k p) c.env (.ref t)) m N (fun _ => K) := by
  refine ⟨fun h0 tk g Q E hg a k => ?_⟩
  obtain ⟨μ, C, F, l, Nw, d, nd⟩ := a.ex
  obtain ⟨o, mo, us, ep, rfl, rfl⟩ := d.mem ht
  obtain ⟨a1, a2, a3⟩ := namesOf_ok (env := c.env) hx
  refine unpackN_ (s := c.st h0 tk g) F Nw ⟨_, (Nw _ mo).1, rfl, ep, rfl⟩ rfl (by rw [a1, hl, List.length_map, List.size_toArray]) a2 fun h' F' N' => ?_
  refine (vStoAll_sound G hns hcl xs _ us m N K (fun i x e => ?_) (by rw [List.length_map, a1]) h).go h' tk g Q E hg ⟨μ, C, F', l, N', d, nd⟩ k
  obtain ⟨p, e2⟩ := a3 i x e
  exact ⟨_, e2, fun v m N K q => sto_name G hns hcl q⟩
theorem vTup_sound (G : Good c) {ns : List (Str × NameKind)} {cl : List (Str × Addr)} (hns : c.cs.names = ns) (hcl : c.cl = cl) {F : Expr → Loc → Led → Kv → Prop} (hF : ∀ e m N K, F e m N K → Run c er (eval e c.env) m N K)
    {ts : List Expr} {k1 : Nat} {tp pos : PySem.Pos} {v : Expr} {m : Loc} {N : Led} {K : Kf} (hc : notComp v = true) (h : vTup ns cl F ts v m N (K .next)) : Run c erF (exec (.Assign [.Tuple ts k1 tp] v pos) c.env) m N K := by
  unfold vTup at h
  split at h
  · rename_i e
    refine ⟨fun h0 tk g Q E hg a k => Assign_Tuple ((hF _ _ _ _ h).go h0 tk g _ E hg a fun v h' tk' g' m' N' hg' a' q => ?_) (show swapsWithSole [.Tuple ts k1 tp] v pos.line c.env = pure false from swaps_none hc (some (.Tuple ts k1 tp)) pos.line c.env) (swapP_eq G (hns ▸ e))⟩
    obtain ⟨t, vs, xs, e1, e2, e3, e4, q⟩ := q
    rw [er_ref e1]
    exact (asg_names G hns hcl e2 e3 e4 q).go h' tk' g' _ E hg' a' fun _ h2 tk2 g2 m2 N2 hg2 a2 q2 => k .next h2 tk2 g2 m2 N2 hg2 a2 q2
  · rename_i xs e
    refine ⟨fun h0 tk g Q E hg a k => Assign_Tuple_swapped ((hF _ _ _ _ h).go h0 tk g _ E hg a fun v h' tk' g' m' N' hg' a' q => ?_) (show swapsWithSole [.Tuple ts k1 tp] v pos.line c.env = pure false from swaps_none hc (some (.Tuple ts k1 tp)) pos.line c.env) (swapP_eq G (hns ▸ e))⟩
    obtain ⟨t, vs, e1, e2, e4, q⟩ := q
    rw [er_ref e1]
    obtain ⟨μ, C, Fr0, l, Nw, d, nd⟩ := a'.ex
    obtain ⟨o, mo, us, ep, rfl, rfl⟩ := d.mem e2
    refine unpackItemsN_ (s := c.st h' tk' g') Fr0 Nw ⟨_, (Nw _ mo).1, rfl, ep, rfl⟩ rfl (by rw [e4, List.length_map, List.size_toArray]) fun h2 F2 N2 => ?_
    have hr : us.toArray.toList.reverse.map er = (us.map er).reverse := by simp
    refine (vStoAll_sound G hns hcl xs.reverse _ us.toArray.toList.reverse m' N' (K .next) (fun i x e => ?_) (by simp) (by rw [hr]; exact q)).go h2 tk' g' _ E hg' ⟨μ, C, F2, l, N2, d, nd⟩ fun _ h3 tk3 g3 m3 N3 hg3 a3 q3 => k .next h3 tk3 g3 m3 N3 hg3 a3 q3
    rw [List.getElem?_map, e]
    exact ⟨_, rfl, fun v m N K q => sto_bind G hns hcl q⟩
  · exact h.elim
theorem notSet_eq {e : Expr} {env : Env} (h : notSet e = true) (x : Value) : foldedSetIterable e env x = Pure.pure x := by
  cases e <;> first | rfl | exact absurd h Bool.false_ne_true
theorem vAsg_sound (G : Good c) {ns : List (Str × NameKind)} {cl : List (Str × Addr)} (hns : c.cs.names = ns) (hcl : c.cl = cl) {F : Expr → Loc → Led → Kv → Prop} (hF : ∀ e m N K, F e m N K → Run c er (eval e c.env) m N K)
    {ts : List Expr} {v : Expr} {p2 : PySem.Pos} {m : Loc} {N : Led} {K : Kf} (h : vAsg c ns cl F ts v p2 m N K) : Run c erF (exec (.Assign ts v p2) c.env) m N K := by
  match ts, h with
  | [], h => exact h
  | _ :: _ :: _, h => exact h
  | [t], h =>
    cases t with
    | Name x p =>
      have h : notComp v = true ∧ F v m N fun a m N => vSto ns cl x a m N (K .next) := h
      exact ⟨fun h0 tk g Q E hg a k => wpAny_Assign_Name ((hF _ _ _ _ h.2).go h0 tk g _ E hg a fun v h' tk' g' m' N' hg' a' q => (vSto_sound G hns hcl q).go h' tk' g' _ E hg' a' fun _ h2 tk2 g2 m2 N2 hg2 a2 q2 => k .next h2 tk2 g2 m2 N2 hg2 a2 q2) (swaps_none h.1 _ _ _)⟩
    | Subscript o i p =>
      have h : vAsgS c F o i p v p2 m N K := h
      unfold vAsgS at h
      cases e : isSlice i with
      | true => rw [e] at h; exact h
      | false =>
        rw [e] at h
        have h : notComp v = true ∧ F v m N fun a m N => F o m N fun b m N => F i m N fun j m N => SetI c b j a m N (K .next) := h
        exact ⟨fun h0 tk g Q E hg a k => wpAny_Assign_Subscript ((hF _ _ _ _ h.2).go h0 tk g _ E hg a fun v h' tk' g' m' N' hg' a' q => (hF _ _ _ _ q).go h' tk' g' _ E hg' a' fun v1 h1 tk1 g1 m1 N1 hg1 a1 q1 => (hF _ _ _ _ q1).go h1 tk1 g1 _ E hg1 a1 fun v2 h2 tk2 g2 m2 N2 hg2 a2 q2 =>
          (q2.go v1 v2 v rfl rfl rfl).go h2 tk2 g2 _ E hg2 a2 fun _ h3 tk3 g3 m3 N3 hg3 a3 q3 => k .next h3 tk3 g3 m3 N3 hg3 a3 q3) (swaps_none h.1 _ _ _)⟩
    | Tuple ts k p =>
      have h : notComp v = true ∧ vTup ns cl F ts v m N (K .next) := h
      exact vTup_sound G hns hcl hF h.1 h.2
    | _ => exact h
theorem vS1_sound (G : Good c) {ns : List (Str × NameKind)} {cl : List (Str × Addr)} (hns : c.cs.names = ns) (hcl : c.cl = cl) {F : Expr → Loc → Led → Kv → Prop} (hF : ∀ e m N K, F e m N K → Run c er (eval e c.env) m N K)
    {st : Stmt} {m : Loc} {N : Led} {K : Kf} (h : vS1 c ns cl F st m N K) : Run c erF (exec st c.env) m N K := by
  cases st with
  | Assign ts v p => exact vAsg_sound G hns hcl hF h
  | AugAssign t op v p =>
    cases t with
    | Name x px =>
      have hh : (match ns.lookup x with
        | some .local => match m.lookup x with
          | some a => F v m N fun b m N => Ipl c op a b m N fun r m N => K .next ((x, r) :: m) N
          | none => False
        | _ => False) := h
      cases e1 : ns.lookup x with
      | none => rw [e1] at hh; exact hh.elim
      | some kd =>
        rw [e1] at hh
        cases kd with
        | «local» =>
          cases e2 : m.lookup x with
          | none => rw [e2] at hh; exact hh.elim
          | some a0 =>
            rw [e2] at hh
            clear h
            subst hns
            refine ⟨fun h0 tk g Q E hg a k => ?_⟩
            obtain ⟨μ, C, Fr0, l, r⟩ := a.ex
            obtain ⟨v', e3, e4⟩ := look_local l e2
            refine wpAny_AugAssign_Name (wpAny_loadName_local G.k e1 Fr0.ns e3 ((hF _ _ _ _ hh).go h0 tk g _ E hg ⟨μ, C, Fr0, l, r⟩ fun v h' tk' g' m' N' hg' a' q => (q.go v' v e4 rfl).go h' tk' g' _ E hg' a' fun v2 h2 tk2 g2 m2 N2 hg2 a2 q2 => ?_))
            exact (vSto_sound (v := v2) (x := _) G rfl hcl (K := fun m N => K .next m N) (by unfold vSto; rw [e1]; exact q2)).go h2 tk2 g2 _ E hg2 a2 fun _ h3 tk3 g3 m3 N3 hg3 a3 q3 => k .next h3 tk3 g3 m3 N3 hg3 a3 q3
        | _ => exact False.elim hh
    | _ => exact False.elim h
  | Return e p =>
    cases e with
    | some e =>
      have h : F e m N fun v m N => K (.ret v) m N := h
      exact ⟨fun h0 tk g Q E hg a k => wpAny_Return_some ((hF _ _ _ _ h).go h0 tk g _ E hg a fun v h' tk' g' m' N' hg' a' q => k (.ret v) h' tk' g' m' N' hg' a' q)⟩
    | none => exact ⟨fun h0 tk g Q E hg a k => wpAny_Return_none (k (.ret .none) h0 tk g m N hg a h)⟩
  | If t b o p =>
    have h : vTest c c.env F t m N fun z m N => (z = true → Run c erF (execs b c.env) m N K) ∧ (z = false → Run c erF (execs o c.env) m N K) := h
    refine ⟨fun h0 tk g Q E hg a k => wpAny_If ((vTest_sound hF h).go h0 tk g _ E hg a fun z h' tk' g' m' N' hg' a' q => ?_)⟩
    cases z
    · exact (q.2 rfl).go h' tk' g' Q E hg' a' k
    · exact (q.1 rfl).go h' tk' g' Q E hg' a' k
  | Expr e p =>
    have h : notComp e = true ∧ F e m N fun _ m N => K .next m N := h
    exact ⟨fun h0 tk g Q E hg a k => wpAny_Expr_any ((hF _ _ _ _ h.2).go h0 tk g _ E hg a fun v h' tk' g' m' N' hg' a' q => k .next h' tk' g' m' N' hg' a' q)
      (by unfold interactive; rw [show c.env.scope.kind = .function from G.k]; rfl) (swaps_none h.1 _ _ _)⟩
  | For t it body els p =>
    cases els with
    | nil =>
      have h : notSet it = true ∧ F it m N fun x m N => ForI c t body x m N K := h
      exact ⟨fun h0 tk g Q E hg a k => wpAny_For ((hF _ _ _ _ h.2).go h0 tk g _ E hg a fun x h' tk' g' m' N' hg' a' q => q.go x h' tk' g' Q E rfl hg' a' k) (fun x => notSet_eq h.1 x)⟩
    | cons e els => exact h
  | Assert t msg p =>
    cases msg with
    | none =>
      have h : vTest c c.env F t m N fun z m N => z = true ∧ K .next m N := h
      exact ⟨fun h0 tk g Q E hg a k => wpAny_Assert_holds ((vTest_sound hF h).go h0 tk g _ E hg a fun z h' tk' g' m' N' hg' a' q => ⟨q.1, k .next h' tk' g' m' N' hg' a' q.2⟩)⟩
    | some e => exact h
  | _ => exact h
theorem run_step {ns : List (Str × NameKind)} {cl : List (Str × Addr)} (Fc : Fn c ns cl) (n : Nat) {st : Stmt} {rest : List Stmt} {m : Loc} {N : Led} {K : Kf}
    (h : vS1 c ns cl (vE c ns cl n) st m N fun f m N => match f with
      | .next => Run c erF (execs rest c.env) m N K
      | f => K f m N) : Run c erF (execs (st :: rest) c.env) m N K := by
  refine ⟨fun h0 tk g Q E hg a k => wpAny_execs_cons ((vS1_sound Fc.G Fc.ns_ Fc.cl_ (vE_sound Fc.G Fc.ns_ Fc.cl_ Fc.plain n) h).go h0 tk g _ E hg a fun f h' tk' g' m' N' hg' a' q => ?_)⟩
  cases f with
  | next => exact q.go h' tk' g' Q E hg' a' k
  | ret v => exact k _ h' tk' g' m' N' hg' a' q
  | brk => exact k _ h' tk' g' m' N' hg' a' q
  | cont => exact k _ h' tk' g' m' N' hg' a' q
theorem run_nil {m : Loc} {N : Led} {K : Kf} (h : K .next m N) : Run c erF (execs [] c.env) m N K := ⟨fun h0 tk g Q E hg a k => wpAny_execs_nil (k .next h0 tk g m N hg a h)⟩
end
end Mine
end
section
open PySem PySem.W PyProof.Rows PySem.Calls
set_option maxRecDepth 100000
namespace Mine
def fv : Flow → Value
  | .ret v => v
  | _ => .none
def Ctr (w : World) (dp un : Nat) (f : Value) (args : List Value) (N : Led) (Out : Value → Led → Prop) : Prop :=
  ∀ (c : Cx) (m : Loc), Good c → c.w = w → c.dp ≤ dp → c.un ≤ un → CalW c f args m N (fun v m' N' => m' = m ∧ Out v N')
section
variable {c : Cx}
theorem calW_mono {f : Value} {args : List Value} {m : Loc} {N : Led} {K K' : Kv} (H : CalW c f args m N K) (h : ∀ v m N, K v m N → K' v m N) : CalW c f args m N K' :=
  ⟨H.1, fun f' a' e1 e2 => (H.2 f' a' e1 e2).mono h⟩
theorem CalW.pick {f : Value} {args : List Value} {m : Loc} {N N' : Led} {K : Kv} (p : Pk N N') (H : CalW c f args m N' K) : CalW c f args m N K := ⟨fun f' h m e a => H.kep f' h m e (a.pick p), fun f' as e1 e2 => (H.go f' as e1 e2).pick p⟩
theorem Ctr.use {w : World} {dp un : Nat} {f : Value} {args : List Value} {m : Loc} {N : Led} {Out : Value → Led → Prop} {K : Kv} (H : Ctr w dp un f args N Out) (G : Good c) (hw : c.w = w) (hd : c.dp ≤ dp) (hu : c.un ≤ un) (h : ∀ v N', Out v N' → K v m N') : CalW c f args m N K :=
  calW_mono (H c m G hw hd hu) fun v m' N' ⟨e, o⟩ => by rw [e]; exact h v N' o
theorem kep_K (G : Good c) {f : Value} {N : Led} (hf : ∀ v, er v = f → v = f) (hk : keepIn (HP c) f = true) : Kep c f N := fun f' h m e a => by
  obtain ⟨μ, C, F, r⟩ := a.ex
  rw [hf f' e]
  exact keeps_K hk h (G.X.keeps F.keep)
theorem kep_builtin {x : String} {N : Led} : Kep c (.builtin x) N := fun f' h m e a => by
  rw [er_builtin e]
  exact ⟨.machine, .inr (.inl rfl), .now⟩
theorem kep_type {x : String} {N : Led} : Kep c (.type x) N := fun f' h m e a => by
  rw [er_type e]
  exact ⟨.machine, .inr (.inl rfl), .now⟩
theorem lookup_er (bs : List (Str × Value)) (x : Str) : (bs.lookup x).map er = (bs.map fun y => (y.1, er y.2)).lookup x := by
  induction bs with
  | nil => rfl
  | cons y bs ih =>
    rw [List.lookup_cons, List.map_cons, List.lookup_cons]
    cases x == y.1
    · exact ih
    · rfl
theorem ctr_defD {w : World} {dp un : Nat} {f : Addr} {args : List Value} {N : Led} {Out : Value → Led → Prop} {name qual : Str} {params : Arguments} {body : List Stmt} {scope : Scope} {dV kV doc pm cdv ct oc : Value} {an od : Option Addr} {osl : Array (Option Value)} {binds : List (Str × Value)}
    (hk : (Mine.hd.heap_1 w.params).lookup f = some ⟨oc, od, .func (fnOf name qual params body scope dV kV doc pm an cdv ct), osl⟩)
    (hcd : codeIn (Mine.hd.heap_1 w.params) cdv qual = true) (hkp : keepIn (Mine.hd.heap_1 w.params) (.ref f) = true)
    (hd : dp < 900) (hu : un + 3 ≤ 6000)
    (hb : ∀ (vals : List Value) (s : Shared), vals.map er = args → (Mine.hd.heap_1 w.params).In s.heap → ∃ bs, BindsTo s (fnOf name qual params body scope dV kV doc pm an cdv ct) ⟨vals, []⟩ bs ∧ bs.map (fun y => (y.1, er y.2)) = binds)
    (hloc : (binds.all fun x => decide (scope.names.lookup x.1 = some .local)) = true) (hcell : ∀ x ∈ scope.names, x.2 ≠ .cell) (hco : scope.isCoroutine = false) (hgen : scope.isGenerator = false) (hkind : scope.kind = .function)
    (H : ∀ c : Cx, Good c → c.w = w → c.cs = scope → c.cl = [] → c.dp ≤ dp + 1 → c.un ≤ un + 3 → Run c erF (execs body c.env) binds.reverse N (fun fl _ N' => ∃ N2 : Led, Pk N' N2 ∧ Out (fv fl) N2)) : Ctr w dp un (.ref f) args N Out := by
  intro c m G hw hdp hun
  subst hw
  refine ⟨kep_K G (fun v => er_ref) hkp, fun f' vals e1 e2 => ⟨fun h0 tk g Q E hg a k => ?_⟩⟩
  rw [er_ref e1]
  obtain ⟨μ, C, F, l, Nw, d, nd⟩ := a.ex
  obtain ⟨bs, hb1, hb2⟩ := hb vals (c.st h0 tk g) e2 (G.X.keeps F.keep)
  have hloc' : ∀ y ∈ bs, scope.names.lookup y.1 = some .local := fun y hy => locs hloc (y.1, er y.2) (by rw [← hb2]; exact List.mem_map_of_mem (f := fun y : Str × Value => (y.1, er y.2)) hy)
  refine wpAny_call (code_def (s := c.st h0 tk g) G.B F G.X Nw G.T rfl rfl G.k hk hcd (Nat.lt_of_le_of_lt hdp (Nat.lt_trans hd (by decide))) hb1 hloc' (fun g' L' h₁ FG F' N' B' X' T' => ?_) hco hgen hkind hcell)
  let c' : Cx := { w := c.w, dp := c.dp + 1, un := c.un + 3, gd := c.gd, cn := qual, cs := scope, L := L', a := f, ccd := cdv, cl := [], outer := c.env :: c.outer, A₀ := c.A, base := c.base, h₀ := g', p := c.p, loose := c.loose, mean := c.mean, mg := c.mg, mb := c.mb, s := c.s }
  have G' : Good c' := ⟨B', X', T', hkind, by show c.dp + 1 ≤ 900; omega, by show c.un + 3 ≤ 6000; omega, G.t44, G.t37, G.t126⟩
  have a' : At c' h₁ binds.reverse N := ⟨_, C, F', fun x => by rw [lookup_er, List.map_reverse, hb2], N', d, nd⟩
  refine (H c' G' rfl rfl rfl (by show c.dp + 1 ≤ dp + 1; omega) (by show c.un + 3 ≤ un + 3; omega)).go h₁ _ g _ _ hg a' fun fl h' tk' g2 m' N1 hg2 a1 ⟨N2, pN, o⟩ => ?_
  obtain ⟨μ2, C2, F2, l2, Nw2, d2, nd2⟩ := (a1.pick pN).ex
  refine leaveK_ F2 Nw2 fun F3 N3 => ?_
  have o' : Out (er (fv fl)) N2 := by cases fl <;> exact o
  have q := k (fv fl) h' tk' g2 m N2 hg2 ⟨μ, C2, F3, l, N3, d2, nd2⟩ ⟨rfl, o'⟩
  cases fl <;> exact q
theorem ctr_def {w : World} {dp un : Nat} {f : Addr} {args : List Value} {N : Led} {Out : Value → Led → Prop} {name qual : Str} {params : Arguments} {body : List Stmt} {scope : Scope} {dV kV doc pm cdv ct oc : Value} {an od : Option Addr} {osl : Array (Option Value)} {binds : List (Str × Value)}
    (hk : (Mine.hd.heap_1 w.params).lookup f = some ⟨oc, od, .func (fnOf name qual params body scope dV kV doc pm an cdv ct), osl⟩)
    (hcd : codeIn (Mine.hd.heap_1 w.params) cdv qual = true) (hkp : keepIn (Mine.hd.heap_1 w.params) (.ref f) = true)
    (hd : dp < 900) (hu : un + 3 ≤ 6000)
    (hb : ∀ (vals : List Value) (s : Shared), vals.map er = args → ∃ bs, BindsTo s (fnOf name qual params body scope dV kV doc pm an cdv ct) ⟨vals, []⟩ bs ∧ bs.map (fun y => (y.1, er y.2)) = binds)
    (hloc : (binds.all fun x => decide (scope.names.lookup x.1 = some .local)) = true) (hcell : ∀ x ∈ scope.names, x.2 ≠ .cell) (hco : scope.isCoroutine = false) (hgen : scope.isGenerator = false) (hkind : scope.kind = .function)
    (H : ∀ c : Cx, Good c → c.w = w → c.cs = scope → c.cl = [] → c.dp ≤ dp + 1 → c.un ≤ un + 3 → Run c erF (execs body c.env) binds.reverse N (fun fl _ N' => ∃ N2 : Led, Pk N' N2 ∧ Out (fv fl) N2)) : Ctr w dp un (.ref f) args N Out :=
  ctr_defD hk hcd hkp hd hu (fun vals s e _ => hb vals s e) hloc hcell hco hgen hkind H
end
end Mine
end
section
open PySem PySem.W PyProof.Rows
set_option maxRecDepth 100000
namespace Mine
section
open PySem.Builtin PySem.Builtin.Str
def find4 (x y : Str) (i j : Int) : Int := match occurrences x y (fromIndex x.length i) (min (fromIndex x.length j) x.length) 1 with | k :: _ => (k : Int) | [] => -1
def rfind4 (x y : Str) (i j : Int) : Int := match lastOccurrence x y (fromIndex x.length i) (min (fromIndex x.length j) x.length) with | some k => (k : Int) | none => -1
theorem gives_find4 (x y : Str) (i j : Int) (t u v z : Tok) : Gives («str.find» ⟨[.str x t, .str y u, .int i v, .int j z], []⟩) (.int (find4 x y i j)) := by
  show Gives (match occurrences x y (fromIndex x.length i) (min (fromIndex x.length j) x.length) 1 with | k :: _ => retInt k | [] => (do rule "str.find.not-found"; retInt (-1))) _
  unfold find4
  cases occurrences x y (fromIndex x.length i) (min (fromIndex x.length j) x.length) 1 with
  | nil => exact .rule (.of_eq rfl)
  | cons k _ => exact .of_eq rfl
theorem gives_rfind4 (x y : Str) (i j : Int) (t u v z : Tok) : Gives («str.rfind» ⟨[.str x t, .str y u, .int i v, .int j z], []⟩) (.int (rfind4 x y i j)) := by
  show Gives (match lastOccurrence x y (fromIndex x.length i) (min (fromIndex x.length j) x.length) with | some k => retInt k | none => (do rule "str.rfind.not-found"; retInt (-1))) _
  unfold rfind4
  cases lastOccurrence x y (fromIndex x.length i) (min (fromIndex x.length j) x.length) with
  | none => exact .rule (.of_eq rfl)
  | some k => exact .of_eq rfl
section
variable {prog : Program} {w : World} {A : Around} {E : Value → Shared → Prop} {s : Shared} {x y : Str} {t u v z : Tok} {i j : Int} {Q : Value → Shared → Prop}
theorem call_find4 (hq : Q (.int (find4 x y i j) s.toks) { s with toks := s.toks + 1 }) : wpAny (model prog w) A (call (.builtin "str.find") [.str x t, .str y u, .int i v, .int j z]) Q E s :=
  call_gives F.slot_str_find (typeIs_str _ _ _) F.entry_str_find (F.args_str_find_4 _ _ _ _) (gives_find4 x y i j t u v z) hq
theorem call_rfind4 (hq : Q (.int (rfind4 x y i j) s.toks) { s with toks := s.toks + 1 }) : wpAny (model prog w) A (call (.builtin "str.rfind") [.str x t, .str y u, .int i v, .int j z]) Q E s :=
  call_gives F.slot_str_rfind (typeIs_str _ _ _) F.entry_str_rfind (F.args_str_rfind_4 _ _ _ _) (gives_rfind4 x y i j t u v z) hq
end
end
section
open PySem.Builtin PySem.Builtin.Str
def replace1 (x y z : Str) : Str := if (occurrences x y 0 x.length 1).isEmpty = true then x else glued z (partsBetween x (occurrences x y 0 x.length 1) y.length)
theorem gives_replace1 (x y z : Str) (t u v c : Tok) (h0 : (u == 0 || v == 0) = false) (huv : (u == v) = false) (hyz : (y == z) = false) (hz : (z.length == 0) = false)
    (hl : tooLong (x.length + (occurrences x y 0 x.length 1).length * z.length) = false) :
    Gives («str.replace» ⟨[.str x t, .str y u, .str z v, .int 1 c], []⟩)
      (if (occurrences x y 0 x.length 1).isEmpty = true then .val (.str x t) else .str (glued z (partsBetween x (occurrences x y 0 x.length 1) y.length))) := by
  show Gives (if ((occurrences x y 0 x.length 1).isEmpty || (y.length == 0 && z.length == 0)) = true then (do rule "str.replace.nothing"; ret (.str x t)) else
          (do let same ← isSame (.str y u) (.str z v)
              if same = true then (do rule "str.replace.old-is-new"; ret (.str x t)) else
              if tooLong (x.length + (occurrences x y 0 x.length 1).length * z.length) = true then unsupported "str.replace:memory" else
              retStr (glued z (partsBetween x (occurrences x y 0 x.length 1) y.length)))) _
  rw [hz, Bool.and_false, Bool.or_false]
  cases hc : (occurrences x y 0 x.length 1).isEmpty
  · rw [isSame_str_other y z u v h0 huv hyz, hl]
    exact .of_eq rfl
  · exact .rule (.of_eq rfl)
section
variable {prog : Program} {w : World} {A : Around} {E : Value → Shared → Prop} {s : Shared} {x y z : Str} {t u v c : Tok} {Q : Value → Shared → Prop}
theorem call_replace1 (hu : u ≠ 0) (hv : v ≠ 0) (huv : u ≠ v) (hyz : (y == z) = false) (hz : (z.length == 0) = false) (hl : tooLong (x.length + (occurrences x y 0 x.length 1).length * z.length) = false)
    (hsz : (replace1 x y z).length ≤ sizeLine) (hq : ∀ t' k, Q (.str (replace1 x y z) t') { s with toks := k }) :
    wpAny (model prog w) A (call (.builtin "str.replace") [.str x t, .str y u, .str z v, .int 1 c]) Q E s := by
  refine call_gives F.slot_str_replace (typeIs_str _ _ _) F.entry_str_replace (F.args_str_replace_4 _ _ _ _) (gives_replace1 x y z t u v c (by simp [hu, hv]) (by simp [huv]) hyz hz hl) ?_
  unfold replace1 at hq hsz
  cases hc : (occurrences x y 0 x.length 1).isEmpty
  · rw [hc] at hq hsz
    simp only [Bool.false_eq_true, if_false] at hq hsz ⊢
    exact ⟨hsz, hq _ _⟩
  · rw [hc] at hq
    simp only [if_true] at hq ⊢
    exact hq _ _
end
end
end Mine
end
section
open PySem PySem.W PyProof.Rows PySem.Calls
set_option maxRecDepth 100000
namespace Mine
section
variable {c : Cx} {m : Loc} {N : Led} {K : Kv}
theorem get_str {x y : Str} {id : String} {K : Value → List Value → Loc → Led → Prop} (slot : Slot "str" y id) (hty : typeOf (.builtin id) = pure (.type "method_descriptor")) (h : K (.builtin id) [.str x 0] m N) : Get c (.str x 0) y m N K := ⟨fun o pl e => by
  obtain ⟨t, rfl⟩ := er_str e
  refine ⟨fun h0 tk g Q E hg a k => ?_⟩
  with_reducible refine getMethod_builtin (typeIs_str _ _ _) F.plainAttrs_str slot hty ?nm ?kk
  case nm => exact fun a e => nomatch e
  case kk => exact k _ h0 tk g m N hg a h⟩
theorem map_cons {vs us : List Value} {a : Value} (h : vs.map er = a :: us) : ∃ v ws, vs = v :: ws ∧ er v = a ∧ ws.map er = us := by
  cases vs with
  | nil => cases h
  | cons v ws => exact ⟨v, ws, rfl, (List.cons.inj h).1, (List.cons.inj h).2⟩
theorem map_one {vs : List Value} {a : Value} (h : vs.map er = [a]) : ∃ v, vs = [v] ∧ er v = a := by
  obtain ⟨v, ws, rfl, h1, h⟩ := map_cons h
  rw [List.map_eq_nil_iff.mp h]
  exact ⟨v, rfl, h1⟩
theorem map_two {vs : List Value} {a b : Value} (h : vs.map er = [a, b]) : ∃ v u, vs = [v, u] ∧ er v = a ∧ er u = b := by
  obtain ⟨v, ws, rfl, h1, h⟩ := map_cons h
  obtain ⟨u, rfl, h2⟩ := map_one h
  exact ⟨v, u, rfl, h1, h2⟩
theorem map_three {vs : List Value} {a b d : Value} (h : vs.map er = [a, b, d]) : ∃ v u z, vs = [v, u, z] ∧ er v = a ∧ er u = b ∧ er z = d := by
  obtain ⟨v, ws, rfl, h1, h⟩ := map_cons h
  obtain ⟨u, z, rfl, h2, h3⟩ := map_two h
  exact ⟨v, u, z, rfl, h1, h2, h3⟩
theorem map_four {vs : List Value} {a b d f : Value} (h : vs.map er = [a, b, d, f]) : ∃ v u z y, vs = [v, u, z, y] ∧ er v = a ∧ er u = b ∧ er z = d ∧ er y = f := by
  obtain ⟨v, ws, rfl, h1, h⟩ := map_cons h
  obtain ⟨u, z, y, rfl, h2, h3, h4⟩ := map_three h
  exact ⟨v, u, z, y, rfl, h1, h2, h3, h4⟩
theorem cal_find {x y : Str} (h : K (.int (Txt.find x y) 0) m N) : CalW c (.builtin "str.find") [.str x 0, .str y 0] m N K := ⟨kep_builtin, fun f' vs e1 e2 => by
  obtain ⟨v, u, rfl, h1, h2⟩ := map_two e2
  obtain ⟨t1, rfl⟩ := er_str h1
  obtain ⟨t2, rfl⟩ := er_str h2
  rw [er_builtin e1]
  exact ⟨fun h0 tk g Q E hg a k => SC.find (k _ _ _ g m N hg a h)⟩⟩
theorem cal_find4 {x y : Str} {i j : Int} (h : K (.int (find4 x y i j) 0) m N) : CalW c (.builtin "str.find") [.str x 0, .str y 0, .int i 0, .int j 0] m N K := ⟨kep_builtin, fun f' vs e1 e2 => by
  obtain ⟨v, u, z, y, rfl, h1, h2, h3, h4⟩ := map_four e2
  obtain ⟨t1, rfl⟩ := er_str h1
  obtain ⟨t2, rfl⟩ := er_str h2
  obtain ⟨t3, rfl⟩ := er_int h3
  obtain ⟨t4, rfl⟩ := er_int h4
  rw [er_builtin e1]
  exact ⟨fun h0 tk g Q E hg a k => call_find4 (k _ _ _ g m N hg a h)⟩⟩
theorem cal_rfind4 {x y : Str} {i j : Int} (h : K (.int (rfind4 x y i j) 0) m N) : CalW c (.builtin "str.rfind") [.str x 0, .str y 0, .int i 0, .int j 0] m N K := ⟨kep_builtin, fun f' vs e1 e2 => by
  obtain ⟨v, u, z, y, rfl, h1, h2, h3, h4⟩ := map_four e2
  obtain ⟨t1, rfl⟩ := er_str h1
  obtain ⟨t2, rfl⟩ := er_str h2
  obtain ⟨t3, rfl⟩ := er_int h3
  obtain ⟨t4, rfl⟩ := er_int h4
  rw [er_builtin e1]
  exact ⟨fun h0 tk g Q E hg a k => call_rfind4 (k _ _ _ g m N hg a h)⟩⟩
theorem cal_len_str {x : Str} (hx : x.length ≤ 1000) (h : K (.int x.length 0) m N) : CalW c (.builtin "len") [.str x 0] m N K := ⟨kep_builtin, fun f' vs e1 e2 => by
  obtain ⟨v, rfl, h1⟩ := map_one e2
  obtain ⟨t1, rfl⟩ := er_str h1
  rw [er_builtin e1]
  exact ⟨fun h0 tk g Q E hg a k => len_str (by omega) (k _ _ _ g m N hg a h)⟩⟩
theorem bin_add {a b : Int} (h : K (.int (a + b) 0) m N) : Bin c .Add (.int a 0) (.int b 0) m N K := ⟨fun v u e1 e2 => by
  obtain ⟨t1, rfl⟩ := er_int e1
  obtain ⟨t2, rfl⟩ := er_int e2
  exact ⟨fun h0 tk g Q E hg a k => add_int (k _ _ _ g m N hg a h)⟩⟩
theorem cmp_ge {a b : Int} (h : K (.bool (decide (b ≤ a))) m N) : Cmp c .GtE (.int a 0) (.int b 0) m N K := ⟨fun v u e1 e2 => by
  obtain ⟨t1, rfl⟩ := er_int e1
  obtain ⟨t2, rfl⟩ := er_int e2
  exact ⟨fun h0 tk g Q E hg a k => ge_int (k _ _ _ g m N hg a h)⟩⟩
theorem tru_bool {b : Bool} {K : Bool → Loc → Led → Prop} (h : K b m N) : Tru c (.bool b) m N K := ⟨fun v e => by
  rw [er_bool e]
  exact ⟨fun h0 tk g Q E hg a k => wpAny_truthy_bool (k _ _ _ g m N hg a h)⟩⟩
theorem sub_str {v : Expr} {l u : Expr} {ps : PySem.Pos} {x : Str} {i j : Int} (hx : x.length ≤ 1000) (hv : ∀ t r, letTemporaryGo v (.str x t) r = pure ()) (h : K (.str (Txt.slice x (some i) (some j)) 0) m N) : SubS c v (.Slice (some l) (some u) none ps) (.str x 0) (.int i 0) (.int j 0) .none m N K :=
  ⟨fun o' l' u' st' h0 tk g Q E e1 e2 e3 e4 hg a k => by
    obtain ⟨t1, rfl⟩ := er_str e1
    obtain ⟨t2, rfl⟩ := er_int e2
    obtain ⟨t3, rfl⟩ := er_int e3
    rw [er_none e4]
    obtain ⟨μ, C, F, lk, Nw, d, nd⟩ := a.ex
    exact slice_strN_ss (s := c.st h0 tk g) F Nw (fun h' t' k' F' N' => k _ _ _ g m N hg ⟨μ, C, F', lk, N', d, nd⟩ h) (by with_unfolding_all rfl) (hv _) (by rw [sizeLine_eq]; omega)⟩
end
theorem iteT {z : Bool} {P Q : Prop} (hz : z = true) (h : P) : (z = true → P) ∧ (z = false → Q) := ⟨fun _ => h, fun e => absurd (hz.symm.trans e) Bool.noConfusion⟩
theorem iteF {z : Bool} {P Q : Prop} (hz : z = false) (h : Q) : (z = true → P) ∧ (z = false → Q) := ⟨fun e => absurd (hz.symm.trans e) Bool.noConfusion, fun _ => h⟩
def stripOf (x : Str) : Str := Txt.slice x (some (rfind4 x (Str.ofString ".") 0 (x.length : Int) + 1)) (some (x.length : Int))
def Strippable (x : Str) : Prop := x.length ≤ 100 ∧ Txt.find x (Str.ofString "\n") = -1 ∧ find4 x (Str.ofString ":") 0 (x.length : Int) = -1 ∧ 0 ≤ rfind4 x (Str.ofString ".") 0 (x.length : Int) ∧ rfind4 x (Str.ofString ".") 0 (x.length : Int) < 100
set_option maxHeartbeats 2000000 in
theorem strip_ctr (w : World) (x : Str) (N : Led) (hx : Strippable x) : Ctr w 800 5000 (.ref 77) [.str x 0] N (fun v N' => v = .str (stripOf x) 0 ∧ N' = N) := by
  show (fun (_ : OpenLaw) (_ : Params → Frag) => Ctr w 800 5000 (.ref 77) [.str x 0] N (fun v N' => v = .str (stripOf x) 0 ∧ N' = N)) Challenge.rw_re0116_01 Mine.hd.heap_1
  k_fill
  show Ctr w 800 5000 (.ref 77) [.str x 0] N (fun v N' => v = .str (stripOf x) 0 ∧ N' = N)
  k_dflt (refine' ctr_def (binds := [("msg", .str x 0)]) ?hk ?hcd ?hkp ?hd ?hu ?hb ?hloc ?hcell ?hco ?hgen ?hkind ?H)
  case hk => k_is
  case hcd => k_is
  case hkp => k_is
  case hd => decide
  case hu => decide
  case hb =>
    intro vals s e
    obtain ⟨v, rfl, h1⟩ := map_one e
    exact ⟨_, BindsTo.of_eq rfl, by rw [← h1]; rfl⟩
  case hloc => exact rfl
  case hcell => decide
  case hco => exact rfl
  case hgen => exact rfl
  case hkind => exact rfl
  case H =>
    intro c G hw hcs hcl hdp hun
    have Fc : Fn c _ [] := ⟨G, congrArg Scope.names hcs, hcl, by decide +kernel⟩
    obtain ⟨hl, h1, h2, h3, h4⟩ := hx
    refine run_step Fc 9 ?_
    refine And.intro rfl ?_
    refine And.intro rfl ?_
    refine And.intro rfl ?_
    refine cal_len_str (by omega) ?_
    refine And.intro rfl ?_
    intro a
    refine Exists.intro _ (Exists.intro _ (And.intro rfl (And.intro (.head _) (And.intro rfl ?_))))
    refine run_step Fc 9 ?_
    refine And.intro rfl ?_
    refine And.intro rfl ?_
    refine get_str F.slot_str_find F.type_str_find ?_
    refine cal_find ?_
    refine run_step Fc 9 ?_
    refine And.intro rfl ?_
    refine cmp_ge ?_
    refine tru_bool ?_
    refine iteF (decide_eq_false (by omega)) (run_nil ?_)
    refine run_step Fc 9 ?_
    refine And.intro rfl ?_
    refine And.intro rfl ?_
    refine get_str F.slot_str_find F.type_str_find ?_
    refine cal_find4 ?_
    refine run_step Fc 9 ?_
    refine And.intro rfl ?_
    refine cmp_ge ?_
    refine tru_bool ?_
    refine iteF (decide_eq_false (by omega)) (run_nil ?_)
    refine run_step Fc 9 ?_
    refine And.intro rfl ?_
    refine And.intro rfl ?_
    refine get_str F.slot_str_rfind F.type_str_rfind ?_
    refine cal_rfind4 ?_
    refine run_step Fc 9 ?_
    refine And.intro rfl ?_
    refine cmp_ge ?_
    refine tru_bool ?_
    refine iteT (decide_eq_true (by omega)) ?_
    refine run_step Fc 9 ?_
    refine And.intro rfl ?_
    refine bin_add ?_
    refine run_nil ?_
    refine run_step Fc 9 ?_
    refine sub_str (by omega) (fun t r => by with_unfolding_all rfl) ?_
    exact ⟨N, .drop .all, rfl, rfl⟩
end Mine
end
section
open PySem PySem.W PyProof.Rows PySem.Calls
set_option maxRecDepth 100000
namespace Mine
def isRaw (o : Obj) : AO := fun o' => o' = o
def isClos (name qual : Str) (params : Arguments) (body : List Stmt) (scope : Scope) (cl : List (Str × Addr)) (cd : Addr) : AO := fun o => ∃ doc pm ctv, o = fnMade name qual params body scope cl doc pm cd ctv
def isCode (qual : Str) : AO := fun o => ∃ vs t, o.data = .fields vs ∧ vs[1]? = some (.str qual t)
inductive TabL (P : Addr) (line col : Nat) (qual : Str) : Led → Prop
  | empty : TabL P line col qual [(P, isRaw (tabObj #[]))]
  | full {c : Addr} : TabL P line col qual [(P, isRaw (tabObj #[rawInt line, rawInt col, .ref c])), (c, isCode qual)]
def cellLed (cb : Loc) (l : List (Str × Addr)) : Led := l.map fun q => (q.2, isCell (cb.lookup q.1))
def lbOf (ns : List (Str × NameKind)) (binds : Loc) : Loc := (binds.filter fun y => ns.lookup y.1 == some .local).reverse
def cbOf (ns : List (Str × NameKind)) (binds : Loc) : Loc := (binds.filter fun y => !(ns.lookup y.1 == some .local)).reverse
theorem bindL_er (kindOf : Str → Option NameKind) (p : Str → Bool) (hp : ∀ x, p x = true ↔ kindOf x = some .local) : ∀ (bs : List (Str × Value)) (m : Str → Option Value) (l : Loc), (∀ x, (m x).map er = l.lookup x) →
    ∀ x, (bindL kindOf bs m x).map er = ((((bs.map fun y => (y.1, er y.2)).filter fun y => p y.1).reverse) ++ l).lookup x
  | [], m, l, h, x => h x
  | (n, v) :: bs, m, l, h, x => by
    unfold bindL
    rw [List.map_cons, List.filter_cons]
    by_cases q : kindOf n = some .local
    · rw [if_pos q, if_pos ((hp n).mpr q)]
      rw [bindL_er kindOf p hp bs _ ((n, er v) :: l) (fun y => ?_) x, List.reverse_cons, List.append_assoc]
      · rfl
      · rw [List.lookup_cons]
        by_cases e : y = n
        · rw [if_pos e, beq_iff_eq.mpr e]; rfl
        · rw [if_neg e, beq_eq_false_iff_ne.mpr e]; exact h y
    · rw [if_neg q, if_neg (fun z => q ((hp n).mp z))]
      exact bindL_er kindOf p hp bs m l h x
theorem bindC_er (kindOf : Str → Option NameKind) (p : Str → Bool) (hp : ∀ x, p x = true ↔ kindOf x = some .local) : ∀ (bs : List (Str × Value)) (m : Str → Option Value) (l : Loc), (∀ x, (m x).map er = l.lookup x) →
    ∀ x, (bindC kindOf bs m x).map er = ((((bs.map fun y => (y.1, er y.2)).filter fun y => !p y.1).reverse) ++ l).lookup x
  | [], m, l, h, x => h x
  | (n, v) :: bs, m, l, h, x => by
    unfold bindC
    rw [List.map_cons, List.filter_cons]
    by_cases q : kindOf n = some .local
    · rw [if_pos q, if_neg (by rw [(hp n).mpr q]; exact Bool.false_ne_true)]
      exact bindC_er kindOf p hp bs m l h x
    · rw [if_neg q, if_pos (by rw [Bool.eq_false_iff.mpr (fun z => q ((hp n).mp z))]; rfl)]
      rw [bindC_er kindOf p hp bs _ ((n, er v) :: l) (fun y => ?_) x, List.reverse_cons, List.append_assoc]
      · rfl
      · rw [List.lookup_cons]
        by_cases e : y = n
        · rw [if_pos e, beq_iff_eq.mpr e]; rfl
        · rw [if_neg e, beq_eq_false_iff_ne.mpr e]; exact h y
theorem cells_den {cm : Str → Option Value} {cb : Loc} (h : ∀ x, (cm x).map er = cb.lookup x) {l : List (Str × Addr)} {cells : List (Addr × Obj)} (x : CellsAre cm l cells) : Den cells (cellLed cb l) := by
  induction x with
  | nil => exact trivial
  | cons hd _ ih => exact ⟨rfl, ⟨_, hd, h _⟩, ih⟩
theorem cells_addr : ∀ (names : List (Str × NameKind)) (n lo : Nat) (acc : List (Str × Addr)), lo ≤ n → (∀ p ∈ acc, lo ≤ p.2 ∧ p.2 < n) → (acc.map (·.2)).Nodup → ((cellsFrom n names acc).map (·.2)).Nodup ∧ ∀ p ∈ cellsFrom n names acc, lo ≤ p.2
  | [], n, lo, acc, _, h, nd => ⟨nd, fun p hp => (h p hp).1⟩
  | (y, k) :: r, n, lo, acc, hl, h, nd => by
    unfold cellsFrom
    by_cases hk : (k == .cell) = true
    · rw [if_pos hk]
      refine cells_addr r (n + 1) lo ((y, n) :: acc) (Nat.le_succ_of_le hl) (fun p hp => ?_) ?_
      · rcases List.mem_cons.mp hp with rfl | hp
        · exact ⟨hl, Nat.lt_succ_self n⟩
        · exact ⟨(h p hp).1, Nat.lt_succ_of_lt (h p hp).2⟩
      · rw [List.map_cons, List.nodup_cons]
        refine ⟨fun hm => ?_, nd⟩
        obtain ⟨p, hp, e⟩ := List.mem_map.mp hm
        exact absurd (h p hp).2 (by rw [show p.2 = n from e]; exact Nat.lt_irrefl _)
    · rw [if_neg hk]
      exact cells_addr r n lo acc hl h nd
theorem Den.append : ∀ {C C' : List (Addr × Obj)} {N N' : Led}, Den C N → Den C' N' → Den (C ++ C') (N ++ N')
  | [], _, [], _, _, h => h
  | [], _, _ :: _, _, d, _ => d.elim
  | _ :: _, _, [], _, d, _ => d.elim
  | _ :: _, _, _ :: _, _, d, h => ⟨d.1, d.2.1, Den.append d.2.2 h⟩
section
variable {c : Cx}
theorem ctr_defC {w : World} {dp un : Nat} {f : Addr} {args : List Value} {N : Led} {Out : Value → Led → Prop} {name qual : Str} {params : Arguments} {body : List Stmt} {scope : Scope} {dV kV doc pm cdv ct oc : Value} {an od : Option Addr} {osl : Array (Option Value)} {binds : List (Str × Value)}
    (hk : (Mine.hd.heap_1 w.params).lookup f = some ⟨oc, od, .func (fnOf name qual params body scope dV kV doc pm an cdv ct), osl⟩)
    (hcd : codeIn (Mine.hd.heap_1 w.params) cdv qual = true) (hkp : keepIn (Mine.hd.heap_1 w.params) (.ref f) = true)
    (hd : dp < 900) (hu : un + 3 ≤ 6000)
    (hb : ∀ (vals : List Value) (s : Shared), vals.map er = args → ∃ bs, BindsTo s (fnOf name qual params body scope dV kV doc pm an cdv ct) ⟨vals, []⟩ bs ∧ bs.map (fun y => (y.1, er y.2)) = binds)
    (hloc : (binds.all fun y => scope.names.lookup y.1 == some .local || scope.names.lookup y.1 == some .cell) = true) (hnd : ((cellsFrom 0 scope.names []).map (·.1)).Nodup) (hco : scope.isCoroutine = false) (hgen : scope.isGenerator = false) (hkind : scope.kind = .function)
    (H : ∀ c : Cx, Good c → c.w = w → c.cn = qual → c.cs = scope → c.ccd = cdv → c.cl = cellsFrom (c.L + 1) scope.names [] → c.dp ≤ dp + 1 → c.un ≤ un + 3 →
      Run c erF (execs body c.env) (lbOf scope.names binds) (cellLed (cbOf scope.names binds) (cellsFrom (c.L + 1) scope.names []) ++ N) (fun fl _ N' => ∃ N2 : Led, Pk N' N2 ∧ Out (fv fl) N2)) : Ctr w dp un (.ref f) args N Out := by
  intro c m G hw hdp hun
  subst hw
  refine ⟨kep_K G (fun v => er_ref) hkp, fun f' vals e1 e2 => ⟨fun h0 tk g Q E hg a k => ?_⟩⟩
  rw [er_ref e1]
  obtain ⟨μ, C, F, l, Nw, d, nd⟩ := a.ex
  obtain ⟨bs, hb1, hb2⟩ := hb vals (c.st h0 tk g) e2
  have hloc' : (bs.all fun y => scope.names.lookup y.1 == some .local || scope.names.lookup y.1 == some .cell) = true := by
    rw [← hb2, List.all_map] at hloc
    exact hloc
  refine wpAny_call (code_defC (s := c.st h0 tk g) G.B F G.X Nw G.T rfl rfl G.k hk hcd (Nat.lt_of_le_of_lt hdp (Nat.lt_trans hd (by decide))) hb1 hloc' hnd (fun g' L' h₁ tk' cells FG F' N' Y B' X' T' lt => ?_) hco hgen hkind)
  let c' : Cx := { w := c.w, dp := c.dp + 1, un := c.un + 3, gd := c.gd, cn := qual, cs := scope, L := L', a := f, ccd := cdv, cl := cellsFrom (L' + 1) scope.names [], outer := c.env :: c.outer, A₀ := c.A, base := c.base, h₀ := g', p := c.p, loose := c.loose, mean := c.mean, mg := c.mg, mb := c.mb, s := c.s }
  have G' : Good c' := ⟨B', X', T', hkind, by show c.dp + 1 ≤ 900; omega, by show c.un + 3 ≤ 6000; omega, G.t44, G.t37, G.t126⟩
  have hp : ∀ x, (scope.names.lookup x == some .local) = true ↔ (envOfC qual scope L' f cdv).kindOf x = some .local := fun x => beq_iff_eq
  have ca := cells_addr scope.names (L' + 1) (L' + 1) [] (Nat.le_refl _) (fun _ h => nomatch h) List.nodup_nil
  have dc := cells_den (cb := cbOf scope.names binds) (fun x => by rw [bindC_er _ _ hp bs _ [] (fun _ => rfl) x, hb2, List.append_nil]; rfl) Y
  have a' : At c' h₁ (lbOf scope.names binds) (cellLed (cbOf scope.names binds) (cellsFrom (L' + 1) scope.names []) ++ N) := by
    refine ⟨_, cells ++ C, F', fun x => ?_, N', dc.append d, ?_⟩
    · rw [bindL_er _ _ hp bs _ [] (fun _ => rfl) x, hb2, List.append_nil]; rfl
    · have ea : cells.map (·.1) = (cellsFrom (L' + 1) scope.names []).map (·.2) := by
        rw [dc.addrs]; unfold cellLed; rw [List.map_map]; rfl
      rw [List.map_append, List.nodup_append]
      refine ⟨by rw [ea]; exact ca.1, nd, fun x hx y hy e => ?_⟩
      rw [ea] at hx
      obtain ⟨p, hp, e1⟩ := List.mem_map.mp hx
      obtain ⟨q, hq, e2⟩ := List.mem_map.mp hy
      have h1 := ca.2 p hp
      have h2 := lt q hq
      rw [show p.2 = x from e1] at h1
      rw [show q.1 = y from e2, ← e] at h2
      exact absurd (Nat.lt_of_lt_of_le h2 (Nat.le_of_succ_le h1)) (Nat.lt_irrefl _)
  refine (H c' G' rfl rfl rfl rfl rfl (by show c.dp + 1 ≤ dp + 1; omega) (by show c.un + 3 ≤ un + 3; omega)).go h₁ _ g _ _ hg a' fun fl h' tk' g2 m' N1 hg2 a1 ⟨N2, pN, o⟩ => ?_
  obtain ⟨μ2, C2, F2, l2, Nw2, d2, nd2⟩ := (a1.pick pN).ex
  refine leaveK_ F2 Nw2 fun F3 N3 => ?_
  have o' : Out (er (fv fl)) N2 := by cases fl <;> exact o
  have q := k (fv fl) h' tk' g2 m N2 hg2 ⟨μ, C2, F3, l, N3, d2, nd2⟩ ⟨rfl, o'⟩
  cases fl <;> exact q
end
end Mine
end
section
open PySem PySem.W PyProof.Rows PySem.Calls
set_option maxRecDepth 100000
namespace Mine
theorem Den.split : ∀ {pre post : Led} {C : List (Addr × Obj)}, Den C (pre ++ post) → ∃ cp cq, C = cp ++ cq ∧ Den cp pre ∧ Den cq post
  | [], post, C, d => ⟨[], C, rfl, trivial, d⟩
  | _ :: _, _, [], d => d.elim
  | x :: pre, post, y :: C, d => by
    obtain ⟨cp, cq, rfl, d1, d2⟩ := Den.split (pre := pre) d.2.2
    exact ⟨y :: cp, cq, rfl, ⟨d.1, d.2.1, d1⟩, d2⟩
theorem Den.one {C : List (Addr × Obj)} {P : Addr} {A : AO} (d : Den C [(P, A)]) : ∃ o, C = [(P, o)] ∧ A o := by
  cases C with
  | nil => exact d.elim
  | cons p C => cases C with
    | nil => exact ⟨p.2, by rw [← show p.1 = P from d.1], d.2.1⟩
    | cons _ _ => exact d.2.2.elim
theorem Den.two {C : List (Addr × Obj)} {P P2 : Addr} {A A2 : AO} (d : Den C [(P, A), (P2, A2)]) : ∃ o o2, C = [(P, o), (P2, o2)] ∧ A o ∧ A2 o2 := by
  cases C with
  | nil => exact d.elim
  | cons p C =>
    obtain ⟨o2, rfl, h2⟩ := Den.one d.2.2
    exact ⟨p.2, o2, by rw [← show p.1 = P from d.1], d.2.1, h2⟩
section
variable {c : Cx}
theorem run_def (G : Good c) {name qual : Str} {params : Arguments} {body : List Stmt} {scope : Scope} {pos : PySem.Pos} {m : Loc} {N : Led} {K : Kf} {cd P : Addr} {pre tabs rest : Led} {clos : List (Str × Addr)}
    (hd0 : params.defaults = []) (hk0 : params.kw_defaults = []) (ha : annTrees params none c.env = []) (hq : qualnameIn c.env name name = qual) (hcl : closureFor scope c.env = pure clos)
    (C : CodeHd c.base cd P) (hcd : c.ccd = .ref cd) (hN : N = pre ++ (tabs ++ rest)) (ht : TabL P pos.line pos.col qual tabs)
    (h : ∀ f cd' tabs', TabL P pos.line pos.col qual tabs' → (cd', isCode qual) ∈ tabs' → Run c id (storeName c.env name (.ref f)) m ((f, isClos name qual params body scope clos cd') :: (pre ++ (tabs' ++ rest))) (fun _ => K .next)) :
    Run c erF (exec (.FunctionDef name params body [] none [] scope none name pos) c.env) m N K := by
  subst hN
  refine ⟨fun h0 tk g Q E hg a k => ?_⟩
  obtain ⟨μ, CC, F, l, Nw, d, nd⟩ := a.ex
  obtain ⟨cp, cr, rfl, d1, d2⟩ := d.split
  obtain ⟨ct, cq, rfl, d3, d4⟩ := d2.split
  refine nestDef_K hd0 hk0 ha ?_
  rw [hq]
  have C' : CodeHd c.h₀ cd P := C.keeps G.B.stays
  have fin : ∀ (f cd' : Addr) (fo : Obj) (ct' : List (Addr × Obj)) (tabs' : Led) (h' : Heap) (tk' : Tok), isClos name qual params body scope clos cd' fo → TabL P pos.line pos.col qual tabs' → (cd', isCode qual) ∈ tabs' → Den ct' tabs' → Fr c.h₀ c.L h' μ → News c.h₀ c.L h' ((f, fo) :: (cp ++ (ct' ++ cq))) →
      (((f, fo) :: (cp ++ (ct' ++ cq))).map (·.1)).Nodup → wpAny c.M c.A (storeName c.env name (.ref f)) (fun _ s'' => Q .next s'') E (c.st h' tk' g) := by
    intro f cd' fo ct' tabs' h' tk' hf hT hm hD F' N' nd'
    exact (h f cd' tabs' hT hm).go h' tk' g _ E hg ⟨μ, _, F', l, N', ⟨rfl, hf, d1.append (hD.append d4)⟩, nd'⟩ fun _ h2 tk2 g2 m2 N2 hg2 a2 q2 => k .next h2 tk2 g2 m2 N2 hg2 a2 q2
  have ndf : ∀ {f : Addr} {l : List (Addr × Obj)}, (∀ q ∈ l, @LT.lt Nat _ q.1 f) → (l.map (·.1)).Nodup → ∀ fo, (((f, fo) :: l).map (·.1)).Nodup := by
    intro f l hl hn fo
    rw [List.map_cons, List.nodup_cons]
    refine ⟨fun hm => ?_, hn⟩
    obtain ⟨q, hq, e⟩ := List.mem_map.mp hm
    exact absurd (hl q hq) (by rw [show q.1 = f from e]; exact Nat.lt_irrefl _)
  cases ht with
  | empty =>
    obtain ⟨o, rfl, e2⟩ := d3.one
    have e2 : o = tabObj #[] := e2
    subst e2
    · have hPn : ∀ q ∈ cp ++ cq, q.1 ≠ P := by
        intro q hq e
        simp only [List.map_append, List.map_cons, List.map_nil, List.nil_append, List.cons_append] at nd
        rcases List.mem_append.mp hq with hq | hq
        · exact (List.nodup_append.mp nd).2.2 q.1 (List.mem_map_of_mem (f := (·.1)) hq) P (.head _) e
        · have m1 := List.mem_map_of_mem (f := (·.1)) hq
          rw [e] at m1
          exact (List.nodup_cons.mp (List.nodup_append.mp nd).2.1).1 m1
      refine nest_K (s := c.st h0 tk g) (ps := #[]) (g := fun o' => cp ++ (P, o') :: cq) F Nw G.T C' hcd (vSto_sound.updF_at (fun q hq => hPn q (List.mem_append_left _ hq)) (fun q hq => hPn q (List.mem_append_right _ hq))) trivial rfl hcl fun f c' oc vs t ctv doc h' tk' F' N' d1' d2' l1 l2 => ?_
      have N2 : News c.h₀ c.L h' ((f, fnMade name qual params body scope clos doc ((c.mg "__name__").getD .none) c' ctv) :: (cp ++ ([(P, tabObj #[rawInt pos.line, rawInt pos.col, .ref c']), (c', oc)] ++ cq))) := by
        intro q hq
        refine N' q ?_
        rcases List.mem_cons.mp hq with rfl | hq
        · exact .head _
        · refine .tail _ ?_
          rcases List.mem_append.mp hq with hq | hq
          · exact .tail _ (List.mem_append_left _ hq)
          · rcases List.mem_cons.mp hq with rfl | hq
            · exact .tail _ (List.mem_append_right _ (.head _))
            · rcases List.mem_cons.mp hq with rfl | hq
              · exact .head _
              · exact .tail _ (List.mem_append_right _ (.tail _ hq))
      refine fin f c' _ [(P, tabObj #[rawInt pos.line, rawInt pos.col, .ref c']), (c', oc)] _ h' tk' ⟨_, _, _, rfl⟩ .full (.tail _ (.head _)) ⟨rfl, rfl, rfl, ⟨vs, t, d1', d2'⟩, trivial⟩ F' N2 (ndf (fun q hq => ?_) ?_ _)
      · rcases List.mem_append.mp hq with hq | hq
        · exact Nat.lt_trans (l1 q (List.mem_append_left _ hq)) l2
        · rcases List.mem_cons.mp hq with rfl | hq
          · exact Nat.lt_trans (l1 (P, tabObj #[]) (List.mem_append_right _ (.head _))) l2
          · rcases List.mem_cons.mp hq with rfl | hq
            · exact l2
            · exact Nat.lt_trans (l1 q (List.mem_append_right _ (.tail _ hq))) l2
      · simp only [List.map_append, List.map_cons, List.map_nil, List.nil_append, List.cons_append] at nd ⊢
        have hn := List.nodup_append.mp nd
        have hc : ∀ x ∈ cp.map (·.1) ++ P :: cq.map (·.1), @LT.lt Nat _ x c' := by
          intro x hx
          rcases List.mem_append.mp hx with hx | hx
          · obtain ⟨q, hq, rfl⟩ := List.mem_map.mp hx
            exact l1 q (List.mem_append_left _ hq)
          · rcases List.mem_cons.mp hx with rfl | hx
            · exact l1 (_, tabObj #[]) (List.mem_append_right _ (.head _))
            · obtain ⟨q, hq, rfl⟩ := List.mem_map.mp hx
              exact l1 q (List.mem_append_right _ (.tail _ hq))
        have hp : (cp.map (·.1) ++ P :: c' :: cq.map (·.1)).Perm (c' :: (cp.map (·.1) ++ P :: cq.map (·.1))) := by
          have := List.perm_middle (a := c') (l₁ := cp.map (·.1) ++ [P]) (l₂ := cq.map (·.1))
          simpa using this
        rw [hp.nodup_iff, List.nodup_cons]
        exact ⟨fun hm => absurd (hc _ hm) (Nat.lt_irrefl _), nd⟩
  | full =>
    rename_i c₂
    obtain ⟨o, oc, rfl, e2, e4⟩ := d3.two
    have e2 : o = tabObj #[rawInt pos.line, rawInt pos.col, .ref c₂] := e2
    subst e2
    · refine nestHit_K (s := c.st h0 tk g) (c' := c₂) F Nw G.T C' hcd (List.mem_append_right _ (.head _)) trivial ?_ hcl fun f ctv doc h' tk' F' N' l1 => ?_
      · show (if ((pos.line : Int) == (pos.line : Int) && (pos.col : Int) == (pos.col : Int)) = true then some (Value.ref c₂) else _) = _
        rw [beq_self_eq_true, beq_self_eq_true]
        rfl
      · exact fin f c₂ _ [(P, tabObj #[rawInt pos.line, rawInt pos.col, .ref c₂]), (c₂, oc)] _ h' tk' ⟨_, _, _, rfl⟩ .full (.tail _ (.head _)) ⟨rfl, rfl, rfl, e4, trivial⟩ F' N' (ndf l1 nd _)
theorem kep_clos {f : Addr} {name qual : Str} {params : Arguments} {body : List Stmt} {scope : Scope} {cl : List (Str × Addr)} {cd : Addr} {N : Led} (hm : (f, isClos name qual params body scope cl cd) ∈ N) : Kep c (.ref f) N := fun f' h m e a => by
  obtain ⟨o, ho, doc, pm, ctv, rfl⟩ := a.get hm
  rw [er_ref e]
  exact keeps_F h ⟨_, _, _, _, ho⟩
theorem ctr_nest {w : World} {dp un : Nat} {f cd : Addr} {args : List Value} {N : Led} {Out : Value → Led → Prop} {name qual : Str} {params : Arguments} {body : List Stmt} {scope : Scope} {cl : List (Str × Addr)} {binds : Loc}
    (hf : (f, isClos name qual params body scope cl cd) ∈ N) (hcd : (cd, isCode qual) ∈ N)
    (hd : dp < 900) (hu : un + 3 ≤ 6000)
    (hb : ∀ (vals : List Value) (s : Shared) (doc pm ctv : Value), vals.map er = args → ∃ bs, BindsTo s (fnX name qual params body scope cl .none .none doc pm none (.ref cd) ctv) ⟨vals, []⟩ bs ∧ bs.map (fun y => (y.1, er y.2)) = binds)
    (hloc : (binds.all fun x => decide (scope.names.lookup x.1 = some .local)) = true) (hcell : ∀ x ∈ scope.names, x.2 ≠ .cell) (hco : scope.isCoroutine = false) (hgen : scope.isGenerator = false) (hkind : scope.kind = .function)
    (H : ∀ c : Cx, Good c → c.w = w → c.cs = scope → c.cl = cl → c.dp ≤ dp + 1 → c.un ≤ un + 3 → Run c erF (execs body c.env) binds.reverse N (fun fl _ N' => ∃ N2 : Led, Pk N' N2 ∧ Out (fv fl) N2)) : Ctr w dp un (.ref f) args N Out := by
  intro c m G hw hdp hun
  subst hw
  refine ⟨kep_clos hf, fun f' vals e1 e2 => ⟨fun h0 tk g Q E hg a k => ?_⟩⟩
  rw [er_ref e1]
  obtain ⟨μ, C, F, l, Nw, d, nd⟩ := a.ex
  obtain ⟨fo, mf, doc, pm, ctv, rfl⟩ := d.mem hf
  obtain ⟨oc, mc, vs, t, d8, d9⟩ := d.mem hcd
  obtain ⟨bs, hb1, hb2⟩ := hb vals (c.st h0 tk g) doc pm ctv e2
  have hloc' : ∀ y ∈ bs, scope.names.lookup y.1 = some .local := fun y hy => locs hloc (y.1, er y.2) (by rw [← hb2]; exact List.mem_map_of_mem (f := fun y : Str × Value => (y.1, er y.2)) hy)
  refine wpAny_call (code_nest (s := c.st h0 tk g) G.B F G.X Nw G.T rfl rfl G.k mf (codeRec_news Nw mc d8 d9) (Nat.lt_of_le_of_lt hdp (Nat.lt_trans hd (by decide))) hb1 hloc' (fun g' L' h₁ FG F' N' B' X' T' => ?_) hco hgen hkind hcell)
  let c' : Cx := { w := c.w, dp := c.dp + 1, un := c.un + 3, gd := c.gd, cn := qual, cs := scope, L := L', a := f, ccd := .ref cd, cl := cl, outer := c.env :: c.outer, A₀ := c.A, base := c.base, h₀ := g', p := c.p, loose := c.loose, mean := c.mean, mg := c.mg, mb := c.mb, s := c.s }
  have G' : Good c' := ⟨B', X', T', hkind, by show c.dp + 1 ≤ 900; omega, by show c.un + 3 ≤ 6000; omega, G.t44, G.t37, G.t126⟩
  have a' : At c' h₁ binds.reverse N := ⟨_, C, F', fun x => by rw [lookup_er, List.map_reverse, hb2], N', d, nd⟩
  refine (H c' G' rfl rfl rfl (by show c.dp + 1 ≤ dp + 1; omega) (by show c.un + 3 ≤ un + 3; omega)).go h₁ _ g _ _ hg a' fun fl h' tk' g2 m' N1 hg2 a1 ⟨N2, pN, o⟩ => ?_
  obtain ⟨μ2, C2, F2, l2, Nw2, d2, nd2⟩ := (a1.pick pN).ex
  refine leaveK_ F2 Nw2 fun F3 N3 => ?_
  have o' : Out (er (fv fl)) N2 := by cases fl <;> exact o
  have q := k (fv fl) h' tk' g2 m N2 hg2 ⟨μ, C2, F3, l, N3, d2, nd2⟩ ⟨rfl, o'⟩
  cases fl <;> exact q
end
end Mine
end
section
open PySem PySem.W PyProof.Rows PySem.Calls
set_option maxRecDepth 100000
namespace Mine
section
variable {c : Cx} {m : Loc} {N : Led} {K : Kv}
theorem bin_sub {a b : Int} (h : K (.int (a - b) 0) m N) : Bin c .Sub (.int a 0) (.int b 0) m N K := ⟨fun v u e1 e2 => by
  obtain ⟨t1, rfl⟩ := er_int e1
  obtain ⟨t2, rfl⟩ := er_int e2
  exact ⟨fun h0 tk g Q E hg a k => sub_int (k _ _ _ g m N hg a h)⟩⟩
theorem bin_mul {a b : Int} (hm : Builtin.Int.intBits a ≤ 64) (h : K (.int (a * b) 0) m N) : Bin c .Mult (.int a 0) (.int b 0) m N K := ⟨fun v u e1 e2 => by
  obtain ⟨t1, rfl⟩ := er_int e1
  obtain ⟨t2, rfl⟩ := er_int e2
  exact ⟨fun h0 tk g Q E hg a k => mul_int (k _ _ _ g m N hg a h) (IntMulOk.of_left hm)⟩⟩
theorem bin_floordiv {a b : Int} (hb : 0 < b) (ha : 0 ≤ a) (hs : a < 18446744073709551616) (hs2 : b < 1073741824) (h : K (.int (a / b) 0) m N) : Bin c .FloorDiv (.int a 0) (.int b 0) m N K := ⟨fun v u e1 e2 => by
  obtain ⟨t1, rfl⟩ := er_int e1
  obtain ⟨t2, rfl⟩ := er_int e2
  exact ⟨fun h0 tk g Q E hg at' k => floordiv_int (by omega) (k _ _ _ g m N hg at' (by rw [Int.fdiv_eq_ediv_of_nonneg _ (Int.le_of_lt hb)]; exact h)) (.inl (PyProof.noPylong_small (by omega)))⟩⟩
theorem bin_half {a : Int} (h : ∀ v, 2 * v ≤ a → a < 2 * v + 2 → K (.int v 0) m N) : Bin c .RShift (.int a 0) (.int 1 0) m N K := ⟨fun v u e1 e2 => by
  obtain ⟨t1, rfl⟩ := er_int e1
  obtain ⟨t2, rfl⟩ := er_int e2
  refine ⟨fun h0 tk g Q E hg at' k => rshift_int (by decide) (k _ _ _ g m N hg at' (h _ ?_ ?_))⟩ <;>
  · rw [show (2 : Int) ^ Int.toNat 1 = 2 from rfl, Int.fdiv_eq_ediv_of_nonneg _ (by decide)]
    omega⟩
theorem bin_shr {a n : Int} (n0 : 0 ≤ n) (h : K (.int (a / 2 ^ n.toNat) 0) m N) : Bin c .RShift (.int a 0) (.int n 0) m N K := ⟨fun v u e1 e2 => by
  obtain ⟨t1, rfl⟩ := er_int e1
  obtain ⟨t2, rfl⟩ := er_int e2
  exact ⟨fun h0 tk g Q E hg at' k => rshift_int n0 (k _ _ _ g m N hg at' (by rw [Int.fdiv_eq_ediv_of_nonneg _ (Int.le_of_lt (Int.pow_pos (by decide)))]; exact h))⟩⟩
theorem bin_shl {a n : Int} (n0 : 0 ≤ n) (n1 : n ≤ 1000) (a1 : a.natAbs < 1099511627776) (h : K (.int (a * 2 ^ n.toNat) 0) m N) : Bin c .LShift (.int a 0) (.int n 0) m N K := ⟨fun v u e1 e2 => by
  obtain ⟨t1, rfl⟩ := er_int e1
  obtain ⟨t2, rfl⟩ := er_int e2
  exact ⟨fun h0 tk g Q E hg at' k => lshift_int_small n0 (by omega) (by omega) (k _ _ _ g m N hg at' h)⟩⟩
theorem bin_xor {a b : Int} (h : K (.int (Builtin.bitXor a b) 0) m N) : Bin c .BitXor (.int a 0) (.int b 0) m N K := ⟨fun v u e1 e2 => by
  obtain ⟨t1, rfl⟩ := er_int e1
  obtain ⟨t2, rfl⟩ := er_int e2
  exact ⟨fun h0 tk g Q E hg at' k => xor_int (k _ _ _ g m N hg at' h)⟩⟩
theorem cmp_eq {a b : Int} (h : K (.bool (a == b)) m N) : Cmp c .Eq (.int a 0) (.int b 0) m N K := ⟨fun v u e1 e2 => by
  obtain ⟨t1, rfl⟩ := er_int e1
  obtain ⟨t2, rfl⟩ := er_int e2
  exact ⟨fun h0 tk g Q E hg a k => eq_int (k _ _ _ g m N hg a h)⟩⟩
theorem tru_int {a : Int} {K : Bool → Loc → Led → Prop} (h : K (a != 0) m N) : Tru c (.int a 0) m N K := ⟨fun v e => by
  obtain ⟨t1, rfl⟩ := er_int e
  exact ⟨fun h0 tk g Q E hg a k => truthy_int (k _ _ _ g m N hg a h)⟩⟩
theorem get_bits {a : Int} {K : Value → List Value → Loc → Led → Prop} (h : K (.builtin "int.bit_length") [.int a 0] m N) : Get c (.int a 0) "bit_length" m N K := ⟨fun o pl e => by
  obtain ⟨t, rfl⟩ := er_int e
  exact ⟨fun h0 tk g Q E hg a k => getMethod_int_bit_length (k _ h0 tk g m N hg a h)⟩⟩
theorem cal_bits {a : Int} (h : K (.int (Builtin.Int.intBits a) 0) m N) : CalW c (.builtin "int.bit_length") [.int a 0] m N K := ⟨kep_builtin, fun f' vs e1 e2 => by
  obtain ⟨v, rfl, h1⟩ := map_one e2
  obtain ⟨t1, rfl⟩ := er_int h1
  rw [er_builtin e1]
  exact ⟨fun h0 tk g Q E hg a k => call_int_bit_length (k _ _ _ g m N hg a h)⟩⟩
theorem foldl_rep (v : Value) : ∀ (k : Nat) (acc : List Value), List.foldl (fun x1 x2 => x1 ++ x2) acc.toArray (List.replicate k #[v]) = (acc ++ List.replicate k v).toArray
  | 0, acc => by simp
  | k + 1, acc => by
    rw [List.replicate_succ, List.foldl_cons]
    have e : acc.toArray ++ #[v] = (acc ++ [v]).toArray := by simp
    rw [e, foldl_rep v k (acc ++ [v]), List.append_assoc]
    rfl
theorem bin_rep {l : Addr} {v : Value} {x : Int} (hl : (l, isL [v]) ∈ N) (h0 : 0 ≤ x) (hx : x ≤ 1000) (h : ∀ D, K (.ref D) m ((D, isL (List.replicate x.toNat v)) :: N)) : Bin c .Mult (.ref l) (.int x 0) m N K := ⟨fun v1 u1 e1 e2 => by
  rw [er_ref e1]
  obtain ⟨t2, rfl⟩ := er_int e2
  refine ⟨fun h0' tk g Q E hg a k => ?_⟩
  obtain ⟨μ, C, F, lk, Nw, d, nd⟩ := a.ex
  obtain ⟨o, mo, us, ep, rfl, eu⟩ := d.mem hl
  obtain ⟨u, rfl, eu2⟩ := map_one eu
  refine mul_list (s := c.st h0' tk g) F Nw (Nw _ mo).1 (by omega) (by omega) (by show 1 * x.toNat ≤ 2 ^ 24; omega) fun h' F' N' => ?_
  have e := foldl_rep u x.toNat []
  rw [List.nil_append] at e
  have e3 : (if (#[u] : Array Value).isEmpty = true then 0 else x.toNat) = x.toNat := rfl
  rw [e3] at N'
  refine k _ h' _ g m ((_, isL (List.replicate x.toNat v)) :: N) hg ⟨μ, _, F', lk, N', ⟨rfl, ⟨List.replicate x.toNat u, 0, by rw [← e], by rw [List.map_replicate, eu2]⟩, d⟩, ?_⟩ (h _)
  rw [List.map_cons, List.nodup_cons]
  refine ⟨fun hm => ?_, nd⟩
  obtain ⟨q, hq, e⟩ := List.mem_map.mp hm
  exact absurd (Heap.lt_size (Nw q hq).1) (by rw [show q.1 = _ from e]; exact Nat.lt_irrefl _)⟩
theorem cal_len_list {l : Addr} {vs : List Value} (hl : (l, isL vs) ∈ N) (hb : vs.length ≤ 1000) (h : K (.int vs.length 0) m N) : CalW c (.builtin "len") [.ref l] m N K := ⟨kep_builtin, fun f' as e1 e2 => by
  obtain ⟨v, rfl, h1⟩ := map_one e2
  rw [er_builtin e1, er_ref h1]
  refine ⟨fun h0 tk g Q E hg a k => ?_⟩
  obtain ⟨o, ho, us, ep, rfl, rfl⟩ := a.get hl
  rw [List.length_map] at hb h
  exact PyProof.Rows.len_list (s := c.st h0 tk g) (items := us.toArray) ⟨_, ho, rfl, ep, rfl⟩ (by rw [List.size_toArray]; omega) (k _ _ _ g m N hg a h)⟩
theorem set_list {l : Addr} {vs : List Value} {g : AO → Led} {k : Int} {v : Value} {K : Loc → Led → Prop} (hp : Pos l (isL vs) N g) (h0 : 0 ≤ k) (h1 : k < vs.length) (hb : vs.length ≤ 1000) (h : K m (g (isL (vs.set k.toNat v)))) : SetI c (.ref l) (.int k 0) v m N K := ⟨fun o i v' e1 e2 e3 => by
  rw [er_ref e1]
  obtain ⟨t2, rfl⟩ := er_int e2
  refine ⟨fun h0' tk gg Q E hg a kk => ?_⟩
  obtain ⟨μ, C, F, lk, Nw, d, nd⟩ := a.ex
  obtain ⟨pre, post, rfl, eg⟩ := hp.split
  obtain ⟨o, mo, us, ep, rfl, rfl⟩ := d.mem (a := l) (P := isL vs) (List.mem_append_right _ (.head _))
  rw [List.length_map] at h1 hb
  refine ki_setAt (s := c.st h0' tk gg) (Nw _ mo).1 h0 (by omega) (by rw [List.size_toArray]; exact h1) (kk () _ _ gg m _ hg (a.upd hp (fun o' ho' hg' => ?_) fun b o' hb' e => ?_) h)
  · rw [(Nw _ mo).1] at hg'
    cases hg'
    refine ⟨_, Heap.get?_update_self _ (Nw _ mo).1 rfl, ⟨us.set k.toNat v', ep, ?_, by rw [List.map_set, e3]⟩⟩
    show Obj.mk _ _ (.seq (us.toArray.setIfInBounds k.toNat v') (if ((us.toArray.setIfInBounds k.toNat v').size == us.toArray.size) = true then ep else ep + 1)) _ = _
    rw [if_pos (by simp), List.setIfInBounds_toArray]
  · exact Heap.get?_update_of_ne _ (Ne.symm hb') e⟩
theorem sub_list {v i : Expr} {l : Addr} {vs : List Value} {k : Int} {x : Value} (hl : (l, isL vs) ∈ N) (h0 : 0 ≤ k) (hfit : k < 1000) (hx : vs[k.toNat]? = some x) (hs : ∀ t, subscripted i false (.ref l) (.int k t) = operate [.ref l, .int k t] (getItem (.ref l) (.int k t))) (hv : ∀ r, letTemporaryGo v (.ref l) r = pure ()) (h : K x m N) : Sub c v i (.ref l) (.int k 0) m N K := ⟨fun o j e1 e2 => by
  rw [er_ref e1]
  obtain ⟨t2, rfl⟩ := er_int e2
  refine ⟨fun h0' tk g Q E hg a kk => ?_⟩
  obtain ⟨o, ho, us, ep, rfl, rfl⟩ := a.get hl
  rw [List.getElem?_map] at hx
  obtain ⟨y, hy, rfl⟩ := Option.map_eq_some_iff.mp hx
  exact item_list (s := c.st h0' tk g) (items := us.toArray) ⟨_, ho, rfl, ep, rfl⟩ h0 (by omega) (by rw [List.getElem?_toArray]; exact hy) (kk _ _ _ g m N hg a h) (hs _) hv⟩
end
end Mine
end
section
open PySem PySem.W PyProof.Rows PySem.Calls
set_option maxRecDepth 100000
namespace Mine
section
variable {c : Cx}
theorem At.permL {h : Heap} {m : Loc} {N N' : Led} {c : Cx} (a : At c h m N) (p : N'.Perm N) : At c h m N' := a.sub ((p.map (·.1)).nodup_iff.mpr a.nodup) fun q hq => p.subset hq
theorem At.imp {c : Cx} {h : Heap} {m : Loc} {a : Addr} {P Q : AO} {N : Led} (x : At c h m ((a, P) :: N)) (hi : ∀ o, h.get? a = some o → P o → Q o) : At c h m ((a, Q) :: N) := by
  obtain ⟨μ, C, F, l, Nw, d, nd⟩ := x.ex
  cases C with
  | nil => exact d.elim
  | cons p C =>
    obtain ⟨e, hP, d⟩ := d
    refine ⟨μ, p :: C, F, l, Nw, ⟨e, hi _ ?_ hP, d⟩, nd⟩
    have := (Nw p (.head _)).1
    rwa [show p.1 = a from e] at this
def Turn (own : Led) (J : Loc → Led → Prop) (K : Kf) (f : Flow) (m : Loc) (N : Led) : Prop := match f with
  | .ret v => K (.ret v) m N
  | .brk => K .next m N
  | _ => ∃ A B, Pk N (A ++ (own ++ B)) ∧ J m (A ++ B)
theorem loop_at {I : Addr} {xs : Led} {n : Nat} {P : Nat → Value → Prop} {St : Nat → Heap → Prop} (W : Walks PG c.w c.A I (I :: xs.map (·.1)) [I] n P St) (hI : ∀ i h, St i h → ∃ o, h.get? I = some o ∧ o.isFreed = false) {t : Expr} {body : List Stmt}
    (hgo : ∀ v (s : Shared) (Q : Unit → Shared → Prop) (E : Value → Shared → Prop), (∃ i, St i s.heap) → Q () s → wpAny c.M c.A (letOwnedTupleGo t (.ref I) v) Q E s)
    (hraw : ∀ q ∈ xs, ∃ o, q.2 = isRaw o) {m : Loc} {N : Led} {K : Kf} (J : Nat → Loc → Led → Prop) {h0 : Heap} {tk : Tok} {g : Array GenState} {Q : Flow → Shared → Prop} {E : Value → Shared → Prop}
    (hg : AllBare g) (a : At c h0 m ((I, fun _ => True) :: (xs ++ N))) (hst : St 0 h0) (hJ : J 0 m N)
    (turn : ∀ i v m N oI, i < n → P i v → J i m N → Run c id (assign t c.env v) m ((I, isRaw oI) :: (xs ++ N)) (fun _ m N' => Run c erF (execs body c.env) m N' (Turn ((I, isRaw oI) :: xs) (J (i + 1)) K)))
    (done : ∀ m N, J n m N → K .next m (xs ++ N))
    (k : ∀ f h' tk' g' m' N', AllBare g' → At c h' m' N' → K (erF f) m' N' → Q f (c.st h' tk' g')) :
    codeAny c.M c.A (.forLoop t (.ref I) body [] c.env) (fun r s' => match r with | .ok f => Q f s' | .error e => cameBackBy c.M c.A c.env E e s') (c.st h0 tk g) := by
  refine codeAny_forLoop_any (fun j s' => ∃ h tk g m N i, s' = c.st h tk g ∧ AllBare g ∧ St i h ∧ At c h m ((I, fun _ => True) :: (xs ++ N)) ∧ J i m N ∧ i ≤ n ∧ j = n + 1 - i) ?_ (n + 1) ⟨h0, tk, g, m, N, 0, rfl, hg, hst, a, hJ, Nat.zero_le _, rfl⟩
  rintro j s' ⟨h, tk, g, m, N, i, rfl, hg, hst, a, hJ, hi, rfl⟩
  have moved : ∀ {h₁ : Heap} {oI : Obj} {P' : AO}, h₁.get? I = some oI → P' oI → (∀ b o, b ∉ [I] → h.get? b = some o → h₁.get? b = some o) → At c h₁ m ((I, P') :: (xs ++ N)) := by
    intro h₁ oI P' ho hP hk
    exact a.upd (Q := P') Pos.head (fun o _ _ => ⟨oI, ho, hP⟩) fun b o hb e => hk b o (fun q => hb (List.mem_singleton.mp q)) e
  by_cases hlt : i < n
  · refine W.item i _ _ _ hlt hst fun v h₁ tk₁ hP hst₁ hk₁ => ?_
    refine hgo v _ _ _ ⟨_, hst₁⟩ ?_
    obtain ⟨oI, ho, _⟩ := hI _ _ hst₁
    have a₁ := moved (P' := isRaw oI) ho rfl hk₁
    refine (turn i v m N oI hlt hP hJ).go h₁ tk₁ g _ _ hg a₁ fun _ h₂ tk₂ g₂ m₂ N₂ hg₂ a₂ q₂ => q₂.go h₂ tk₂ g₂ _ _ hg₂ a₂ fun f h₃ tk₃ g₃ m₃ N₃ hg₃ a₃ q₃ => ?_
    have fin : (∃ A B, Pk N₃ (A ++ (((I, isRaw oI) :: xs) ++ B)) ∧ J (i + 1) m₃ (A ++ B)) → ∃ j', j' < n + 1 - i ∧ ∃ h tk g m N i, c.st h₃ tk₃ g₃ = c.st h tk g ∧ AllBare g ∧ St i h ∧ At c h m ((I, fun _ => True) :: (xs ++ N)) ∧ J i m N ∧ i ≤ n ∧ j' = n + 1 - i := by
      rintro ⟨A, B, pk, hJ'⟩
      have a₄ := (a₃.pick pk).permL (N' := (I, isRaw oI) :: (xs ++ (A ++ B))) (by
        have p1 : (A ++ (((I, isRaw oI) :: xs) ++ B)).Perm (((I, isRaw oI) :: xs) ++ (A ++ B)) := by
          rw [← List.append_assoc, ← List.append_assoc]
          exact (List.perm_append_comm (l₁ := A) (l₂ := (I, isRaw oI) :: xs)).append_right B
        exact p1.symm)
      refine ⟨n + 1 - (i + 1), by omega, h₃, tk₃, g₃, m₃, A ++ B, i + 1, rfl, hg₃, ?_, a₄.imp fun _ _ _ => trivial, hJ', hlt, rfl⟩
      refine W.frame _ _ _ hst₁ fun b hb o e => ?_
      rcases List.mem_cons.mp hb with rfl | hb
      · rw [ho] at e; cases e
        obtain ⟨o', e1, e2⟩ := a₄.get (.head _)
        rw [e1, show o' = oI from e2]
      · obtain ⟨q, hq, rfl⟩ := List.mem_map.mp hb
        obtain ⟨ob, eb⟩ := hraw q hq
        obtain ⟨o1, e1, e2⟩ := a₁.get (a := q.1) (P := q.2) (.tail _ (List.mem_append_left _ hq))
        obtain ⟨o2, e3, e4⟩ := a₄.get (a := q.1) (P := q.2) (.tail _ (List.mem_append_left _ hq))
        rw [eb] at e2 e4
        rw [e] at e1
        cases e1
        rw [e3, show o2 = ob from e4, show o = ob from e2]
    cases f with
    | ret v => exact k _ _ _ _ _ _ hg₃ a₃ q₃
    | brk => exact k .next _ _ _ _ _ hg₃ a₃ q₃
    | cont => exact fin q₃
    | next => exact fin q₃
  · have hin : i = n := by omega
    subst hin
    refine W.done _ _ _ hst fun h₁ tk₁ hk₁ => wpAny_execs_nil ?_
    obtain ⟨oI, ho, _⟩ := a.get (.head _)
    have a₁ : At c h₁ m (xs ++ N) := by
      have aa : At c h m (xs ++ N) := a.pick (.drop .all)
      obtain ⟨μ, C, F, l, Nw, d, nd⟩ := a.ex
      cases C with
      | nil => exact d.elim
      | cons p C =>
        rw [List.map_cons, List.nodup_cons] at nd
        have hpI : p.1 = I := d.1
        have nI := Nw p (.head _)
        have hk' : ∀ b o, b ≠ I → h.get? b = some o → h₁.get? b = some o := fun b o hb e => hk₁ b o (fun q => hb (List.mem_singleton.mp q)) e
        refine ⟨μ, C, ⟨F.ns.at' fun o e => hk' _ o (by rw [← hpI]; exact nI.2.1.symm) e, fun b o e => hk' b o (fun q => ?_) (F.keep b o e), F.above⟩, l, fun q hq => ⟨hk' _ _ (fun z => ?_) (Nw q (.tail _ hq)).1, (Nw q (.tail _ hq)).2⟩, d.2.2, nd.2⟩
        · have := nI.2.2
          rw [hpI, ← q, e] at this
          cases this
        · exact nd.1 (by rw [hpI, ← z]; exact List.mem_map_of_mem (f := (·.1)) hq)
    exact k .next _ _ _ _ _ hg a₁ (done m N hJ)
end
end Mine
end
section
open PySem PySem.W PyProof.Rows PySem.Calls
set_option maxRecDepth 100000
namespace Mine
def isRange (n : Int) : AO := fun o => ∃ t u v, o = { cls := .type "range", dict := none, data := .fields #[.int 0 t, .int n u, .int 1 v], slots := #[] }
def isRev (l : Addr) (k : Int) : AO := fun o => o = revObj l k
section
variable {c : Cx}
theorem go_pure {t : Expr} {it v : Value} {s : Shared} {Q : Unit → Shared → Prop} {E : Value → Shared → Prop} (h : letOwnedTupleGo t it v = pure ()) (hQ : Q () s) : wpAny c.M c.A (letOwnedTupleGo t it v) Q E s := by
  rw [h]; exact wpAny_pure hQ
theorem go_list {t : Expr} {I l : Addr} {i : Nat} {v : Value} {s : Shared} {Q : Unit → Shared → Prop} {E : Value → Shared → Prop} (hit : s.heap.IsListIter I l i) (hQ : Q () s) (ht : (∃ es x p, t = .Tuple es x p) ∨ letOwnedTupleGo t (.ref I) v = pure ()) : wpAny c.M c.A (letOwnedTupleGo t (.ref I) v) Q E s := by
  rcases ht with ⟨es, x, p, rfl⟩ | h
  · cases v with
    | ref a => exact wpAny_letOwnedTupleGo_listiter hit hQ
    | _ => exact go_pure rfl hQ
  · exact go_pure h hQ
theorem cx_handled (c : Cx) : c.A.handled = none := rfl
theorem Turn.mono {own : Led} {J : Loc → Led → Prop} {K K' : Kf} (h : ∀ f m N, K f m N → K' f m N) {f : Flow} {m : Loc} {N : Led} (t : Turn own J K f m N) : Turn own J K' f m N := by
  cases f with
  | ret v => exact h _ _ _ t
  | brk => exact h _ _ _ t
  | next => exact t
  | cont => exact t
theorem get_push {h : Heap} {a : Addr} {o o' : Obj} (e : h.get? a = some o) : (h.push o').get? a = some o := by
  rw [Heap.get?_push_ne _ _ _ (Nat.ne_of_lt (Heap.lt_size e))]; exact e
theorem for_list {t : Expr} {body : List Stmt} {l : Addr} {vs : List Value} {m : Loc} {N N0 : Led} {K : Kf} (pk : Pk N ((l, isL vs) :: N0)) (J : Nat → Loc → Led → Prop)
    (ht : (∃ es x p, t = .Tuple es x p) ∨ ∀ it v, letOwnedTupleGo t it v = pure ()) (hJ : J 0 m N0)
    (turn : ∀ i v m N I oI lo, vs[i]? = some (er v) → J i m N → Run c id (assign t c.env v) m ((I, isRaw oI) :: (l, isRaw lo) :: N) (fun _ m N' => Run c erF (execs body c.env) m N' (Turn [(I, isRaw oI), (l, isRaw lo)] (J (i + 1)) K)))
    (done : ∀ m N, J vs.length m N → K .next m ((l, isL vs) :: N)) : ForI c t body (.ref l) m N K := by
  refine ⟨fun x' h tk g Q E e hg a k => ?_⟩
  rw [er_ref e]
  have a := a.pick pk
  obtain ⟨lo, ho, cs, ep, elo, ecs⟩ := a.get (.head _)
  have hl : (c.st h tk g).heap.IsList l cs.toArray := ⟨lo, ho, by rw [elo], ep, by rw [elo]⟩
  refine wpAny_pyIter_list hl ?_
  have a1 : At c (h.push { cls := .type "list_iterator", data := .fields #[.ref l, .int 0 0] }) m ((h.objs.size, fun _ => True) :: ([(l, isRaw lo)] ++ N0)) :=
    (a.imp (Q := isRaw lo) fun o e _ => by rw [ho] at e; exact (Option.some.inj e).symm).push trivial
  have ne : l ≠ h.objs.size := fun e => absurd (Heap.lt_size ho) (by rw [e]; exact Nat.lt_irrefl _)
  have hlen : cs.toArray.size = vs.length := by rw [← ecs, List.length_map, List.size_toArray]
  refine loop_at (xs := [(l, isRaw lo)]) (n := cs.toArray.size) (K := fun f m N => K f m N ∨ (∃ N3, N = (l, isRaw lo) :: N3 ∧ f = .next ∧ K f m ((l, isL vs) :: N3))) (Walks.list (cx_handled c) h.objs.size l ne cs.toArray) (fun i h' st => ?_) (fun v s Q E st q => ?_) (fun q hq => ?_) J hg a1 ⟨⟨_, Heap.get?_push_size _ rfl, rfl, rfl⟩, lo, get_push ho, by rw [elo], ep, by rw [elo]⟩ hJ (fun i v m N oI hi hv hj => ?_) (fun m N hj => ?_) (fun f h' tk' g' m' N' hg' a' q => ?_)
  · obtain ⟨o, e1, e2, e3⟩ := st.1
    exact ⟨o, e1, Obj.isFreed_of_fields e3⟩
  · obtain ⟨i, st⟩ := st
    exact go_list st.1 q (ht.imp id fun h => h _ _)
  · rw [List.mem_singleton.mp hq]; exact ⟨lo, rfl⟩
  · refine (turn i v m N h.objs.size oI lo ?_ hj).mono fun _ m N' r => r.mono fun f m N t => t.mono fun _ _ _ h => .inl h
    rw [← ecs, List.getElem?_map]
    rw [show cs.toArray[i]? = cs[i]? from List.getElem?_toArray] at hv
    rw [hv]; rfl
  · exact .inr ⟨N, rfl, rfl, done m N (hlen ▸ hj)⟩
  · rcases q with q | ⟨N3, rfl, ef, q⟩
    · exact k _ _ _ _ _ _ hg' a' q
    · exact k _ _ _ _ _ _ hg' (a'.imp fun o _ e => ⟨cs, ep, by rw [← elo]; exact e, ecs⟩) q
theorem for_str {t : Expr} {body : List Stmt} {x : Str} {m : Loc} {N : Led} {K : Kf} (J : Nat → Loc → Led → Prop)
    (ht : ∀ it v, letOwnedTupleGo t it v = pure ()) (hJ : J 0 m N)
    (turn : ∀ i ch v m N I oI, x.cps[i]? = some ch → er v = .str ⟨#[ch]⟩ 0 → J i m N → Run c id (assign t c.env v) m ((I, isRaw oI) :: N) (fun _ m N' => Run c erF (execs body c.env) m N' (Turn [(I, isRaw oI)] (J (i + 1)) K)))
    (done : ∀ m N, J x.cps.size m N → K .next m N) : ForI c t body (.str x 0) m N K := by
  refine ⟨fun x' h tk g Q E e hg a k => ?_⟩
  obtain ⟨u, rfl⟩ := er_str e
  cases ha : x.cps.all (· < 128)
  · refine wpAny_pyIter_wide ha ?_
    have a1 : At c (h.push { cls := .type "str_iterator", data := .fields #[.str x u, .int 0 0] }) m ((h.objs.size, fun _ => True) :: ([] ++ N)) := a.push trivial
    refine loop_at (xs := []) (K := K) (Walks.strWide (cx_handled c) h.objs.size x u) (fun i h' st => ?_) (fun v s Q E st q => go_pure (ht _ _) q) (fun q hq => nomatch hq) J hg a1 ⟨_, Heap.get?_push_size _ rfl, rfl, rfl⟩ hJ (fun i v m N oI hi hv hj => ?_) (fun m N hj => done m N hj) k
    · obtain ⟨o, e1, e2, e3⟩ := st
      exact ⟨o, e1, Obj.isFreed_of_fields e3⟩
    · obtain ⟨ch, u', e1, rfl⟩ := hv
      exact turn i ch _ m N h.objs.size oI e1 rfl hj
  · refine wpAny_pyIter_ascii ha ?_
    have a1 : At c (h.push { cls := .type "str_ascii_iterator", data := .fields #[.str x u, .int 0 0] }) m ((h.objs.size, fun _ => True) :: ([] ++ N)) := a.push trivial
    refine loop_at (xs := []) (K := K) (Walks.strAscii (cx_handled c) h.objs.size x u) (fun i h' st => ?_) (fun v s Q E st q => go_pure (ht _ _) q) (fun q hq => nomatch hq) J hg a1 ⟨_, Heap.get?_push_size _ rfl, rfl, rfl⟩ hJ (fun i v m N oI hi hv hj => ?_) (fun m N hj => done m N hj) k
    · obtain ⟨o, e1, e2, e3⟩ := st
      exact ⟨o, e1, Obj.isFreed_of_fields e3⟩
    · obtain ⟨ch, u', e1, rfl⟩ := hv
      exact turn i ch _ m N h.objs.size oI e1 rfl hj
theorem cal_range {n : Int} {m : Loc} {N : Led} {K : Kv} (h : ∀ r, K (.ref r) m ((r, isRange n) :: N)) : CalW c (.type "range") [.int n 0] m N K := by
  refine ⟨kep_type, fun f' args' e1 e2 => ⟨fun h0 tk g Q E hg a k => ?_⟩⟩
  obtain ⟨v, rfl, e3⟩ := map_one e2
  rw [er_type e1]
  obtain ⟨u, rfl⟩ := er_int e3
  exact call_range_1 (k _ _ _ _ _ _ hg (a.push ⟨_, _, _, rfl⟩) (h _))
theorem for_range {t : Expr} {body : List Stmt} {l : Addr} {n : Nat} {m : Loc} {N N0 : Led} {K : Kf} (pk : Pk N ((l, isRange (n : Int)) :: N0)) (hn : n < 2 ^ 62) (J : Nat → Loc → Led → Prop)
    (ht : ∀ it v, letOwnedTupleGo t it v = pure ()) (hJ : J 0 m N0)
    (turn : ∀ (i : Nat) v m N I oI, i < n → er v = .int (i : Int) 0 → J i m N → Run c id (assign t c.env v) m ((I, isRaw oI) :: N) (fun _ m N' => Run c erF (execs body c.env) m N' (Turn [(I, isRaw oI)] (J (i + 1)) K)))
    (done : ∀ m N, J n m N → K .next m N) : ForI c t body (.ref l) m N K := by
  refine ⟨fun x' h tk g Q E e hg a k => ?_⟩
  rw [er_ref e]
  have a := a.pick pk
  obtain ⟨lo, ho, t0, u0, v0, rfl⟩ := a.get (.head _)
  refine wpAny_pyIter_range ho (small_one (by omega) (by omega) (by omega) (by omega)) ?_
  rw [rangeSize_one]
  have e9 : (if (0 : Int) < (n : Int) then (n : Int) - 0 else 0) = (n : Int) := by split <;> omega
  rw [e9]
  have a1 : At c (h.push { cls := .type "range_iterator", data := .fields #[rawInt 0, rawInt n, rawInt 1] }) m ((h.objs.size, fun _ => True) :: ([] ++ N0)) := (a.pick (.drop .all)).push trivial
  have W := Walks.range (prog := PG) (w := c.w) (cx_handled c) h.objs.size 0 1 n
  refine loop_at (xs := []) (K := K) W (fun i h' st => ?_) (fun v s Q E st q => go_pure (ht _ _) q) (fun q hq => nomatch hq) J hg a1 ?_ hJ (fun i v m N oI hi hv hj => ?_) (fun m N hj => done m N hj) k
  · exact ⟨_, st, rfl⟩
  · have e1 : (0 : Int) + ((0 : Nat) : Int) * 1 = 0 := rfl
    have e2 : (n : Int) - ((0 : Nat) : Int) = n := by omega
    show IsRangeIter _ _ _ _ _
    rw [e1, e2]
    exact Heap.get?_push_size _ rfl
  · obtain ⟨u, rfl⟩ := hv
    exact turn i _ m N h.objs.size oI hi (by rw [show (0 : Int) + (i : Int) * 1 = i by omega]; rfl) hj
theorem cal_reversed {l : Addr} {vs : List Value} {m : Loc} {N : Led} {K : Kv} (hm : (l, isL vs) ∈ N) (h : ∀ r, K (.ref r) m ((r, isRev l ((vs.length : Int) - 1)) :: N)) : CalW c (.type "reversed") [.ref l] m N K := by
  refine ⟨kep_type, fun f' args' e1 e2 => ⟨fun h0 tk g Q E hg a k => ?_⟩⟩
  obtain ⟨v, rfl, e3⟩ := map_one e2
  rw [er_type e1, er_ref e3]
  obtain ⟨lo, ho, cs, ep, elo, ecs⟩ := a.get hm
  have hl : (c.st h0 tk g).heap.IsList l cs.toArray := ⟨lo, ho, by rw [elo], ep, by rw [elo]⟩
  refine call_reversed_list hl ?_
  have e9 : (cs.toArray.size : Int) - 1 = (vs.length : Int) - 1 := by rw [← ecs, List.length_map, List.size_toArray]
  rw [e9]
  exact k _ _ _ _ _ _ hg (a.push (P := isRev l ((vs.length : Int) - 1)) rfl) (h _)
theorem for_rev {t : Expr} {body : List Stmt} {r l : Addr} {vs : List Value} {m : Loc} {N N0 : Led} {K : Kf} (pk : Pk N ((r, isRev l ((vs.length : Int) - 1)) :: (l, isL vs) :: N0)) (J : Nat → Loc → Led → Prop)
    (ht : ∀ it v, letOwnedTupleGo t it v = pure ()) (hJ : J 0 m N0)
    (turn : ∀ i v m N I oI lo, vs[vs.length - 1 - i]? = some (er v) → i < vs.length → J i m N → Run c id (assign t c.env v) m ((I, isRaw oI) :: (l, isRaw lo) :: N) (fun _ m N' => Run c erF (execs body c.env) m N' (Turn [(I, isRaw oI), (l, isRaw lo)] (J (i + 1)) K)))
    (done : ∀ m N, J vs.length m N → K .next m ((l, isL vs) :: N)) : ForI c t body (.ref r) m N K := by
  refine ⟨fun x' h tk g Q E e hg a k => ?_⟩
  rw [er_ref e]
  have a := a.pick pk
  obtain ⟨ro, hr, rfl⟩ := a.get (.head _)
  obtain ⟨lo, ho, cs, ep, elo, ecs⟩ := a.get (.tail _ (.head _))
  have hl : (c.st h tk g).heap.IsList l cs.toArray := ⟨lo, ho, by rw [elo], ep, by rw [elo]⟩
  have hit : (c.st h tk g).heap.IsRevIter r l ((vs.length : Int) - 1) := ⟨_, hr, rfl, rfl⟩
  refine wpAny_pyIter_revIter hit ?_
  have ne : l ≠ r := by
    have := a.nodup
    rw [List.map_cons, List.nodup_cons] at this
    exact fun e => this.1 (by rw [← e]; exact .head _)
  have hlen : cs.toArray.size = vs.length := by rw [← ecs, List.length_map, List.size_toArray]
  have a1 : At c h m ((r, fun _ => True) :: ([(l, isRaw lo)] ++ N0)) := by
    have a2 : At c h m ((r, fun _ => True) :: (l, isL vs) :: N0) := a.imp fun _ _ _ => trivial
    have a3 := ((a2.permL (List.Perm.swap _ _ _)).imp (Q := isRaw lo) fun o e _ => by rw [ho] at e; exact (Option.some.inj e).symm)
    exact a3.permL (List.Perm.swap _ _ _)
  refine loop_at (xs := [(l, isRaw lo)]) (n := cs.toArray.size) (K := fun f m N => K f m N ∨ (∃ N3, N = (l, isRaw lo) :: N3 ∧ f = .next ∧ K f m ((l, isL vs) :: N3))) (Walks.listRev (cx_handled c) r l ne cs.toArray) (fun i h' st => ?_) (fun v s Q E st q => go_pure (ht _ _) q) (fun q hq => ?_) J hg a1 ⟨Nat.zero_le _, ?_, hl⟩ hJ (fun i v m N oI hi hv hj => ?_) (fun m N hj => ?_) (fun f h' tk' g' m' N' hg' a' q => ?_)
  · obtain ⟨o, e1, e2, e3⟩ := st.2.1
    exact ⟨o, e1, Obj.isFreed_of_fields e3⟩
  · rw [List.mem_singleton.mp hq]; exact ⟨lo, rfl⟩
  · rw [hlen]
    have e9 : (vs.length : Int) - 1 - ((0 : Nat) : Int) = (vs.length : Int) - 1 := by omega
    rw [e9]; exact hit
  · refine (turn i v m N r oI lo ?_ (hlen ▸ hi) hj).mono fun _ m N' r => r.mono fun f m N t => t.mono fun _ _ _ h => .inl h
    rw [hlen] at hv
    rw [← ecs, List.getElem?_map]
    rw [← ecs] at hv
    rw [show ∀ j, cs.toArray[j]? = cs[j]? from fun j => List.getElem?_toArray] at hv
    rw [hv]; rfl
  · exact .inr ⟨N, rfl, rfl, done m N (hlen ▸ hj)⟩
  · rcases q with q | ⟨N3, rfl, ef, q⟩
    · exact k _ _ _ _ _ _ hg' a' q
    · exact k _ _ _ _ _ _ hg' (a'.imp fun o _ e => ⟨cs, ep, by rw [← elo]; exact e, ecs⟩) q
end
end Mine
end
section
open PySem PySem.W PyProof.Rows PySem.Calls
set_option maxRecDepth 100000
namespace Mine
section
variable {c : Cx} {m : Loc} {N : Led} {K : Kv}
theorem tru_list {l : Addr} {vs : List Value} {K : Bool → Loc → Led → Prop} (hl : (l, isL vs) ∈ N) (hb : vs.length ≤ 1000) (h : K (!vs.isEmpty) m N) : Tru c (.ref l) m N K := ⟨fun v e => by
  rw [er_ref e]
  refine ⟨fun h0 tk g Q E hg a k => ?_⟩
  obtain ⟨o, ho, us, ep, rfl, rfl⟩ := a.get hl
  rw [List.length_map] at hb
  refine wpAny_truthy_list (s := c.st h0 tk g) (items := us.toArray) ⟨_, ho, rfl, ep, rfl⟩ (by rw [List.size_toArray]; omega) (k _ _ _ g m N hg a ?_)
  rw [List.isEmpty_toArray]
  rwa [List.isEmpty_map] at h⟩
end
end Mine
end
section
open PySem PySem.W PyProof.Rows PySem.Calls
set_option maxRecDepth 100000
namespace Mine
section
variable {c : Cx} {m : Loc} {N : Led} {K : Kv}
theorem cmp_le {a b : Int} (h : K (.bool (decide (a ≤ b))) m N) : Cmp c .LtE (.int a 0) (.int b 0) m N K := ⟨fun v u e1 e2 => by
  obtain ⟨t1, rfl⟩ := er_int e1
  obtain ⟨t2, rfl⟩ := er_int e2
  exact ⟨fun h0 tk g Q E hg a k => le_int (k _ _ _ g m N hg a h)⟩⟩
theorem cmp_lt {a b : Int} (h : K (.bool (decide (a < b))) m N) : Cmp c .Lt (.int a 0) (.int b 0) m N K := ⟨fun v u e1 e2 => by
  obtain ⟨t1, rfl⟩ := er_int e1
  obtain ⟨t2, rfl⟩ := er_int e2
  exact ⟨fun h0 tk g Q E hg a k => PyProof.Rows.lt_int (k _ _ _ g m N hg a h)⟩⟩
theorem cmp_gt {a b : Int} (h : K (.bool (decide (b < a))) m N) : Cmp c .Gt (.int a 0) (.int b 0) m N K := ⟨fun v u e1 e2 => by
  obtain ⟨t1, rfl⟩ := er_int e1
  obtain ⟨t2, rfl⟩ := er_int e2
  exact ⟨fun h0 tk g Q E hg a k => PyProof.Rows.gt_int (k _ _ _ g m N hg a h)⟩⟩
theorem un_neg {a : Int} (h : K (.int (-a) 0) m N) : Unr c .USub (.int a 0) m N K := ⟨fun v e1 => by
  obtain ⟨t1, rfl⟩ := er_int e1
  exact ⟨fun h0 tk g Q E hg a k => PyProof.Rows.neg_int (k _ _ _ g m N hg a h)⟩⟩
theorem cal_divmod {a b : Int} (hb : 0 < b) (ha : 0 ≤ a) (hs : a < 18446744073709551616) (hs2 : b < 1073741824) (h : ∀ t, K (.ref t) m ((t, isT [.int (a / b) 0, .int (a % b) 0]) :: N)) : CalW c (.builtin "divmod") [.int a 0, .int b 0] m N K := ⟨kep_builtin, fun f' vs e1 e2 => by
  obtain ⟨v, u, rfl, h1, h2⟩ := map_two e2
  rw [er_builtin e1]
  obtain ⟨t1, rfl⟩ := er_int h1
  obtain ⟨t2, rfl⟩ := er_int h2
  exact ⟨fun h0 tk g Q E hg at' k => divmod_int (by omega) (k _ _ _ g m _ hg (at'.push ⟨[_, _], 0, rfl, by rw [Int.fdiv_eq_ediv_of_nonneg _ (Int.le_of_lt hb), Int.fmod_eq_emod_of_nonneg _ (Int.le_of_lt hb)]; rfl⟩) (h _)) (.inl (PyProof.noPylong_small (by omega)))⟩⟩
theorem get_list {l : Addr} {vs : List Value} {y : Str} {id : String} {K : Value → List Value → Loc → Led → Prop} (hm : (l, isL vs) ∈ N) (slot : Slot "list" y id) (hty : typeOf (.builtin id) = pure (.type "method_descriptor")) (h : K (.builtin id) [.ref l] m N) : Get c (.ref l) y m N K := ⟨fun o pl e => by
  rw [er_ref e]
  refine ⟨fun h0 tk g Q E hg a k => ?_⟩
  obtain ⟨o, ho, us, ep, rfl, rfl⟩ := a.get hm
  exact getMethod_builtin ⟨_, ho, rfl⟩ PySem.F.plainAttrs_list slot hty (fun a e => by cases e; exact ⟨_, ho, rfl⟩) (k _ h0 tk g m N hg a h)⟩
theorem pos_get {h : Heap} {l : Addr} {P : AO} {g : AO → Led} (a : At c h m N) (hp : Pos l P N g) : ∃ o, h.get? l = some o ∧ P o := by
  obtain ⟨pre, post, rfl, eg⟩ := hp.split
  exact a.get (List.mem_append_right _ (.head _))
theorem upd_list {h0 : Heap} {l : Addr} {us : List Value} {ep : Nat} {g : AO → Led} {vs : List Value} {f : Array Value → Array Value} {ws : List Value} (a : At c h0 m N) (hp : Pos l (isL vs) N g) (ho : h0.get? l = some (listOf us.toArray ep)) (hf : (f us.toArray).toList.map er = ws) : At c (h0.update l (Obj.mapSeq f)) m (g (isL ws)) := by
  refine a.upd hp (fun o' _ hg' => ?_) fun b o' hb' e => Heap.get?_update_of_ne _ (Ne.symm hb') e
  rw [ho] at hg'
  cases hg'
  refine ⟨_, Heap.get?_update_self _ ho rfl, (f us.toArray).toList, if (f us.toArray).size == us.toArray.size then ep else ep + 1, ?_, hf⟩
  rw [Array.toArray_toList]
  rfl
theorem cal_append {l : Addr} {vs : List Value} {v : Value} {g : AO → Led} (hp : Pos l (isL vs) N g) (hb : vs.length ≤ 1000) (h : K .none m (g (isL (vs ++ [v])))) : CalW c (.builtin "list.append") [.ref l, v] m N K := ⟨kep_builtin, fun f' as e1 e2 => by
  obtain ⟨x, u, rfl, h1, h2⟩ := map_two e2
  rw [er_builtin e1, er_ref h1]
  refine ⟨fun h0 tk gg Q E hg a k => ?_⟩
  obtain ⟨o, ho, us, ep, rfl, rfl⟩ := pos_get a hp
  rw [List.length_map] at hb
  refine call_meets PySem.F.slot_list_append ⟨_, ho, rfl⟩ PySem.F.entry_list_append (PySem.F.args_list_append_2 _ _) (PySem.list_append l us.toArray ep u (by rw [List.size_toArray, sizeLine_eq]; omega)) ⟨ho, ?_⟩
  exact k _ _ _ _ _ _ hg (upd_list a hp ho (by rw [Array.toList_push, List.map_append, ← h2]; rfl)) h⟩
theorem cal_reverse {l : Addr} {vs : List Value} {g : AO → Led} (hp : Pos l (isL vs) N g) (hb : vs.length ≤ 1000) (h : K .none m (g (isL vs.reverse))) : CalW c (.builtin "list.reverse") [.ref l] m N K := ⟨kep_builtin, fun f' as e1 e2 => by
  obtain ⟨x, rfl, h1⟩ := map_one e2
  rw [er_builtin e1, er_ref h1]
  refine ⟨fun h0 tk gg Q E hg a k => ?_⟩
  obtain ⟨o, ho, us, ep, rfl, rfl⟩ := pos_get a hp
  rw [List.length_map] at hb
  refine call_meets PySem.F.slot_list_reverse ⟨_, ho, rfl⟩ PySem.F.entry_list_reverse (PySem.F.args_list_reverse_1 _) (AutoSeq1.list_reverse_list_0 l us.toArray ep (by rw [List.size_toArray, sizeLine_eq]; omega)) ⟨ho, ?_⟩
  exact k _ _ _ _ _ _ hg (upd_list a hp ho (by rw [Array.toList_reverse, List.map_reverse])) h⟩
theorem bin_addlist {l b : Addr} {vs us : List Value} (hl : (l, isL vs) ∈ N) (hb : (b, isL us) ∈ N) (hz : vs.length + us.length ≤ 1000) (h : ∀ D, K (.ref D) m ((D, isL (vs ++ us)) :: N)) : Bin c .Add (.ref l) (.ref b) m N K := ⟨fun v u e1 e2 => by
  rw [er_ref e1, er_ref e2]
  refine ⟨fun h0 tk gg Q E hg a k => ?_⟩
  obtain ⟨o1, ho1, us1, ep1, rfl, rfl⟩ := a.get hl
  obtain ⟨o2, ho2, us2, ep2, rfl, rfl⟩ := a.get hb
  rw [List.length_map, List.length_map] at hz
  exact PySem.P.add_list ho1 ho2 (k _ _ _ gg m _ hg (a.push ⟨us1 ++ us2, 0, by rw [← List.append_toArray], List.map_append⟩) (h _)) (by rw [List.size_toArray, List.size_toArray, sizeLine_eq]; omega)⟩
end
end Mine
end
section
open PySem PySem.W PyProof.Rows PySem.Calls
set_option maxRecDepth 100000
namespace Mine
def isNs (mm : Loc) : AO := fun o => ∃ (es : Array DictEntry) (ep : Nat) (μ : Str → Option Value), o.data = .dict es ep ∧ StrKeys es ∧ (∀ name, nsFind es name = μ name) ∧ ∀ x, (μ x).map er = mm.lookup x
theorem isNs_of {h : Heap} {a : Addr} {μ : Str → Option Value} {mm : Loc} (hn : h.Ns a μ) (l : ∀ x, (μ x).map er = mm.lookup x) : ∃ o, h.get? a = some o ∧ isNs mm o :=
  let ⟨o, es, ep, h1, h2, h3, h4⟩ := hn; ⟨o, h1, es, ep, μ, h2, h3, h4, l⟩
def vNameC (ns : List (Str × NameKind)) (C : Addr) (cl : List (Str × Addr)) (x : Str) (m : Loc) (N : Led) (K : Kv) : Prop := match ns.lookup x with
  | some .local => ∃ mm v, (C, isNs mm) ∈ N ∧ mm.lookup x = some v ∧ K v m N
  | some .cell => match cl.lookup x with
    | some a => ∃ v, (a, isCell (some v)) ∈ N ∧ K v m N
    | none => False
  | some .free => match cl.lookup x with
    | some a => ∃ v, (a, isCell (some v)) ∈ N ∧ K v m N
    | none => False
  | _ => False
theorem codeAny_compLoopG {prog : Program} {w : World} {A : Around} {s : Shared} {elt target iter : Expr} {scope : Scope} {pos : PySem.Pos} {it acc : Value} {env : Env} {R : Result → Shared → Prop} (I : Nat → Shared → Prop)
    (turn : ∀ n s, I n s → wpAny (model prog w) A (pyNext it) (fun r s₁ => match r with
      | none => R (.ok .next) s₁
      | some v => wpAny (model prog w) A (letOwnedTupleGo target it v) (fun _ s₁' => wpAny (model prog w) A (assign target env v) (fun _ s₂ => wpAny (model prog w) A (eval elt env) (fun x s₃ =>
          wpAny (model prog w) A (call (.builtin "list.append") [acc, x]) (fun _ s₄ => ∃ m, m < n ∧ I m s₄) (notedBy (model prog w) A env fun e s' => R (.error e) s') s₃)
          (notedBy (model prog w) A env fun e s' => R (.error e) s') s₂) (notedBy (model prog w) A env fun e s' => R (.error e) s') s₁') (notedBy (model prog w) A env fun e s' => R (.error e) s') s₁) (notedBy (model prog w) A env fun e s' => R (.error e) s') s)
    (n : Nat) (h : I n s) : codeAny (model prog w) A (.compLoop (.ListComp elt [⟨target, iter, [], 0⟩] scope pos) 0 it acc env) R s := by
  refine codeAny_loop rfl I (fun n s hI => ?_) n h
  show wpAny _ _ ((compTurn (.ListComp elt [⟨target, iter, [], 0⟩] scope pos) 0 it acc env).onRaise (fun x => do noteFrame x env; theTreesLotGoes x)) _ _ s
  refine wpAny_noted ?_
  rw [compTurn_list1]
  refine wpAny_bind (wpAny_standAt (wpAny_bind (wpAny_mono (turn n s hI) (fun r s₁ h₁ => ?_) fun _ _ h' => h')))
  cases r with
  | none => exact wpAny_pure h₁
  | some v =>
    refine wpAny_bind (wpAny_mono h₁ (fun _ s₁' h₁' => ?_) fun _ _ h' => h')
    exact wpAny_bind (wpAny_mono h₁' (fun _ s₂ h₂ => wpAny_bind (wpAny_bind (wpAny_mono h₂ (fun x s₃ h₃ => wpAny_bind (wpAny_mono h₃
      (fun _ s₄ h₄ => wpAny_pure (wpAny_pure ⟨rfl, h₄⟩)) fun _ _ h' => h')) fun _ _ h' => h'))) fun _ _ h' => h')
structure CompI (c : Cx) (elt t iter : Expr) (scope : Scope) (pos : PySem.Pos) (cl : List (Str × Addr)) (x : Value) (m : Loc) (N : Led) (K : Kv) : Prop where
  go : ∀ (x' : Value) (h : Heap) (tk : Tok) (g : Array GenState) (use : Option (Value → Sem Unit)) (Q E : Value → Shared → Prop), er x' = x → AllBare g → At c h m N →
    (∀ D C mm h' tk' g' m' N', AllBare g' → At c h' m' ((C, isNs mm) :: N') → K (.ref D) m' N' → compPost c.M c.A E use Q (.ref D) C (.ok .next) (c.st h' tk' g')) →
    wpAny c.M c.A (pyIter x') (fun it s₂ => wpAny c.M c.A (newList []) (fun acc s₃ => wpAny c.M c.A (newFunctionEnv scope c.env.globals cl [] c.env.qual none .none (some c.env)) (fun cenv s₄ =>
        codeAny c.M c.A (.compStart (.ListComp elt [⟨t, iter, [], 0⟩] scope pos) 0 it acc { cenv with scope := relabel scope c.env }) (compPost c.M c.A E use Q acc cenv.locals) s₄) E s₃) E s₂) E (c.st h tk g)
section
variable {c : Cx} {m : Loc} {N : Led} {K : Kv}
theorem At.off {h h' : Heap} {a : Addr} {P : AO} (x : At c h m ((a, P) :: N)) (hk : ∀ b o, b ≠ a → h.get? b = some o → h'.get? b = some o) : At c h' m N := by
  obtain ⟨μ, C, F, l, Nw, d, nd⟩ := x.ex
  cases C with
  | nil => exact d.elim
  | cons p C =>
    rw [List.map_cons, List.nodup_cons] at nd
    have hpI : p.1 = a := d.1
    have nI := Nw p (.head _)
    refine ⟨μ, C, ⟨F.ns.at' fun o e => hk _ o (by rw [← hpI]; exact nI.2.1.symm) e, fun b o e => hk b o (fun q => ?_) (F.keep b o e), F.above⟩, l, fun q hq => ⟨hk _ _ (fun z => ?_) (Nw q (.tail _ hq)).1, (Nw q (.tail _ hq)).2⟩, d.2.2, nd.2⟩
    · have := nI.2.2
      rw [hpI, ← q, e] at this
      cases this
    · exact nd.1 (by rw [hpI, ← z]; exact List.mem_map_of_mem (f := (·.1)) hq)
theorem ns_off {C : Addr} {mm : Loc} {h : Heap} (a : At c h m ((C, isNs mm) :: N)) : ∃ μ, h.Ns C μ ∧ ∀ h', Heap.SameBut C h h' → At c h' m N := by
  obtain ⟨oc, hoc, es, ep, μ, d1, d2, d3, d4⟩ := a.get (.head _)
  exact ⟨μ, ⟨oc, es, ep, hoc, d1, d2, d3⟩, fun h' hs' => a.off fun b o hb e => (hs'.2 b hb).trans e⟩
theorem run_comp {elt t iter : Expr} {scope : Scope} {pos : PySem.Pos} {cl : List (Str × Addr)} (hclos : closureFor scope c.env = pure cl) (hkind : scope.kind = .function) (hnames : (scope.names.all fun x => !(x.2 == .local) || scope.names.lookup x.1 == some .local) = true) (hs : notSet iter = true)
    (H : Run c er (eval iter c.env) m N fun x m N => CompI c elt t iter scope pos cl x m N K) : Run c er (eval (.ListComp elt [⟨t, iter, [], 0⟩] scope pos) c.env) m N K := by
  refine ⟨fun h0 tk g Q E hg a k => ?_⟩
  rw [eval_ListComp]
  refine wpAny_comprehension_free (use := none) rfl (fun x => notSet_eq hs x) hclos hkind (fun x hx e => ?_) (H.go h0 tk g _ E hg a fun v h' tk' g' m' N' hg' a' q => q.go v h' tk' g' none Q E rfl hg' a' fun D C mm h2 tk2 g2 m2 N2 hg2 a2 q2 => let ⟨μ, n, f⟩ := ns_off a2; ⟨μ, n, fun h3 hs => k _ h3 tk2 g2 m2 N2 hg2 (f h3 hs) q2⟩)
  have := List.all_eq_true.mp hnames x hx
  rw [e] at this
  simpa using this
theorem comp_at {I : Addr} {xs : Led} {n : Nat} {P : Nat → Value → Prop} {St : Nat → Heap → Prop} (W : Walks PG c.w c.A I (I :: xs.map (·.1)) [I] n P St) (hI : ∀ i h, St i h → ∃ o, h.get? I = some o ∧ o.isFreed = false) {elt t iter : Expr} {scope : Scope} {pos : PySem.Pos} {cl : List (Str × Addr)}
    (hcell : ∀ y ∈ scope.names, y.2 ≠ .cell) (hkind : scope.kind = .function)
    (hgo : ∀ v (s : Shared) (Q : Unit → Shared → Prop) (E : Value → Shared → Prop), (∃ i, St i s.heap) → Q () s → wpAny c.M c.A (letOwnedTupleGo t (.ref I) v) Q E s)
    (hraw : ∀ q ∈ xs, ∃ o, q.2 = isRaw o) (out : List Value) (hout : out.length = n) (hn : n ≤ 1000) {h0 : Heap} {tk : Tok} {g : Array GenState} {use : Option (Value → Sem Unit)} {Q E : Value → Shared → Prop} {K : Kv}
    (hg : AllBare g) (a : At c h0 m ((I, fun _ => True) :: (xs ++ N))) (hst : St 0 h0)
    (turn : ∀ i v C mm D ys oI, i < n → P i v → Run c id (assign t (compEnvC scope cl C c.env) v) m ((C, isNs mm) :: (D, isL ys) :: (I, isRaw oI) :: (xs ++ N)) fun _ m1 N1 => Run c er (eval elt (compEnvC scope cl C c.env)) m1 N1 fun y m2 N2 => m2 = m ∧ out[i]? = some y ∧ ∃ mm', Pk N2 ((C, isNs mm') :: (D, isL ys) :: (I, isRaw oI) :: (xs ++ N)))
    (done : ∀ D, K (.ref D) m ((D, isL out) :: (xs ++ N)))
    (k : ∀ D C mm h' tk' g' m' N', AllBare g' → At c h' m' ((C, isNs mm) :: N') → K (.ref D) m' N' → compPost c.M c.A E use Q (.ref D) C (.ok .next) (c.st h' tk' g')) :
    wpAny c.M c.A (newList []) (fun acc s₃ => wpAny c.M c.A (newFunctionEnv scope c.env.globals cl [] c.env.qual none .none (some c.env)) (fun cenv s₄ =>
        codeAny c.M c.A (.compStart (.ListComp elt [⟨t, iter, [], 0⟩] scope pos) 0 (.ref I) acc { cenv with scope := relabel scope c.env }) (compPost c.M c.A E use Q acc cenv.locals) s₄) E s₃) E (c.st h0 tk g) := by
  refine wpAny_newObj_type (wpAny_newFunctionEnv hcell (by intro y hy; simp at hy) (fun h₁ hns₁ hsb₁ => ?_) hkind)
  have a0 : At c (h0.push { cls := .type "list", data := .seq [].toArray }) m ((h0.objs.size, isL []) :: (I, fun _ => True) :: (xs ++ N)) := a.push ⟨[], 0, rfl, rfl⟩
  have a0' := a0.push (o := { cls := .type (if (some c.env).isSome then "dict" else "frame"), data := .dict #[] }) (P := fun _ => True) trivial
  have a1 : At c h₁ m (((h0.push { cls := .type "list", data := .seq [].toArray }).objs.size, isNs []) :: (h0.objs.size, isL []) :: (I, fun _ => True) :: (xs ++ N)) :=
    a0'.upd (Q := isNs []) Pos.head (fun o _ _ => isNs_of hns₁ fun x => rfl) fun b o hb e => (hsb₁.2 b hb).trans e
  have hst1 : St 0 h₁ := by
    refine W.frame _ _ _ hst fun b hb o e => (hsb₁.2 b (fun q => ?_)).trans (Heap.get?_push_of_some _ (Heap.get?_push_of_some _ e))
    have := Heap.lt_size e
    rw [q] at this
    have e2 : ((c.st h0 tk g).heap.push { cls := .type "list", data := .seq [].toArray }).objs.size = h0.objs.size + 1 := Heap.size_push ..
    rw [e2] at this
    exact absurd this (by exact Nat.not_lt.mpr (Nat.le_succ _))
  generalize hC : (h0.push { cls := .type "list", data := .seq [].toArray }).objs.size = C at a1
  generalize hD : h0.objs.size = D at a1
  have loop : codeAny c.M c.A (.compLoop (.ListComp elt [⟨t, iter, [], 0⟩] scope pos) 0 (.ref I) (.ref D) (compEnvC scope cl C c.env)) (compPost c.M c.A E use Q (.ref D) C) (c.st h₁ tk g) := by
    refine codeAny_compLoopG (fun j s' => ∃ h tk mm i g, s' = c.st h tk g ∧ AllBare g ∧ St i h ∧ At c h m ((C, isNs mm) :: (D, isL (out.take i)) :: (I, fun _ => True) :: (xs ++ N)) ∧ i ≤ n ∧ j = n + 1 - i) ?_ (n + 1) ⟨h₁, tk, [], 0, g, rfl, hg, hst1, by rw [List.take_zero]; exact a1, Nat.zero_le _, rfl⟩
    rintro j s' ⟨h, tk, mm, i, g, rfl, hg, hst, a, hi, rfl⟩
    by_cases hlt : i < n
    · refine W.item i _ _ _ hlt hst fun v h₂ tk₂ hP hst₂ hk₂ => ?_
      refine hgo v _ _ _ ⟨_, hst₂⟩ ?_
      obtain ⟨oI, ho, _⟩ := hI _ _ hst₂
      have a₂ : At c h₂ m ((C, isNs mm) :: (D, isL (out.take i)) :: (I, isRaw oI) :: (xs ++ N)) :=
        a.upd (Q := isRaw oI) (.tail (.tail .head)) (fun o _ _ => ⟨oI, ho, rfl⟩) fun b o hb e => hk₂ b o (fun q => hb (List.mem_singleton.mp q)) e
      refine (turn i v C mm D _ oI hlt hP).go h₂ tk₂ g _ _ hg a₂ fun _ h₃ tk₃ g₃ m₃ N₃ hg₃ a₃ q₃ => q₃.go h₃ tk₃ g₃ _ _ hg₃ a₃ fun y h₄ tk₄ g₄ m₄ N₄ hg₄ a₄ q₄ => ?_
      obtain ⟨rfl, ey, mm', pk⟩ := q₄
      have a₅ := a₄.pick pk
      obtain ⟨o, hoD, us, ep, rfl, eus⟩ := a₅.get (.tail _ (.head _))
      have hlen : us.length ≤ 1000 := by
        have := congrArg List.length eus
        rw [List.length_map, List.length_take] at this
        omega
      refine call_meets PySem.F.slot_list_append ⟨_, hoD, rfl⟩ PySem.F.entry_list_append (PySem.F.args_list_append_2 _ _) (PySem.list_append D us.toArray ep y (by rw [List.size_toArray, sizeLine_eq]; omega)) ⟨hoD, ?_⟩
      have a₆ := upd_list (ws := out.take (i + 1)) a₅ (.tail .head) hoD (f := fun xs => xs.push y) (by
        rw [Array.toList_push, List.map_append, eus, List.take_succ, ey]; rfl)
      refine ⟨n + 1 - (i + 1), by omega, _, _, mm', i + 1, _, rfl, hg₄, ?_, ?_, hlt, rfl⟩
      · refine W.frame _ _ _ hst₂ fun b hb o e => ?_
        rcases List.mem_cons.mp hb with rfl | hb
        · rw [ho] at e; cases e
          obtain ⟨o', e1, e2⟩ := a₆.get (.tail _ (.tail _ (.head _)))
          rw [e1, show o' = oI from e2]
        · obtain ⟨q, hq, rfl⟩ := List.mem_map.mp hb
          obtain ⟨ob, eb⟩ := hraw q hq
          obtain ⟨o1, e1, e2⟩ := a₂.get (a := q.1) (P := q.2) (.tail _ (.tail _ (.tail _ (List.mem_append_left _ hq))))
          obtain ⟨o2, e3, e4⟩ := a₆.get (a := q.1) (P := q.2) (.tail _ (.tail _ (.tail _ (List.mem_append_left _ hq))))
          rw [eb] at e2 e4
          rw [e] at e1
          cases e1
          rw [e3, show o2 = ob from e4, show o = ob from e2]
      · exact a₆.upd (Q := fun _ => True) (.tail (.tail .head)) (fun o _ e => ⟨o, e, trivial⟩) fun b o _ e => e
    · have hin : i = n := by omega
      subst hin
      refine W.done _ _ _ hst fun h₂ tk₂ hk₂ => ?_
      have hk' : ∀ b o, b ≠ I → h.get? b = some o → h₂.get? b = some o := fun b o hb e => hk₂ b o (fun q => hb (List.mem_singleton.mp q)) e
      have a₂ : At c h₂ m ((C, isNs mm) :: (D, isL (out.take i)) :: (xs ++ N)) := (a.permL (N' := (I, fun _ => True) :: (C, isNs mm) :: (D, isL (out.take i)) :: (xs ++ N)) ((List.Perm.swap _ _ _).trans ((List.Perm.swap _ _ _).cons _))).off hk'
      rw [← hout, List.take_length] at a₂
      exact k D C mm h₂ tk₂ g m _ hg a₂ (done D)
  exact codeAny_compStart_list loop (W.self 0 _ _ _ hst1 loop)
end
end Mine
end
section
open PySem PySem.W PyProof.Rows PySem.Calls
set_option maxRecDepth 100000
namespace Mine
structure FnC (c : Cx) (scope : Scope) (ns : List (Str × NameKind)) (cl : List (Str × Addr)) : Prop where
  G : Good c
  rel : (relabel scope c.env).names = ns
  clos : closureFor scope c.env = pure cl
  kind : scope.kind = .function
  plain : plainNames ns = true
  loc : (scope.names.all fun x => (!(x.2 == .local) || scope.names.lookup x.1 == some .local) && !(x.2 == .cell)) = true
def vC (c : Cx) (scope : Scope) (ns : List (Str × NameKind)) (cl : List (Str × Addr)) (C : Addr) (n : Nat) : Expr → Loc → Led → Kv → Prop := vG c (compEnvC scope cl C c.env) (vNameC ns C cl) n
section
variable {c : Cx} {m : Loc} {N : Led} {K : Kv}
theorem isNs_ns {h : Heap} {C : Addr} {mm : Loc} (a : At c h m N) (hm : (C, isNs mm) ∈ N) : ∃ μ, h.Ns C μ ∧ ∀ x, (μ x).map er = mm.lookup x :=
  let ⟨o, h1, es, ep, μ, d1, d2, d3, d4⟩ := a.get hm; ⟨μ, ⟨o, es, ep, h1, d1, d2, d3⟩, d4⟩
theorem vC_sound {scope : Scope} {ns : List (Str × NameKind)} {cl : List (Str × Addr)} (Fc : FnC c scope ns cl) (C : Addr) (n : Nat) (e : Expr) (m : Loc) (N : Led) (K : Kv) (h : vC c scope ns cl C n e m N K) : Run c er (eval e (compEnvC scope cl C c.env)) m N K :=
  vG_sound (fun x p m N K h => by
    have hr := Fc.rel
    have hk : (compEnvC scope cl C c.env).scope.kind = .function := Fc.kind
    have kd : ∀ y, (compEnvC scope cl C c.env).kindOf y = ns.lookup y := fun y => by rw [← hr]; rfl
    refine ⟨fun h0 tk g Q E hg a k => ?_⟩
    unfold vNameC at h
    split at h
    · rename_i e
      obtain ⟨mm, v, hm, hl, h⟩ := h
      obtain ⟨μ, hn, l⟩ := isNs_ns a hm
      obtain ⟨v', e1, e2⟩ := look_local l hl
      exact ldVarK hn e1 (k v' h0 tk g m N hg a (by rw [e2]; exact h)) hk ((kd x).trans e) (plain_of Fc.plain e).1
    · rename_i e
      split at h
      · rename_i b e2
        obtain ⟨v, hm, h⟩ := h
        obtain ⟨o, mo, v', e3, e4⟩ := a.get hm
        obtain ⟨v'', rfl, e5⟩ := Option.map_eq_some_iff.mp e4
        exact ldCellK e2 ⟨o, mo, e3⟩ (k v'' h0 tk g m N hg a (by rw [e5]; exact h)) hk ((kd x).trans e) (plain_of Fc.plain e).1
      · exact h.elim
    · rename_i e
      split at h
      · rename_i b e2
        obtain ⟨v, hm, h⟩ := h
        obtain ⟨o, mo, v', e3, e4⟩ := a.get hm
        obtain ⟨v'', rfl, e5⟩ := Option.map_eq_some_iff.mp e4
        exact ldFreeK e2 ⟨o, mo, e3⟩ (k v'' h0 tk g m N hg a (by rw [e5]; exact h)) hk ((kd x).trans e) (plain_of Fc.plain e).1 (plain_of Fc.plain e).2
      · exact h.elim
    · exact h.elim) n e m N K h
theorem isNs_set {h h' : Heap} {C : Addr} {x : Str} {v : Value} {mm : Loc} {g : AO → Led} {μ : Str → Option Value} (a : At c h m N) (hp : Pos C (isNs mm) N g) (l : ∀ x, (μ x).map er = mm.lookup x) (hn : h'.Ns C (fun y => if y = x then some v else μ y)) (hs : Heap.SameBut C h h') : At c h' m (g (isNs ((x, er v) :: mm))) :=
  a.upd hp (fun o _ _ => isNs_of hn fun y => by
    rw [List.lookup_cons]
    by_cases q : y = x
    · rw [if_pos q, beq_iff_eq.mpr q]; rfl
    · rw [if_neg q, beq_eq_false_iff_ne.mpr q]; exact l y) fun b o hb e => (hs.2 b hb).trans e
theorem asgC {scope : Scope} {ns : List (Str × NameKind)} {cl : List (Str × Addr)} (Fc : FnC c scope ns cl) {C : Addr} {x : Str} {p : PySem.Pos} {v : Value} {mm : Loc} {g : AO → Led} {K : Loc → Led → Prop} (hx : ns.lookup x = some .local) (hp : Pos C (isNs mm) N g) (h : K m (g (isNs ((x, er v) :: mm)))) :
    Run c id (assign (.Name x p) (compEnvC scope cl C c.env) v) m N (fun _ => K) := by
  refine ⟨fun h0 tk gg Q E hg a k => ?_⟩
  have hm : (C, isNs mm) ∈ N := by
    obtain ⟨pre, post, rfl, _⟩ := hp.split
    exact List.mem_append_right _ (.head _)
  obtain ⟨μ, hn, l⟩ := isNs_ns a hm
  refine wpAny_assign_Name (wpAny_storeName_local (by rw [← hx, ← Fc.rel]; rfl) hn (fun h' hn' hs' => k () _ _ _ _ _ hg (isNs_set a hp l hn' hs') h) ?_)
  show (scope.kind == .class || (scope.kind == .module && _)) = false
  rw [Fc.kind]; rfl
theorem Pos.again {D : Addr} {P : AO} {N : Led} {g : AO → Led} (x : Pos D P N g) : ∀ Q, Pos D Q (g Q) g := by
  induction x with
  | head => exact fun Q => .head
  | tail _ ih => exact fun Q => .tail (ih Q)
theorem asgC_pair {scope : Scope} {ns : List (Str × NameKind)} {cl : List (Str × Addr)} (Fc : FnC c scope ns cl) {C : Addr} {x y : Str} {px py p : PySem.Pos} {k : Nat} {t : Addr} {u v : Value} {mm : Loc} {g : AO → Led} {K : Loc → Led → Prop} (hx : ns.lookup x = some .local) (hy : ns.lookup y = some .local) (hp : Pos C (isNs mm) N g)
    (ht : (t, isT [u, v]) ∈ N) (h : K m (g (isNs ((y, v) :: (x, u) :: mm)))) :
    Run c id (assign (.Tuple [.Name x px, .Name y py] k p) (compEnvC scope cl C c.env) (.ref t)) m N (fun _ => K) := by
  refine ⟨fun h0 tk gg Q E hg a kk => ?_⟩
  obtain ⟨μ, C0, F, l, Nw, d, nd⟩ := a.ex
  obtain ⟨o, mo, us, ep, rfl, hus⟩ := d.mem ht
  obtain ⟨u', v', rfl, eu, ev⟩ := map_two hus
  refine unpackN_ (s := c.st h0 tk gg) F Nw ⟨_, (Nw _ mo).1, rfl, ep, rfl⟩ rfl rfl rfl fun h' F' N' => ?_
  refine assignInOrder_cons ((asgC Fc (p := px) (v := u') (K := fun m1 N1 => m1 = m ∧ N1 = g (isNs ((x, er u') :: mm))) hx hp ⟨rfl, rfl⟩).go h' tk gg _ E hg ⟨μ, C0, F', l, N', d, nd⟩ fun _ h2 tk2 g2 m2 N2 hg2 a2 q2 => ?_)
  obtain ⟨rfl, rfl⟩ := q2
  refine assignInOrder_cons ((asgC Fc (p := py) (v := v') (K := fun m1 N1 => m1 = m2 ∧ N1 = g (isNs ((y, er v') :: (x, er u') :: mm))) hy (hp.again _) ⟨rfl, rfl⟩).go h2 tk2 g2 _ E hg2 a2 fun _ h3 tk3 g3 m3 N3 hg3 a3 q3 => ?_)
  obtain ⟨rfl, rfl⟩ := q3
  exact assignInOrder_nil (kk () _ _ _ _ _ hg3 a3 (by rw [eu, ev]; exact h))
theorem FnC.ok {scope : Scope} {ns : List (Str × NameKind)} {cl : List (Str × Addr)} (Fc : FnC c scope ns cl) : (scope.names.all fun x => !(x.2 == .local) || scope.names.lookup x.1 == some .local) = true ∧ ∀ y ∈ scope.names, y.2 ≠ .cell := by
  have h := Fc.loc
  constructor
  · refine List.all_eq_true.mpr fun x hx => ?_
    have := List.all_eq_true.mp h x hx
    rw [Bool.and_eq_true] at this
    exact this.1
  · intro y hy e
    have := List.all_eq_true.mp h y hy
    rw [e, Bool.and_eq_true] at this
    exact absurd this.2 Bool.false_ne_true
theorem comp_list {elt iter : Expr} {x : Str} {px : PySem.Pos} {scope : Scope} {pos : PySem.Pos} {ns : List (Str × NameKind)} {cl : List (Str × Addr)} (Fc : FnC c scope ns cl) {l : Addr} {vs : List Value} {N0 : Led} (pk : Pk N ((l, isL vs) :: N0)) (out : List Value) (hout : out.length = vs.length) (hn : vs.length ≤ 1000) (hx : ns.lookup x = some .local)
    (turn : ∀ (i : Nat) (u : Value) (C : Addr) (mm : Loc) (D : Addr) (ys : List Value) (I : Addr) (oI lo : Obj), vs[i]? = some u → vC c scope ns cl C 9 elt m ((C, isNs ((x, u) :: mm)) :: (D, isL ys) :: (I, isRaw oI) :: (l, isRaw lo) :: N0) fun y m2 N2 => m2 = m ∧ out[i]? = some y ∧ ∃ mm', Pk N2 ((C, isNs mm') :: (D, isL ys) :: (I, isRaw oI) :: (l, isRaw lo) :: N0))
    (done : ∀ D, K (.ref D) m ((D, isL out) :: (l, isL vs) :: N0)) : CompI c elt (.Name x px) iter scope pos cl (.ref l) m N K := by
  refine ⟨fun x' h tk g use Q E e hg a k => ?_⟩
  rw [er_ref e]
  have a := a.pick pk
  obtain ⟨lo, ho, cs, ep, elo, ecs⟩ := a.get (.head _)
  have hl : (c.st h tk g).heap.IsList l cs.toArray := ⟨lo, ho, by rw [elo], ep, by rw [elo]⟩
  refine wpAny_pyIter_list hl ?_
  have a1 : At c (h.push { cls := .type "list_iterator", data := .fields #[.ref l, .int 0 0] }) m ((h.objs.size, fun _ => True) :: ([(l, isRaw lo)] ++ N0)) :=
    (a.imp (Q := isRaw lo) fun o e _ => by rw [ho] at e; exact (Option.some.inj e).symm).push trivial
  have ne : l ≠ h.objs.size := fun e => absurd (Heap.lt_size ho) (by rw [e]; exact Nat.lt_irrefl _)
  have hlen : cs.toArray.size = vs.length := by rw [← ecs, List.length_map, List.size_toArray]
  refine comp_at (xs := [(l, isRaw lo)]) (n := cs.toArray.size) (K := fun v m N => ∀ h C mm, At c h m ((C, isNs mm) :: N) → ∃ N4, At c h m ((C, isNs mm) :: N4) ∧ K v m N4) (Walks.list (cx_handled c) h.objs.size l ne cs.toArray) (fun i h' st => ?_) Fc.ok.2 Fc.kind (fun v s Q E st q => go_pure rfl q) (fun q hq => ?_) out (hout.trans hlen.symm) (by omega) hg a1 ⟨⟨_, Heap.get?_push_size _ rfl, rfl, rfl⟩, lo, get_push ho, by rw [elo], ep, by rw [elo]⟩ (fun i v C mm D ys oI hi hv => ?_) (fun D => ?_) (fun D C mm h' tk' g' m' N' hg' a' q => ?_)
  · obtain ⟨o, e1, e2, e3⟩ := st.1
    exact ⟨o, e1, Obj.isFreed_of_fields e3⟩
  · rw [List.mem_singleton.mp hq]; exact ⟨lo, rfl⟩
  · refine asgC Fc hx .head (vC_sound Fc C 9 _ _ _ _ (turn i (er v) C mm D ys h.objs.size oI lo ?_))
    rw [← ecs, List.getElem?_map]
    rw [show cs.toArray[i]? = cs[i]? from List.getElem?_toArray] at hv
    rw [hv]; rfl
  · exact fun h C mm aa => ⟨_, aa.upd (P := isRaw lo) (Q := isL vs) (.tail (.tail .head)) (fun o ho hg => ⟨o, hg, cs, ep, by rw [← elo]; exact ho, ecs⟩) fun b o _ e => e, done D⟩
  · obtain ⟨N4, a4, q4⟩ := q h' C mm a'
    exact k _ _ _ _ _ _ _ _ hg' a4 q4
theorem comp_pairs {elt iter : Expr} {x y : Str} {px py p : PySem.Pos} {kk : Nat} {scope : Scope} {pos : PySem.Pos} {ns : List (Str × NameKind)} {cl : List (Str × Addr)} (Fc : FnC c scope ns cl) {l : Addr} {vs : List Value} {N0 : Led} (pk : Pk N ((l, isL vs) :: N0)) (out : List Value) (hout : out.length = vs.length) (hn : vs.length ≤ 1000) (hx : ns.lookup x = some .local) (hy : ns.lookup y = some .local)
    (turn : ∀ (i : Nat) (u : Value) (C : Addr) (mm : Loc) (D : Addr) (ys : List Value) (I : Addr) (oI lo : Obj), vs[i]? = some u → ∃ (t : Addr) (a b : Value), u = .ref t ∧ (t, isT [a, b]) ∈ N0 ∧ vC c scope ns cl C 9 elt m ((C, isNs ((y, b) :: (x, a) :: mm)) :: (D, isL ys) :: (I, isRaw oI) :: (l, isRaw lo) :: N0) fun y m2 N2 => m2 = m ∧ out[i]? = some y ∧ ∃ mm', Pk N2 ((C, isNs mm') :: (D, isL ys) :: (I, isRaw oI) :: (l, isRaw lo) :: N0))
    (done : ∀ D, K (.ref D) m ((D, isL out) :: (l, isL vs) :: N0)) : CompI c elt (.Tuple [.Name x px, .Name y py] kk p) iter scope pos cl (.ref l) m N K := by
  refine ⟨fun x' h tk g use Q E e hg a k => ?_⟩
  rw [er_ref e]
  have a := a.pick pk
  obtain ⟨lo, ho, cs, ep, elo, ecs⟩ := a.get (.head _)
  have hl : (c.st h tk g).heap.IsList l cs.toArray := ⟨lo, ho, by rw [elo], ep, by rw [elo]⟩
  refine wpAny_pyIter_list hl ?_
  have a1 : At c (h.push { cls := .type "list_iterator", data := .fields #[.ref l, .int 0 0] }) m ((h.objs.size, fun _ => True) :: ([(l, isRaw lo)] ++ N0)) :=
    (a.imp (Q := isRaw lo) fun o e _ => by rw [ho] at e; exact (Option.some.inj e).symm).push trivial
  have ne : l ≠ h.objs.size := fun e => absurd (Heap.lt_size ho) (by rw [e]; exact Nat.lt_irrefl _)
  have hlen : cs.toArray.size = vs.length := by rw [← ecs, List.length_map, List.size_toArray]
  refine comp_at (xs := [(l, isRaw lo)]) (n := cs.toArray.size) (K := fun v m N => ∀ h C mm, At c h m ((C, isNs mm) :: N) → ∃ N4, At c h m ((C, isNs mm) :: N4) ∧ K v m N4) (Walks.list (cx_handled c) h.objs.size l ne cs.toArray) (fun i h' st => ?_) Fc.ok.2 Fc.kind (fun v s Q E st q => ?_) (fun q hq => ?_) out (hout.trans hlen.symm) (by omega) hg a1 ⟨⟨_, Heap.get?_push_size _ rfl, rfl, rfl⟩, lo, get_push ho, by rw [elo], ep, by rw [elo]⟩ (fun i v C mm D ys oI hi hv => ?_) (fun D => ?_) (fun D C mm h' tk' g' m' N' hg' a' q => ?_)
  · obtain ⟨o, e1, e2, e3⟩ := st.1
    exact ⟨o, e1, Obj.isFreed_of_fields e3⟩
  · obtain ⟨i, st⟩ := st
    exact go_list st.1 q (.inl ⟨_, _, _, rfl⟩)
  · rw [List.mem_singleton.mp hq]; exact ⟨lo, rfl⟩
  · obtain ⟨t, va, vb, e1, e2, e3⟩ := turn i (er v) C mm D ys h.objs.size oI lo (by
      rw [← ecs, List.getElem?_map]
      rw [show cs.toArray[i]? = cs[i]? from List.getElem?_toArray] at hv
      rw [hv]; rfl)
    rw [er_ref e1]
    exact asgC_pair Fc hx hy .head (.tail _ (.tail _ (.tail _ (.tail _ e2)))) (vC_sound Fc C 9 _ _ _ _ e3)
  · exact fun h C mm aa => ⟨_, aa.upd (P := isRaw lo) (Q := isL vs) (.tail (.tail .head)) (fun o ho hg => ⟨o, hg, cs, ep, by rw [← elo]; exact ho, ecs⟩) fun b o _ e => e, done D⟩
  · obtain ⟨N4, a4, q4⟩ := q h' C mm a'
    exact k _ _ _ _ _ _ _ _ hg' a4 q4
theorem comp_range {elt iter : Expr} {x : Str} {px : PySem.Pos} {scope : Scope} {pos : PySem.Pos} {ns : List (Str × NameKind)} {cl : List (Str × Addr)} (Fc : FnC c scope ns cl) {l : Addr} {n : Nat} {N0 : Led} (pk : Pk N ((l, isRange (n : Int)) :: N0)) (out : List Value) (hout : out.length = n) (hn : n ≤ 1000) (hx : ns.lookup x = some .local)
    (turn : ∀ (i : Nat) (C : Addr) (mm : Loc) (D : Addr) (ys : List Value) (I : Addr) (oI : Obj), i < n → vC c scope ns cl C 9 elt m ((C, isNs ((x, .int (i : Int) 0) :: mm)) :: (D, isL ys) :: (I, isRaw oI) :: N0) fun y m2 N2 => m2 = m ∧ out[i]? = some y ∧ ∃ mm', Pk N2 ((C, isNs mm') :: (D, isL ys) :: (I, isRaw oI) :: N0))
    (done : ∀ D, K (.ref D) m ((D, isL out) :: N0)) : CompI c elt (.Name x px) iter scope pos cl (.ref l) m N K := by
  refine ⟨fun x' h tk g use Q E e hg a k => ?_⟩
  rw [er_ref e]
  have a := a.pick pk
  obtain ⟨lo, ho, t0, u0, v0, rfl⟩ := a.get (.head _)
  refine wpAny_pyIter_range ho (small_one (by omega) (by omega) (by omega) (by omega)) ?_
  rw [rangeSize_one]
  have e9 : (if (0 : Int) < (n : Int) then (n : Int) - 0 else 0) = (n : Int) := by split <;> omega
  rw [e9]
  have a1 : At c (h.push { cls := .type "range_iterator", data := .fields #[rawInt 0, rawInt n, rawInt 1] }) m ((h.objs.size, fun _ => True) :: ([] ++ N0)) := (a.pick (.drop .all)).push trivial
  refine comp_at (xs := []) (K := K) (Walks.range (prog := PG) (w := c.w) (cx_handled c) h.objs.size 0 1 n) (fun i h' st => ⟨_, st, rfl⟩) Fc.ok.2 Fc.kind (fun v s Q E st q => go_pure rfl q) (fun q hq => nomatch hq) out hout (by omega) hg a1 ?_ (fun i v C mm D ys oI hi hv => ?_) done k
  · have e1 : (0 : Int) + ((0 : Nat) : Int) * 1 = 0 := rfl
    have e2 : (n : Int) - ((0 : Nat) : Int) = n := by omega
    show IsRangeIter _ _ _ _ _
    rw [e1, e2]
    exact Heap.get?_push_size _ rfl
  · obtain ⟨u, rfl⟩ := hv
    refine asgC Fc hx .head (vC_sound Fc C 9 _ _ _ _ ?_)
    rw [show (0 : Int) + (i : Int) * 1 = i by omega]
    exact turn i C mm D ys h.objs.size oI hi
end
end Mine
end
section
open PySem PySem.W PyProof.Rows PySem.Calls
set_option maxRecDepth 100000
namespace Mine
def mulS (x : Str) (n : Int) : Str := if n < 1 then Str.empty else if (n == 1 || x.length == 0) = true then x else ⟨(List.replicate n.toNat x.cps).foldl (· ++ ·) #[]⟩
def svs (ys : List Str) : List Value := ys.map fun y => .str y 0
theorem svs_are : ∀ {us : List Value} {ys : List Str}, us.map er = svs ys → StrsAre us ys
  | [], [], _ => .nil
  | [], _ :: _, h => by cases h
  | _ :: _, [], h => by cases h
  | u :: us, y :: ys, h => by
    unfold svs at h
    rw [List.map_cons, List.map_cons] at h
    injection h with h1 h2
    obtain ⟨t, rfl⟩ := er_str h1
    exact .cons y t (svs_are h2)
theorem ints_are : ∀ {us : List Value} {ns : List Int}, us.map er = ns.map (fun i => Value.int i 0) → IntsAre us ns
  | [], [], _ => .nil
  | [], _ :: _, h => by cases h
  | _ :: _, [], h => by cases h
  | u :: us, y :: ys, h => by
    rw [List.map_cons, List.map_cons] at h
    injection h with h1 h2
    obtain ⟨t, rfl⟩ := er_int h1
    exact .cons y t (ints_are h2)
def lsl (vs : List Value) (lo hi st : Option Int) : List Value := (slicePick vs.toArray lo hi st).toList
theorem lsl_map (us : List Value) (lo hi st : Option Int) : (slicePick us.toArray lo hi st).toList.map er = lsl (us.map er) lo hi st := by
  unfold lsl slicePick
  rw [List.size_toArray, List.size_toArray, List.length_map, List.map_filterMap]
  refine congrArg (fun f => List.filterMap f _) (funext fun i => ?_)
  rw [List.getElem?_toArray, List.getElem?_toArray, List.getElem?_map]
def pval : Option Int → Value
  | none => .none
  | some i => .int i 0
theorem pval_part {v : Value} {o : Option Int} (h : er v = pval o) : IsPart v o := by
  cases o with
  | none => rw [er_none h]; exact .none
  | some i => obtain ⟨t, rfl⟩ := er_int h; exact .int i t
section
variable {c : Cx} {m : Loc} {N : Led} {K : Kv}
theorem bin_strmul {x : Str} {n : Int} (hx : x.length ≤ 100) (h0 : -100 ≤ n) (hn : n ≤ 100) (h : K (.str (mulS x n) 0) m N) : Bin c .Mult (.str x 0) (.int n 0) m N K := ⟨fun v u e1 e2 => by
  obtain ⟨t1, rfl⟩ := er_str e1
  obtain ⟨t2, rfl⟩ := er_int e2
  refine ⟨fun h0' tk g Q E hg a k => ?_⟩
  have hfold : ∀ (k : Nat) (acc : Array Nat), ((List.replicate k x.cps).foldl (· ++ ·) acc).size = acc.size + k * x.length := by
    intro k
    induction k with
    | zero => intro acc; rw [List.replicate_zero, List.foldl_nil, Nat.zero_mul, Nat.add_zero]
    | succ k ih =>
      intro acc
      rw [List.replicate_succ, List.foldl_cons, ih, Array.size_append, Nat.add_mul, Nat.one_mul]
      show acc.size + x.length + k * x.length = _
      omega
  have hm : x.length * n.toNat ≤ 100 * 100 := Nat.mul_le_mul hx (by omega)
  refine P.mul_str (by
      have h2 : ¬ n ≥ 2 ^ 63 := by omega
      have h3 : ¬ n < -(2 ^ 63 : Int) := by omega
      rw [decide_eq_false h3, decide_eq_false h2]; rfl) (fun h1 _ h2 => ?_) (fun _ _ => ?_) ?_
  · have h3 : (2 ^ 63 - 1 : Int) / 100 ≤ (2 ^ 63 - 1) / n := by
      rw [Int.le_ediv_iff_mul_le (by omega)]
      have : (2 ^ 63 - 1 : Int) / 100 * n ≤ (2 ^ 63 - 1 : Int) / 100 * 100 := Int.mul_le_mul_of_nonneg_left hn (by decide)
      refine Int.le_trans this (by decide)
    have h4 : (1000 : Int) ≤ (2 ^ 63 - 1 : Int) / 100 := by decide
    omega
  · unfold Builtin.Str.tooLong
    rw [sizeLine_eq]
    exact decide_eq_false (by omega)
  · unfold mulS at h
    split
    · rename_i q; rw [if_pos q] at h; exact ⟨by decide, k _ _ _ g m N hg a h⟩
    · rename_i q
      rw [if_neg q] at h
      split
      · rename_i q2; rw [if_pos q2] at h; exact k _ _ _ g m N hg a h
      · rename_i q2
        rw [if_neg q2] at h
        refine ⟨?_, k _ _ _ g m N hg a h⟩
        show ((List.replicate n.toNat x.cps).foldl (· ++ ·) #[]).size ≤ sizeLine
        rw [hfold, sizeLine_eq, Nat.mul_comm]
        show 0 + _ ≤ _
        omega⟩
theorem bin_addstr {x y : Str} (hx : x.length + y.length ≤ 1000) (h : K (.str (x ++ y) 0) m N) : Bin c .Add (.str x 0) (.str y 0) m N K := ⟨fun v u e1 e2 => by
  obtain ⟨t1, rfl⟩ := er_str e1
  obtain ⟨t2, rfl⟩ := er_str e2
  exact ⟨fun h0 tk g Q E hg a k => PyProof.Rows.add_str (fun t' tk' => k _ _ _ g m N hg a h) (by rw [sizeLine_eq]; omega)⟩⟩
theorem cal_abs {a : Int} (h : K (.int (if a < 0 then -a else a) 0) m N) : CalW c (.builtin "abs") [.int a 0] m N K := ⟨kep_builtin, fun f' vs e1 e2 => by
  obtain ⟨v, rfl, h1⟩ := map_one e2
  rw [er_builtin e1]
  obtain ⟨t1, rfl⟩ := er_int h1
  exact ⟨fun h0 tk g Q E hg at' k => call_abs_int fun u tk' => k _ _ _ g m _ hg at' h⟩⟩
theorem cmp_eq_ints (G : Good c) {l b : Addr} {ns ms : List Int} (hl : (l, isL (ns.map fun i => .int i 0)) ∈ N) (hb : (b, isL (ms.map fun i => .int i 0)) ∈ N) (h : K (.bool (decide (ns = ms))) m N) : Cmp c .Eq (.ref l) (.ref b) m N K := ⟨fun v u e1 e2 => by
  rw [er_ref e1, er_ref e2]
  refine ⟨fun h0 tk g Q E hg a k => ?_⟩
  obtain ⟨o1, ho1, us1, ep1, rfl, q1⟩ := a.get hl
  obtain ⟨o2, ho2, us2, ep2, rfl, q2⟩ := a.get hb
  refine eq_intsK (s := c.st h0 tk g) (vs := us1) (us := us2) ⟨_, ho1, rfl, ep1, rfl⟩ (ints_are q1) ⟨_, ho2, rfl, ep2, rfl⟩ (ints_are q2) ?_ (k _ _ _ g m N hg a h)
  show c.un + 64 < cLine
  have := G.u
  unfold cLine
  omega⟩
theorem cal_index {l : Addr} {ns : List Int} {k : Int} (hl : (l, isL (ns.map fun i => .int i 0)) ∈ N) (hlay : PyData.layable0 (.list (ns.map .int)) = true) (hk : k ∈ ns) (h : K (.int (ns.idxOf k : Nat) 0) m N) : CalW c (.builtin "list.index") [.ref l, .int k 0] m N K := ⟨kep_builtin, fun f' vs e1 e2 => by
  obtain ⟨v, u, rfl, h1, h2⟩ := map_two e2
  rw [er_builtin e1, er_ref h1]
  obtain ⟨t1, rfl⟩ := er_int h2
  refine ⟨fun h0 tk g Q E hg a kk => ?_⟩
  obtain ⟨o1, ho1, us1, ep1, rfl, q1⟩ := a.get hl
  exact index_list_ints (s := c.st h0 tk g) (vs := us1) ⟨_, ho1, rfl, ep1, rfl⟩ (ints_are q1) hlay hk (kk _ _ _ g m N hg a h)⟩
theorem subS_list {v i : Expr} {l : Addr} {vs : List Value} {lo hi st : Option Int} (hl : (l, isL vs) ∈ N) (hb : vs.length ≤ 1000) (h0 : st ≠ some 0) (hs : ∀ q, ∃ ops, subscripted i false (.ref l) (.ref q) = operate ops (getItem (.ref l) (.ref q))) (hv : ∀ r, letTemporaryGo v (.ref l) r = pure ())
    (h : ∀ D, K (.ref D) m ((D, isL (lsl vs lo hi st)) :: N)) : SubS c v i (.ref l) (pval lo) (pval hi) (pval st) m N K :=
  ⟨fun o' l' u' st' h0' tk g Q E e1 e2 e3 e4 hg a k => by
    rw [er_ref e1]
    obtain ⟨μ, C, F, lk, Nw, d, nd⟩ := a.ex
    obtain ⟨o, mo, us, ep, rfl, rfl⟩ := d.mem hl
    rw [List.length_map] at hb
    obtain ⟨ops, hs⟩ := hs h0'.objs.size
    refine slice_list3 (ops := ops) (s := c.st h0' tk g) (items := us.toArray) F Nw ⟨_, (Nw _ mo).1, rfl, ep, rfl⟩ (pval_part e2) (pval_part e3) (pval_part e4) h0 (fun h' F' N' => ?_) hs hv (by rw [List.size_toArray, sizeLine_eq]; omega)
    refine k _ h' _ g m ((_, isL (lsl (us.map er) lo hi st)) :: N) hg ⟨μ, _, F', lk, N', ⟨rfl, ⟨(slicePick us.toArray lo hi st).toList, 0, by rw [Array.toArray_toList], lsl_map us lo hi st⟩, d⟩, ?_⟩ (h _)
    rw [List.map_cons, List.nodup_cons]
    refine ⟨fun hm => ?_, nd⟩
    obtain ⟨q, hq, e⟩ := List.mem_map.mp hm
    exact absurd (Heap.lt_size (Nw q hq).1) (by rw [show q.1 = _ from e]; exact Nat.not_lt.mpr (Nat.le_succ _))⟩
theorem cal_join {x : Str} {l : Addr} {ys : List Str} (hl : (l, isL (svs ys)) ∈ N) (hok : (ys.map (·.length)).sum + ys.length * x.length ≤ 16777216) (h : K (.str (Txt.join x ys) 0) m N) : CalW c (.builtin "str.join") [.str x 0, .ref l] m N K := ⟨kep_builtin, fun f' vs e1 e2 => by
  obtain ⟨v, u, rfl, h1, h2⟩ := map_two e2
  rw [er_builtin e1, er_ref h2]
  obtain ⟨t1, rfl⟩ := er_str h1
  refine ⟨fun h0 tk g Q E hg a kk => ?_⟩
  obtain ⟨o1, ho1, us1, ep1, rfl, q1⟩ := a.get hl
  exact join_list (s := c.st h0 tk g) (items := us1.toArray) ⟨_, ho1, rfl, ep1, rfl⟩ (svs_are q1) hok fun t' k' => kk _ _ _ g m N hg a h⟩
theorem run_stepP {ns : List (Str × NameKind)} {cl : List (Str × Addr)} (Fc : Fn c ns cl) (n : Nat) {st : Stmt} {rest : List Stmt} {K : Kf} (P : Loc → Led → Prop)
    (h : vS1 c ns cl (vE c ns cl n) st m N fun f m N => match f with
      | .next => P m N
      | f => K f m N) (hP : ∀ m N, P m N → Run c erF (execs rest c.env) m N K) : Run c erF (execs (st :: rest) c.env) m N K := by
  refine ⟨fun h0 tk g Q E hg a k => wpAny_execs_cons ((vS1_sound Fc.G Fc.ns_ Fc.cl_ (vE_sound Fc.G Fc.ns_ Fc.cl_ Fc.plain n) h).go h0 tk g _ E hg a fun f h' tk' g' m' N' hg' a' q => ?_)⟩
  cases f with
  | next => exact (hP _ _ q).go h' tk' g' Q E hg' a' k
  | ret v => exact k _ h' tk' g' m' N' hg' a' q
  | brk => exact k _ h' tk' g' m' N' hg' a' q
  | cont => exact k _ h' tk' g' m' N' hg' a' q
end
end Mine
end
section
open PySem PySem.W PyProof.Rows PySem.Calls
set_option maxRecDepth 100000
namespace Mine
def revOf (b : Str) : Str := Txt.sliceBy b none none (-1, 0)
theorem revOf_eq (x : Str) (u : Tok) : Txt.sliceBy x none none (-1, u) = revOf x := by
  have h : (Txt.sliceBy x none none (-1, u)).cps.toList = (revOf x).cps.toList := by
    unfold revOf
    rw [step_rev_list, step_rev_list]
  have e : ∀ a b : Str, a.cps.toList = b.cps.toList → a = b := fun a b h => by
    cases a; cases b
    exact congrArg _ (Array.toList_inj.mp h)
  exact e _ _ h
section
variable {c : Cx} {m : Loc} {N : Led} {K : Kv}
theorem cmp_eq_str {x y : Str} (h : K (.bool (x == y)) m N) : Cmp c .Eq (.str x 0) (.str y 0) m N K := ⟨fun v u e1 e2 => by
  obtain ⟨t1, rfl⟩ := er_str e1
  obtain ⟨t2, rfl⟩ := er_str e2
  exact ⟨fun h0 tk g Q E hg a k => PyProof.Rows.eq_str (k _ _ _ g m N hg a h)⟩⟩
theorem cmp_in_str {x y : Str} (h : K (.bool !(Builtin.Str.occurrences x y 0 x.length 1).isEmpty) m N) : Cmp c .In (.str y 0) (.str x 0) m N K := ⟨fun v u e1 e2 => by
  obtain ⟨t1, rfl⟩ := er_str e1
  obtain ⟨t2, rfl⟩ := er_str e2
  exact ⟨fun h0 tk g Q E hg a k => PyProof.Rows.in_str (k _ _ _ g m N hg a h)⟩⟩
theorem cmp_notin_str {x y : Str} (h : K (.bool (!(!(Builtin.Str.occurrences x y 0 x.length 1).isEmpty))) m N) : Cmp c .NotIn (.str y 0) (.str x 0) m N K := ⟨fun v u e1 e2 => by
  obtain ⟨t1, rfl⟩ := er_str e1
  obtain ⟨t2, rfl⟩ := er_str e2
  exact ⟨fun h0 tk g Q E hg a k => PyProof.Rows.notIn_str (k _ _ _ g m N hg a h)⟩⟩
theorem sub_item {v i : Expr} {x : Str} {k : Int} (hx : x.length ≤ 1000) (h0 : -(x.length : Int) ≤ k) (h1 : k < x.length) (hs : ∀ t u, subscripted i false (.str x t) (.int k u) = operate [.str x t, .int k u] (getItem (.str x t) (.int k u))) (hv : ∀ t r, letTemporaryGo v (.str x t) r = pure ()) (h : K (.str (Txt.item x k) 0) m N) : Sub c v i (.str x 0) (.int k 0) m N K := ⟨fun o j e1 e2 => by
  obtain ⟨t1, rfl⟩ := er_str e1
  obtain ⟨t2, rfl⟩ := er_int e2
  exact ⟨fun h0' tk g Q E hg a kk => KXi.item rfl h0 h1 (by omega) (fun _ => kk _ _ _ g m N hg a h) (hs _ _) (hv _)⟩⟩
theorem sub_rev {v i : Expr} {x : Str} (hx : x.length ≤ 1000) (hs : ∀ t q, ∃ ops, subscripted i false (.str x t) (.ref q) = operate ops (getItem (.str x t) (.ref q))) (hv : ∀ t r, letTemporaryGo v (.str x t) r = pure ()) (h : K (.str (revOf x) 0) m N) : SubS c v i (.str x 0) .none .none (.int (-1) 0) m N K :=
  ⟨fun o' l' u' st' h0 tk g Q E e1 e2 e3 e4 hg a k => by
    obtain ⟨t1, rfl⟩ := er_str e1
    obtain ⟨t2, rfl⟩ := er_int e4
    rw [er_none e2, er_none e3]
    obtain ⟨μ, C, F, lk, Nw, d, nd⟩ := a.ex
    obtain ⟨ops, hs⟩ := hs t1 h0.objs.size
    refine subscriptTail_ops (typeIs_str _ _ _) PySem.F.slot_str_getitem.lookup (wpAny_getItem_str_slice (l := none) (u := none) (st := some (-1, t2)) ⟨_, Heap.get?_push_size _ rfl, rfl, rfl⟩ rfl (post_val_or_str ⟨Nat.le_trans (Txt.sliceBy_le x _ _ (-1, t2) (by simp)) (by rw [sizeLine_eq]; omega), fun t' c' => ?_⟩)) hs (hv _)
    obtain ⟨F', N'⟩ := keptFrN _ { cls := .type "slice", data := .fields #[.none, .none, .int (-1) t2] } ⟨F, Nw⟩
    refine k _ _ _ g m N hg ⟨μ, C, F', lk, N', d, nd⟩ ?_
    show K (.str (Txt.sliceBy x none none (-1, t2)) 0) m N
    rw [revOf_eq]; exact h⟩
theorem sub_strs {v i : Expr} {x : Str} {j : Int} (hx : x.length ≤ 1000) (hs : ∀ t q, subscripted i false (.str x t) (.ref q) = operate [.ref q, .str x t] (getItem (.str x t) (.ref q))) (hv : ∀ t r, letTemporaryGo v (.str x t) r = pure ()) (h : K (.str (Txt.slice x none (some j)) 0) m N) : SubS c v i (.str x 0) .none (.int j 0) .none m N K :=
  ⟨fun o' l' u' st' h0 tk g Q E e1 e2 e3 e4 hg a k => by
    obtain ⟨t1, rfl⟩ := er_str e1
    obtain ⟨t2, rfl⟩ := er_int e3
    rw [er_none e2, er_none e4]
    obtain ⟨μ, C, F, lk, Nw, d, nd⟩ := a.ex
    exact slice_strN_ns (s := c.st h0 tk g) F Nw (fun h' t' k' F' N' => k _ _ _ g m N hg ⟨μ, C, F', lk, N', d, nd⟩ h) (hs _ _) (hv _) (by rw [sizeLine_eq]; omega)⟩
theorem run_replace {ns : List (Str × NameKind)} {cl : List (Str × Addr)} (Fc : Fn c ns cl) {sx lx : Str} {x l s1 s2 s3 s4 : Str} {po pl p1 p2 p3 p4 p5 pc pi pa pos : PySem.Pos} {k1 k2 k3 k4 k5 : Nat}
    (hsx : ns.lookup sx = some .local) (hlx : ns.lookup lx = some .local) (hx : m.lookup sx = some (.str x 0)) (hl : m.lookup lx = some (.str l 0)) (hp : (pa.endLine == pos.line) = true)
    (hxl : x.length ≤ 1000) (hz : s4.length = 1) (h2 : (s2 == s4) = false) (h3 : (s3 == s4) = false) (hr : (replace1 x (if l == s1 then s2 else s3) s4).length ≤ 2000)
    (h : K (.str (replace1 x (if l == s1 then s2 else s3) s4) 0) m N) :
    Run c er (eval (.Call (.Attribute (.Name sx po) "replace" pa) [.IfExp (.Compare (.Name lx pl) [.Eq] [.Constant (.str s1) k1 p1] pc) (.Constant (.str s2) k2 p2) (.Constant (.str s3) k3 p3) pi, .Constant (.str s4) k4 p4, .Constant (.int 1) k5 p5] [] pos) c.env) m N K := by
  have hname : ∀ {y : Str} {v : Value} {p : PySem.Pos} {K : Kv}, ns.lookup y = some .local → m.lookup y = some v → K v m N → Run c er (eval (.Name y p) c.env) m N K := fun {y v p K} e1 e2 hk => by
    refine vName_sound Fc.G Fc.ns_ Fc.cl_ ?_ (plain_of Fc.plain e1).1 (plain_of Fc.plain e1).2
    unfold vName
    rw [e1, e2]
    exact hk
  have rep : ∀ {y : Str} (_ : (y == s4) = false) (_ : replace1 x y s4 = replace1 x (if l == s1 then s2 else s3) s4) {h0 : Heap} {t tk : Tok} {g : Array GenState} {Q E : Value → Shared → Prop}, AllBare g → At c h0 m N → (∀ v h' tk' g' m' N', AllBare g' → At c h' m' N' → K (er v) m' N' → Q v (c.st h' tk' g')) →
      wpAny c.M c.A (call (.builtin "str.replace") [.str x t, .str y (tk + 1), .str s4 (tk + 1 + 1), .int 1 (tk + 1 + 1 + 1)]) Q E (c.st h0 (tk + 1 + 1 + 1 + 1) g) := by
    intro y hy e h0 t tk g Q E hg a k
    refine call_replace1 (Nat.succ_ne_zero _) (Nat.succ_ne_zero _) (Nat.ne_of_lt (Nat.lt_succ_self _)) hy (by rw [hz]; rfl) ?_ (by rw [e, sizeLine_eq]; omega) fun t' k' => k _ _ _ g m N hg a (by rw [e]; exact h)
    have h1 := StrLaws.occ_length_le x y 0 x.length 1
    rw [hz]
    unfold Builtin.Str.tooLong sizeLine
    exact decide_eq_false (by omega)
  refine ⟨fun h0 tk g Q E hg a k => MethodCall_ ((hname (K := fun v m1 N1 => v = .str x 0 ∧ m1 = m ∧ N1 = N) hsx hx ⟨rfl, rfl, rfl⟩).go h0 tk g _ E hg a fun v h' tk' g' m' N' hg' a' q => ?_) (method_eq rfl rfl (show 3 < 30 by decide) hp)⟩
  obtain ⟨e1, rfl, rfl⟩ := q
  obtain ⟨t, rfl⟩ := er_str e1
  with_reducible refine getMethod_builtin (typeIs_str _ _ _) F.plainAttrs_str PySem.F.slot_str_replace PySem.F.type_str_replace ?nm ?_
  case nm => exact fun a e => nomatch e
  rw [back_plain c.env _ (es := [_, _, _]) rfl]
  refine callWith_of (P := fun _ => True) rfl (fun h _ => ⟨.machine, .inr (.inl rfl), .now⟩) (evalArgs_plain (spliced_cons (IfExp_ (wpAny_isTrue_Compare1 ((hname (K := fun v m1 N1 => v = .str l 0 ∧ m1 = m' ∧ N1 = N') hlx hl ⟨rfl, rfl, rfl⟩).go h' tk' g' _ E hg' a' fun v h1 tk1 g1 m1 N1 hg1 a1 q => ?_) rfl))))
  obtain ⟨e2, rfl, rfl⟩ := q
  obtain ⟨t2, rfl⟩ := er_str e2
  refine Constant_str (PyProof.Rows.eq_str (wpAny_truthy_bool ?_))
  cases hb : l == s1
  · rw [hb] at rep
    exact Constant_str (spliced_cons (Constant_str (spliced_cons (wpAny_Constant_int (spliced_nil ⟨trivial, rep h3 rfl hg1 a1 k⟩)))))
  · rw [hb] at rep
    exact Constant_str (spliced_cons (Constant_str (spliced_cons (wpAny_Constant_int (spliced_nil ⟨trivial, rep h2 rfl hg1 a1 k⟩)))))
theorem run_asgR {ns : List (Str × NameKind)} {cl : List (Str × Addr)} (Fc : Fn c ns cl) {x : Str} {p q : PySem.Pos} {v : Expr} {rest : List Stmt} {K : Kf} (hc : notComp v = true)
    (h : Run c er (eval v c.env) m N fun a m N => vSto ns cl x a m N fun m N => Run c erF (execs rest c.env) m N K) : Run c erF (execs (.Assign [.Name x p] v q :: rest) c.env) m N K :=
  ⟨fun h0 tk g Q E hg a k => wpAny_execs_cons (wpAny_Assign_Name (h.go h0 tk g _ E hg a fun v h' tk' g' m' N' hg' a' q => (vSto_sound Fc.G Fc.ns_ Fc.cl_ q).go h' tk' g' _ E hg' a' fun _ h2 tk2 g2 m2 N2 hg2 a2 q2 => q2.go h2 tk2 g2 Q E hg2 a2 k) (swaps_none hc _ _ _))⟩
end
end Mine
end
section
open PySem PySem.W PyProof.Rows PySem.Calls
set_option maxRecDepth 100000
namespace Mine
theorem svs_values (l : List (Str × Tok)) : (strValues l).map er = svs (l.map (·.1)) := by
  unfold strValues svs
  rw [List.map_map, List.map_map]
  rfl
section
variable {c : Cx} {m : Loc} {N : Led} {K : Kv}
theorem cal_split {x y : Str} (hy : (y.length == 0) = false) (hx : x.length ≤ 1000) (h : ∀ D, K (.ref D) m ((D, isL (svs (Txt.split x y))) :: N)) : CalW c (.builtin "str.split") [.str x 0, .str y 0] m N K := ⟨kep_builtin, fun f' vs e1 e2 => by
  obtain ⟨v, u, rfl, h1, h2⟩ := map_two e2
  rw [er_builtin e1]
  obtain ⟨t1, rfl⟩ := er_str h1
  obtain ⟨t2, rfl⟩ := er_str h2
  refine ⟨fun h0 tk g Q E hg a k => ?_⟩
  obtain ⟨μ, C, F, lk, Nw, d, nd⟩ := a.ex
  refine KSpl.split1 (s := c.st h0 tk g) F Nw hy (fun D l h' k' e _ F' N' lt => ?_) (by rw [sizeLine_eq]; omega)
  refine k _ h' k' g m ((D, isL (svs (Txt.split x y))) :: N) hg ⟨μ, _, F', lk, N', ⟨rfl, ⟨strValues l, 0, rfl, by rw [svs_values, e]⟩, d⟩, ?_⟩ (h _)
  rw [List.map_cons, List.nodup_cons]
  refine ⟨fun hm => ?_, nd⟩
  obtain ⟨q, hq, e⟩ := List.mem_map.mp hm
  exact absurd (lt q hq) (by rw [show q.1 = _ from e]; exact Nat.lt_irrefl _)⟩
theorem cal_startswith {x y : Str} (h : K (.bool (Txt.startswith x y)) m N) : CalW c (.builtin "str.startswith") [.str x 0, .str y 0] m N K := ⟨kep_builtin, fun f' vs e1 e2 => by
  obtain ⟨v, u, rfl, h1, h2⟩ := map_two e2
  rw [er_builtin e1]
  obtain ⟨t1, rfl⟩ := er_str h1
  obtain ⟨t2, rfl⟩ := er_str h2
  exact ⟨fun h0 tk g Q E hg a k => SC.startswith (k _ _ _ g m N hg a h)⟩⟩
theorem tru_str {x : Str} {K : Bool → Loc → Led → Prop} (hx : x.length ≤ 1000) (h : K ((x.length : Int) != 0) m N) : Tru c (.str x 0) m N K := ⟨fun v e => by
  obtain ⟨t1, rfl⟩ := er_str e
  exact ⟨fun h0 tk g Q E hg a k => P.truthy_str (by omega) (k _ _ _ g m N hg a h)⟩⟩
theorem sub_listN {v i : Expr} {l : Addr} {vs : List Value} {k : Int} {x : Value} (hl : (l, isL vs) ∈ N) (h0 : k < 0) (h1 : -(vs.length : Int) ≤ k) (hfit : -1000 ≤ k) (hx : vs[(k + vs.length).toNat]? = some x) (hs : ∀ t, subscripted i false (.ref l) (.int k t) = operate [.ref l, .int k t] (getItem (.ref l) (.int k t))) (hv : ∀ r, letTemporaryGo v (.ref l) r = pure ()) (h : K x m N) : Sub c v i (.ref l) (.int k 0) m N K := ⟨fun o j e1 e2 => by
  rw [er_ref e1]
  obtain ⟨t2, rfl⟩ := er_int e2
  refine ⟨fun h0' tk g Q E hg a kk => ?_⟩
  obtain ⟨o, ho, us, ep, rfl, rfl⟩ := a.get hl
  rw [List.length_map] at hx h1
  rw [List.getElem?_map] at hx
  obtain ⟨y, hy, rfl⟩ := Option.map_eq_some_iff.mp hx
  have hl : (c.st h0' tk g).heap.IsList l us.toArray := ⟨_, ho, rfl, ep, rfl⟩
  exact subscriptTail_builtin hl.typeIs slot_list_getitem.lookup (wpAny_getItem_list_neg hl h0 (by rw [List.size_toArray]; exact h1) (by omega) (by rw [List.size_toArray, List.getElem?_toArray]; exact hy) (kk _ _ _ g m N hg a h)) (hs _) hv⟩
theorem ipl_add {a b : Int} (h : K (.int (a + b) 0) m N) : Ipl c .Add (.int a 0) (.int b 0) m N K := ⟨fun v u e1 e2 => by
  obtain ⟨t1, rfl⟩ := er_int e1
  obtain ⟨t2, rfl⟩ := er_int e2
  exact ⟨fun h0 tk g Q E hg a k => P.iadd_int (k _ _ _ g m N hg a h)⟩⟩
theorem run_del {ns : List (Str × NameKind)} {cl : List (Str × Addr)} (Fc : Fn c ns cl) {x : Str} {px pk p q : PySem.Pos} {kk : Nat} {l : Addr} {vs : List Value} {g : AO → Led} {rest : List Stmt} {K : Kf} (hx : ns.lookup x = some .local) (hm : m.lookup x = some (.ref l)) (hp : Pos l (isL vs) N g) (h0 : 0 < vs.length) (hb : vs.length ≤ 1000)
    (h : Run c erF (execs rest c.env) m (g (isL (vs.drop 1))) K) : Run c erF (execs (.Delete [.Subscript (.Name x px) (.Constant (.int 0) kk pk) p] q :: rest) c.env) m N K := by
  refine ⟨fun h0' tk gg Q E hg a k => wpAny_execs_cons (wpAny_Delete (wpAny_deleteEach_cons (wpAny_delete_Subscript ?_)))⟩
  have e1 : Run c er (eval (.Name x px) c.env) m N fun v m1 N1 => v = .ref l ∧ m1 = m ∧ N1 = N := by
    refine vName_sound Fc.G Fc.ns_ Fc.cl_ ?_ (plain_of Fc.plain hx).1 (plain_of Fc.plain hx).2
    unfold vName
    rw [hx, hm]
    exact ⟨rfl, rfl, rfl⟩
  refine e1.go h0' tk gg _ E hg a fun v h' tk' g' m' N' hg' a' q => ?_
  obtain ⟨e2, rfl, rfl⟩ := q
  rw [er_ref e2]
  obtain ⟨o, ho, us, ep, rfl, rfl⟩ := pos_get a' hp
  rw [List.length_map] at h0 hb
  refine wpAny_Constant_int (P.delItem_list (n := ep) (k := 0) ho (by rfl) ?_ (wpAny_deleteEach_nil ?_) (by rw [List.size_toArray, sizeLine_eq]; omega))
  · unfold seqIndex?
    rw [List.size_toArray]
    have e0 : (if (0 : Int) < 0 then (0 : Int) + (us.length : Int) else 0) = 0 := rfl
    rw [e0, if_pos (by rw [Bool.and_eq_true, decide_eq_true_eq, decide_eq_true_eq]; omega)]
    rfl
  · refine h.go _ _ _ Q E hg' (upd_list (f := fun xs => xs.eraseIdxIfInBounds 0) (ws := (us.map er).drop 1) a' hp ho ?_) k
    rw [Array.toList_eraseIdxIfInBounds, ← List.map_drop]
    cases us with
    | nil => rfl
    | cons u us => rfl
end
end Mine
end
section
open PySem PySem.W PyProof.Rows
set_option maxRecDepth 100000
namespace Mine
theorem and_high (a k : Nat) : a &&& (a / 2 ^ k * 2 ^ k) = a / 2 ^ k * 2 ^ k := by
  apply Nat.eq_of_testBit_eq
  intro i
  rw [Nat.testBit_and, ← Nat.shiftRight_eq_div_pow, ← Nat.shiftLeft_eq, Nat.testBit_shiftLeft, Nat.testBit_shiftRight]
  by_cases h : k ≤ i
  · rw [Nat.add_sub_cancel' h]; simp [h]
  · simp [h]
theorem xor_low {a : Int} (k : Nat) (ha : 0 ≤ a) : Builtin.bitXor a (a / 2 ^ k * 2 ^ k) = a % 2 ^ k := by
  have hp : (0 : Int) < 2 ^ k := Int.pow_pos (by decide)
  have h2 : 0 ≤ a / 2 ^ k * 2 ^ k := Int.mul_nonneg (Int.ediv_nonneg ha (Int.le_of_lt hp)) (Int.le_of_lt hp)
  rw [bitXor_and, bitAnd_pp ha h2]
  obtain ⟨n, rfl⟩ := Int.eq_ofNat_of_zero_le ha
  have e : ((n : Int) / 2 ^ k * 2 ^ k) = ((n / 2 ^ k * 2 ^ k : Nat) : Int) := by push_cast; rfl
  rw [e, Int.toNat_natCast, Int.toNat_natCast, and_high]
  have e3 : ((n : Int) % 2 ^ k) = ((n % 2 ^ k : Nat) : Int) := by push_cast; rfl
  rw [e3]
  have := Nat.div_add_mod n (2 ^ k)
  rw [Nat.mul_comm] at this
  omega
def dg (n x i : Int) : Int := x / 2 ^ (n * i).toNat % 2 ^ n.toNat
def Fill (n x l r : Int) (ns ns' : List Int) : Prop := ns'.length = ns.length ∧ ∀ i : Nat, ns'.getD i 0 = if l ≤ (i : Int) ∧ (i : Int) < r then dg n x (i - l) else ns.getD i 0
theorem two_pow_pos (k : Nat) : (0 : Int) < 2 ^ k := Int.pow_pos (by decide)
theorem mod_div_mod (x : Int) (a b d : Nat) : x % 2 ^ (a + b + d) / 2 ^ a % 2 ^ b = x / 2 ^ a % 2 ^ b := by
  have e : (2 : Int) ^ (a + b + d) = 2 ^ a * (2 ^ b * 2 ^ d) := by rw [Int.pow_add, Int.pow_add, Int.mul_assoc]
  have h1 : x % 2 ^ (a + b + d) = x + 2 ^ a * (-(2 ^ b * 2 ^ d * (x / 2 ^ (a + b + d)))) := by
    rw [Int.emod_def, e, Int.sub_eq_add_neg, Int.mul_assoc, Int.mul_neg]
  rw [h1, Int.add_mul_ediv_left _ _ (Int.ne_of_gt (two_pow_pos a))]
  have h2 : -(2 ^ b * 2 ^ d * (x / 2 ^ (a + b + d))) = 2 ^ b * (-(2 ^ d * (x / 2 ^ (a + b + d)))) := by rw [Int.mul_neg, Int.mul_assoc]
  rw [h2, Int.add_mul_emod_self_left]
theorem dg_low {n x i S : Int} (hn : 1 ≤ n) (hi : 0 ≤ i) (hS : n * i + n ≤ S) : dg n (x % 2 ^ S.toNat) i = dg n x i := by
  unfold dg
  have h0 : 0 ≤ n * i := Int.mul_nonneg (by omega) hi
  have e : S.toNat = (n * i).toNat + n.toNat + (S - n * i - n).toNat := by omega
  rw [e]
  exact mod_div_mod x _ _ _
theorem dg_high {n x i j : Int} (hn : 1 ≤ n) (hi : 0 ≤ i) (hj : 0 ≤ j) : dg n (x / 2 ^ (j * n).toNat) i = dg n x (j + i) := by
  unfold dg
  have h0 : 0 ≤ n * i := Int.mul_nonneg (by omega) hi
  have h1 : 0 ≤ j * n := Int.mul_nonneg hj (by omega)
  have e : (n * (j + i)).toNat = (j * n).toNat + (n * i).toNat := by
    rw [Int.mul_add, Int.mul_comm n j]; omega
  rw [e, Int.pow_add, Int.ediv_ediv_of_nonneg (Int.le_of_lt (two_pow_pos _))]
theorem fill_leaf {n x l : Int} {ns : List Int} (hx : 0 ≤ x) (hx2 : x < 2 ^ n.toNat) (h0 : 0 ≤ l) (hl : l < ns.length) : Fill n x l (l + 1) ns (ns.set l.toNat x) := by
  refine ⟨List.length_set .., fun i => ?_⟩
  by_cases h : (i : Int) = l
  · rw [if_pos (by omega)]
    subst h
    rw [List.getD_eq_getElem?_getD, Int.toNat_natCast, List.getElem?_set_self (by omega), Option.getD_some]
    unfold dg
    rw [Int.sub_self, Int.mul_zero, Int.toNat_zero, Int.pow_zero, Int.ediv_one, Int.emod_eq_of_lt hx hx2]
  · rw [if_neg (by omega), List.getD_eq_getElem?_getD, List.getElem?_set_ne (by omega), ← List.getD_eq_getElem?_getD]
theorem fill_join {n x l mid r : Int} {ns ns1 ns2 : List Int} (hn : 1 ≤ n) (h1 : l ≤ mid) (h2 : mid ≤ r) (a : Fill n (x % 2 ^ ((mid - l) * n).toNat) l mid ns ns1) (b : Fill n (x / 2 ^ ((mid - l) * n).toNat) mid r ns1 ns2) : Fill n x l r ns ns2 := by
  refine ⟨b.1.trans a.1, fun i => ?_⟩
  rw [b.2 i, a.2 i]
  by_cases c1 : mid ≤ (i : Int) ∧ (i : Int) < r
  · rw [if_pos c1, if_pos (by omega), dg_high hn (by omega) (by omega)]
    congr 1; omega
  · rw [if_neg c1]
    by_cases c2 : l ≤ (i : Int) ∧ (i : Int) < mid
    · rw [if_pos c2, if_pos (by omega), dg_low hn (by omega)]
      have e : n * ((i : Int) - l) + n = n * ((i : Int) - l + 1) := by rw [Int.mul_add, Int.mul_one]
      rw [e, Int.mul_comm (mid - l) n]
      exact Int.mul_le_mul_of_nonneg_left (by omega) (by omega)
    · rw [if_neg c2, if_neg (by omega)]
theorem dg_split {n l mid r x : Int} (hn : 1 ≤ n) (h1 : l ≤ mid) (h2 : mid ≤ r) (_hx : 0 ≤ x) (hx2 : x < 2 ^ (n * (r - l)).toNat) : x / 2 ^ ((mid - l) * n).toNat < 2 ^ (n * (r - mid)).toNat := by
  have a1 : 0 ≤ (mid - l) * n := Int.mul_nonneg (by omega) (by omega)
  have a2 : 0 ≤ n * (r - mid) := Int.mul_nonneg (by omega) (by omega)
  have e : (n * (r - l)).toNat = (n * (r - mid)).toNat + ((mid - l) * n).toNat := by
    have : n * (r - l) = n * (r - mid) + (mid - l) * n := by
      rw [Int.mul_comm (mid - l) n, ← Int.mul_add]; congr 1; omega
    omega
  refine Int.ediv_lt_of_lt_mul (two_pow_pos _) ?_
  rw [← Int.pow_add, ← e]; exact hx2
theorem i2d_arith {x l r n M S U V W : Int} (h1 : 2 * M ≤ l + r) (h2 : l + r < 2 * M + 2) (eS : S = (M - l) * n) (eU : U = x / 2 ^ S.toNat) (eV : V = U * 2 ^ S.toNat) (eW : W = Builtin.bitXor x V)
    (hx : 0 ≤ x) (hx2 : x < 2 ^ (n * (r - l)).toNat) (hlr : l < r) (hne : l + 1 ≠ r) (hn : 1 ≤ n) :
    l < M ∧ M < r ∧ W = x % 2 ^ ((M - l) * n).toNat ∧ U = x / 2 ^ ((M - l) * n).toNat ∧ 0 ≤ W ∧ W ≤ x ∧ W < 2 ^ (n * (M - l)).toNat ∧ U < 2 ^ (n * (r - M)).toNat := by
  have hM1 : l < M := by omega
  have hM2 : M < r := by omega
  subst eS eU eV
  have e : W = x % 2 ^ ((M - l) * n).toNat := by rw [eW, xor_low _ hx]
  refine ⟨hM1, hM2, e, rfl, ?_, ?_, ?_, dg_split hn (by omega) (by omega) hx hx2⟩
  · rw [e]; exact Int.emod_nonneg _ (Int.ne_of_gt (two_pow_pos _))
  · rw [e]; have h0 := Int.mul_nonneg (Int.le_of_lt (two_pow_pos ((M - l) * n).toNat)) (Int.ediv_nonneg hx (Int.le_of_lt (two_pow_pos ((M - l) * n).toNat))); rw [Int.emod_def]; omega
  · rw [e, Int.mul_comm n]; exact Int.emod_lt_of_pos _ (two_pow_pos _)
def Digits (n a K : Int) (ds : List Int) : Prop := ds.length = K.toNat ∧ ∀ i : Nat, ds.getD i 0 = if (i : Int) < K then dg n a i else 0
theorem bits_zero {n : Int} (hn : 1 ≤ n) : ((Builtin.Int.intBits 0 : Int) + n - 1).fdiv n = 0 := by
  rw [show Builtin.Int.intBits 0 = 0 from rfl, Int.fdiv_eq_ediv_of_nonneg _ (by omega)]
  exact Int.ediv_eq_zero_of_lt (by omega) (by omega)
theorem bits_fill {n a K : Int} (hn : 1 ≤ n) (ha : 0 ≤ a) (hK : ((Builtin.Int.intBits a : Int) + n - 1).fdiv n = K) : a < 2 ^ (n * K).toNat ∧ (a ≠ 0 → 0 < K) ∧ 0 ≤ K := by
  rw [Int.fdiv_eq_ediv_of_nonneg _ (by omega)] at hK
  have h1 := Int.mul_ediv_add_emod ((Builtin.Int.intBits a : Int) + n - 1) n
  have h2 := Int.emod_lt_of_pos ((Builtin.Int.intBits a : Int) + n - 1) (show 0 < n by omega)
  have h3 := Int.emod_nonneg ((Builtin.Int.intBits a : Int) + n - 1) (show n ≠ 0 by omega)
  rw [hK] at h1
  have hb : Builtin.Int.intBits a ≤ (n * K).toNat := by omega
  have h4 := intBits_le_iff.mp hb
  have e : ((2 ^ (n * K).toNat : Nat) : Int) = (2 : Int) ^ (n * K).toNat := by push_cast; rfl
  have hK0 : 0 ≤ K := by rw [← hK]; exact Int.ediv_nonneg (by omega) (by omega)
  refine ⟨by omega, fun h0 => ?_, hK0⟩
  rcases Int.lt_or_eq_of_le hK0 with h | h
  · exact h
  · exfalso
    subst h
    rw [Int.mul_zero] at h4
    simp at h4
    exact h0 h4
theorem fill_digits {n a K : Int} {v : Int} {ds : List Int} (hK : 0 ≤ K) (hv : v = 0) (h : Fill n a 0 K (List.replicate K.toNat v) ds) : Digits n a K ds := by
  refine ⟨by rw [h.1, List.length_replicate], fun i => ?_⟩
  rw [h.2 i]
  by_cases c : (i : Int) < K
  · rw [if_pos ⟨by omega, c⟩, if_pos c, Int.sub_zero]
  · rw [if_neg (fun x => c x.2), if_neg c, List.getD_eq_getElem?_getD, List.getElem?_eq_none (by rw [List.length_replicate]; omega), Option.getD_none]
theorem pow2_ge_one (j : Nat) : (1 : Int) ≤ 2 ^ j := two_pow_pos j
theorem two_pow_halve {j : Nat} {d : Int} (h2 : 2 ≤ d) (h : d ≤ 2 ^ j) : ∃ j', j = j' + 1 ∧ d ≤ 2 * 2 ^ j' := by
  cases j with
  | zero => rw [Int.pow_zero] at h; omega
  | succ j => exact ⟨j, rfl, by rw [Int.pow_succ] at h; omega⟩
end Mine
end
section
open PySem
namespace Mine
def dv (n : Nat) : List Int → Int
  | [] => 0
  | d :: ds => d + 2 ^ n * dv n ds
theorem dv_append (n : Nat) : ∀ a b : List Int, dv n (a ++ b) = dv n a + 2 ^ (n * a.length) * dv n b
  | [], b => by rw [List.nil_append, List.length_nil, Nat.mul_zero, Int.pow_zero, Int.one_mul]; show _ = 0 + _; omega
  | d :: a, b => by
    show d + 2 ^ n * dv n (a ++ b) = d + 2 ^ n * dv n a + _
    rw [dv_append n a b, List.length_cons, Nat.mul_add, Nat.mul_one, Int.pow_add, Int.mul_add, Int.add_assoc, Int.mul_comm (2 ^ (n * a.length)) (2 ^ n), Int.mul_assoc]
theorem dv_bound (n : Nat) : ∀ ds : List Int, (∀ d ∈ ds, 0 ≤ d ∧ d < 2 ^ n) → 0 ≤ dv n ds ∧ dv n ds < 2 ^ (n * ds.length)
  | [], _ => ⟨Int.le_refl _, by show (0 : Int) < 2 ^ (n * 0); rw [Nat.mul_zero]; decide⟩
  | d :: ds, h => by
    obtain ⟨i1, i2⟩ := dv_bound n ds fun d hd => h d (.tail _ hd)
    obtain ⟨h1, h2⟩ := h d (.head _)
    have p := two_pow_pos n
    show 0 ≤ d + 2 ^ n * dv n ds ∧ d + 2 ^ n * dv n ds < 2 ^ (n * (ds.length + 1))
    have m1 : 0 ≤ 2 ^ n * dv n ds := Int.mul_nonneg (Int.le_of_lt p) i1
    have m2 : 2 ^ n * (dv n ds + 1) ≤ 2 ^ n * 2 ^ (n * ds.length) := Int.mul_le_mul_of_nonneg_left (by omega) (Int.le_of_lt p)
    rw [Int.mul_add, Int.mul_one] at m2
    rw [Nat.mul_add, Nat.mul_one, Nat.add_comm, Int.pow_add]
    exact ⟨by omega, by omega⟩
def sl (ds : List Int) (l r : Int) : List Int := (ds.drop l.toNat).take (r - l).toNat
theorem sl_one {ds : List Int} {l : Int} (h0 : 0 ≤ l) (h1 : l < ds.length) : ∃ x, ds[l.toNat]? = some x ∧ sl ds l (l + 1) = [x] := by
  have h : l.toNat < ds.length := by omega
  refine ⟨ds[l.toNat], List.getElem?_eq_getElem h, ?_⟩
  unfold sl
  rw [List.drop_eq_getElem_cons h, show (l + 1 - l).toNat = 1 by omega]
  rfl
theorem sl_split {ds : List Int} {l k r : Int} (h0 : 0 ≤ l) (h1 : l ≤ k) (h2 : k ≤ r) (h3 : r ≤ ds.length) : sl ds l r = sl ds l k ++ sl ds k r ∧ (sl ds l k).length = (k - l).toNat := by
  unfold sl
  have e : (r - l).toNat = (k - l).toNat + (r - k).toNat := by omega
  constructor
  · rw [e, List.take_add, List.drop_drop, show l.toNat + (k - l).toNat = k.toNat by omega]
  · rw [List.length_take, List.length_drop]; omega
theorem sl_mem {ds : List Int} {l r d : Int} (h : d ∈ sl ds l r) : d ∈ ds := List.mem_of_mem_drop (List.mem_of_mem_take h)
theorem sl_all (ds : List Int) : sl ds 0 ds.length = ds := by
  unfold sl
  rw [Int.toNat_zero, List.drop_zero, show ((ds.length : Int) - 0).toNat = ds.length by omega, List.take_length]
theorem sl_len {ds : List Int} {l r : Int} (h0 : 0 ≤ l) (h1 : l ≤ r) (h3 : r ≤ ds.length) : (sl ds l r).length = (r - l).toNat := by
  unfold sl
  rw [List.length_take, List.length_drop]; omega
theorem dv_join {n : Int} {ds : List Int} {l k r : Int} (hn : 0 ≤ n) (h0 : 0 ≤ l) (h1 : l ≤ k) (h2 : k ≤ r) (h3 : r ≤ ds.length) : dv n.toNat (sl ds k r) * 2 ^ ((k - l) * n).toNat + dv n.toNat (sl ds l k) = dv n.toNat (sl ds l r) := by
  obtain ⟨e, e2⟩ := sl_split h0 h1 h2 h3
  rw [e, dv_append, e2, show n.toNat * (k - l).toNat = ((k - l) * n).toNat by rw [Int.mul_comm, Int.toNat_mul hn (by omega)], Int.mul_comm, Int.add_comm]
theorem dv_small {n : Int} {ds : List Int} {l r : Int} (hn : 0 ≤ n) (h0 : 0 ≤ l) (h1 : l ≤ r) (h3 : r ≤ ds.length) (hd : ∀ d ∈ ds, 0 ≤ d ∧ d < 2 ^ n.toNat) (hl : n * ds.length ≤ 40) : (dv n.toNat (sl ds l r)).natAbs < 1099511627776 := by
  obtain ⟨b1, b2⟩ := dv_bound n.toNat (sl ds l r) fun d h => hd d (sl_mem h)
  rw [sl_len h0 h1 h3] at b2
  have : n.toNat * (r - l).toNat ≤ 40 := by
    have q : n * (r - l) ≤ n * ds.length := Int.mul_le_mul_of_nonneg_left (by omega) hn
    rw [← Int.toNat_mul hn (by omega)]
    omega
  have q2 : (2 : Int) ^ (n.toNat * (r - l).toNat) ≤ 2 ^ 40 := by exact_mod_cast Nat.pow_le_pow_right (by decide : 0 < 2) this
  have q3 : (2 : Int) ^ 40 = 1099511627776 := by decide
  omega
end Mine
end
section
open PySem PySem.W PyProof.Rows PySem.Calls
set_option maxRecDepth 100000
namespace Mine
def Knows (m : Loc) : Loc → Prop
  | [] => True
  | p :: k => m.lookup p.1 = some p.2 ∧ Knows m k
theorem Knows.look {m : Loc} : ∀ {k : Loc}, Knows m k → ∀ x, m.lookup x = (k ++ m).lookup x
  | [], _, x => rfl
  | (y, v) :: k, h, x => by
    show _ = List.lookup x ((y, v) :: (k ++ m))
    rw [List.lookup_cons]
    by_cases e : (x == y) = true
    · rw [e, eq_of_beq e]; exact h.1
    · rw [Bool.eq_false_iff.mpr e]; exact Knows.look h.2 x
theorem Run.knows {α : Type} {c : Cx} {e : α → α} {t : Sem α} {m k : Loc} {N : Led} {K : α → Loc → Led → Prop} (h : Knows m k) (H : Run c e t (k ++ m) N K) : Run c e t m N K := H.ext h.look
theorem div_ctr (w : World) (a b n : Int) (N : Led) (ha : 0 ≤ a) (ha2 : a < 1152921504606846976) (hb : 0 < b) (hb2 : b < 1073741824) (hn : 0 ≤ n) :
    Ctr w 800 5000 (.ref 28) [.int a 0, .int b 0, .int n 0] N (fun v N' => ∃ t, v = .ref t ∧ N' = (t, isT [.int (a / b) 0, .int (a % b) 0]) :: N) := by
  show (fun (_ : OpenLaw) (_ : Params → Frag) => Ctr w 800 5000 (.ref 28) [.int a 0, .int b 0, .int n 0] N (fun v N' => ∃ t, v = .ref t ∧ N' = (t, isT [.int (a / b) 0, .int (a % b) 0]) :: N)) Challenge.rw_re0116_01 Mine.hd.heap_1
  k_fill
  show Ctr w 800 5000 (.ref 28) [.int a 0, .int b 0, .int n 0] N (fun v N' => ∃ t, v = .ref t ∧ N' = (t, isT [.int (a / b) 0, .int (a % b) 0]) :: N)
  k_dflt (refine' ctr_def (binds := [("a", .int a 0), ("b", .int b 0), ("n", .int n 0)]) ?hk ?hcd ?hkp ?hd ?hu ?hb ?hloc ?hcell ?hco ?hgen ?hkind ?H)
  case hk => k_is
  case hcd => k_is
  case hkp => k_is
  case hd => decide
  case hu => decide
  case hb =>
    intro vals s e
    obtain ⟨v, u, z, rfl, h1, h2, h3⟩ := map_three e
    exact ⟨_, BindsTo.of_eq rfl, by rw [← h1, ← h2, ← h3]; rfl⟩
  case hloc => exact rfl
  case hcell => decide
  case hco => exact rfl
  case hgen => exact rfl
  case hkind => exact rfl
  case H =>
    intro c G hw hcs hcl hdp hun
    have Fc : Fn c _ [] := ⟨G, congrArg Scope.names hcs, hcl, by decide +kernel⟩
    have hb64 : Builtin.Int.intBits a ≤ 64 := intBits_le_64 (by omega) (by omega)
    refine run_step Fc 9 ?_
    refine And.intro rfl ?_
    refine And.intro rfl ?_
    refine get_bits ?_
    refine cal_bits ?_
    refine bin_sub ?_
    refine cmp_le ?_
    refine tru_bool ?_
    refine iteT (by rw [decide_eq_true_eq]; omega) ?_
    refine run_step Fc 9 ?_
    refine And.intro rfl ?_
    refine cal_divmod hb ha (by omega) hb2 ?_
    intro t
    exact ⟨_, .all, t, rfl, rfl⟩
end Mine
end
section
open PySem PySem.W PyProof.Rows PySem.Calls
set_option maxRecDepth 100000
namespace Mine
def isAcc (dx : Addr) (vs : List Value) : AO := fun o => ∃ (cs : List Value) (ep : Nat), o = { cls := .ref 157, dict := some dx, data := .seq cs.toArray ep, slots := #[] } ∧ cs.map er = vs
def iniObj (h : Int) (t : Tok) (v : Value) : Obj := { cls := .type "dict", dict := none, data := .dict #[⟨h, .str "_initial_size" t, v⟩] 1, slots := #[] }
def isIni : AO := fun o => ∃ h t v, o = iniObj h t v
def accF : List (Str × Addr) := [("push", 101), ("pop_from", 109), ("pop", 117), ("part_count", 154), ("__str__", 131), ("__init__", 94)]
def accB : List (Str × String) := [("append", "list.append"), ("__getitem__", "list.__getitem__"), ("__setitem__", "list.__setitem__"), ("__iter__", "list.__iter__"), ("__getattribute__", "list.__getattribute__"), ("__setattr__", "object.__setattr__"), ("__new__", "list.__new__")]
theorem acc_find (w : World) : ∀ q ∈ accF, findIn (Mine.hd.heap_1 w.params) (.ref 157) q.1 = some (some (.ref q.2)) ∧ typeIn (Mine.hd.heap_1 w.params) (.ref q.2) = some (.type "function") := by
  intro q hq
  simp only [accF, List.mem_cons, List.mem_nil_iff, or_false] at hq
  rcases hq with rfl | rfl | rfl | rfl | rfl | rfl <;> exact ⟨by kernel_rfl, by kernel_rfl⟩
theorem acc_findB (w : World) : ∀ q ∈ accB, findIn (Mine.hd.heap_1 w.params) (.ref 157) q.1 = some (some (.builtin q.2)) := by
  intro q hq
  simp only [accB, List.mem_cons, List.mem_nil_iff, or_false] at hq
  rcases hq with rfl | rfl | rfl | rfl | rfl | rfl | rfl <;> kernel_rfl
theorem acc_hook (w : World) : findIn (Mine.hd.heap_1 w.params) (.ref 157) "__getattr__" = some none := by kernel_rfl
theorem acc_list (w : World) : mroIn (Mine.hd.heap_1 w.params) 157 (.type "list") = some true := by kernel_rfl
theorem acc_canon : Manifest.canonical "list.__getattribute__" = "object.__getattribute__" := by decide +kernel
section
variable {c : Cx} {m : Loc} {N : Led} {K : Kv}
theorem acc_inst {h : Heap} {x dx : Addr} {vs : List Value} {d : AO} (a : At c h m N) (hm : (x, isAcc dx vs) ∈ N) (hd : (dx, d) ∈ N) :
    ∃ (cs : List Value) (ep : Nat) (od : Obj), InstAt h x { cls := .ref 157, dict := some dx, data := .seq cs.toArray ep, slots := #[] } 157 (some od) ∧ cs.map er = vs ∧ d od ∧ h.get? dx = some od := by
  obtain ⟨o, ho, cs, ep, rfl, e⟩ := a.get hm
  obtain ⟨od, hod, hd⟩ := a.get hd
  exact ⟨cs, ep, od, ⟨ho, rfl, rfl, hod⟩, e, hd, hod⟩
theorem at_in (G : Good c) {h : Heap} (a : At c h m N) : (HP c).In h := by
  obtain ⟨μ, C, F, r⟩ := a.ex
  exact G.X.keeps F.keep
theorem ini_free {h : Int} {t : Tok} {v : Value} {name : Str} (hn : (("_initial_size" : Str) == name) = false) : lookIn name (iniObj h t v) = some none := by
  have e : (Value.str "_initial_size" t).isStr name = false := hn
  unfold lookIn iniObj
  dsimp only
  rw [List.find?_cons, e]
  rfl
theorem get_acc (G : Good c) {x dx : Addr} {vs : List Value} {name : Str} {f : Value} {ft : String} {K : Value → List Value → Loc → Led → Prop} (hm : (x, isAcc dx vs) ∈ N) (hd : (dx, isIni) ∈ N) (hn : (("_initial_size" : Str) == name) = false)
    (hf : findIn (HP c) (.ref 157) name = some (some f)) (ht : typeIn (HP c) f = some (.type ft)) (hft : (Value.type ft != .type "function" && Value.type ft != .type "method_descriptor" && Value.type ft != .type "wrapper_descriptor") = false) (h : K (er f) [.ref x] m N) : Get c (.ref x) name m N K := ⟨fun o pl e => by
  rw [er_ref e]
  refine ⟨fun h0 tk g Q E hg a k => ?_⟩
  obtain ⟨cs, ep, od, I, e, ⟨hh, t, v, rfl⟩, hod⟩ := acc_inst a hm hd
  have X := at_in G a
  have hga := acc_findB c.w _ (show (("__getattribute__" : Str), "list.__getattribute__") ∈ accB from .tail _ (.tail _ (.tail _ (.tail _ (.head _)))))
  have L1 : Looks c.M h0 (typeOf (.ref x)) (.ref 157) := I.type
  have L2 : Looks c.M h0 (typeLookup (.ref 157) "__getattribute__") (some (.builtin "list.__getattribute__")) := looks_findIn X hga
  have L3 : Looks c.M h0 (typeLookup (.ref 157) "__getattr__") none := looks_findIn X (acc_hook c.w)
  have L4 : Looks c.M h0 (typeLookup (.ref 157) name) (some f) := looks_findIn X hf
  have L5 : Looks c.M h0 (typeOf f) (.type ft) := looks_typeIn X ht
  unfold getMethod specialOf
  refine wpAny_bind (wpAny_bind (Looks.at L1 (Looks.at L2 ?_)))
  dsimp only
  rw [acc_canon, if_neg (by decide)]
  refine wpAny_bind (wpAny_bind (Looks.at L1 (Looks.at L3 ?_)))
  refine wpAny_bind (wpAny_bind (Looks.at L1 (Looks.at L4 (wpAny_bind (Looks.at L5 ?_)))))
  rw [hft, if_neg Bool.false_ne_true]
  refine wpAny_bind (wpAny_loadPart I.at_ (wpAny_bind (wpAny_bind (wpAny_loadPart hod ?_))))
  rw [nsLook_of (ini_free hn)]
  exact wpAny_pure (wpAny_bind (wpAny_rule (wpAny_pure (k _ h0 tk g m N hg a h))))⟩
theorem get_accF (G : Good c) {x dx : Addr} {vs : List Value} {name : Str} {f : Addr} {K : Value → List Value → Loc → Led → Prop} (hm : (x, isAcc dx vs) ∈ N) (hd : (dx, isIni) ∈ N) (hn : (("_initial_size" : Str) == name) = false) (hq : (name, f) ∈ accF) (h : K (.ref f) [.ref x] m N) : Get c (.ref x) name m N K :=
  get_acc G hm hd hn (acc_find c.w _ hq).1 (acc_find c.w _ hq).2 (by decide) h
theorem acc_check {id owner n : String} {h : Heap} {x dx : Addr} {vs : List Value} {d : AO} {rest : List Value} {A : Around} {E : Value → Shared → Prop} {Q : Unit → Shared → Prop} {tk : Tok} {g : Array GenState} (G : Good c) (a : At c h m N) (hm : (x, isAcc dx vs) ∈ N) (hd : (dx, d) ∈ N)
    (hk : builtinKind id = some .method ∨ builtinKind id = some .slot) (hs : splitId id = some (owner, n)) (hi : mroIn (HP c) 157 (.type owner) = some true) (ha : argsOk id ⟨.ref x :: rest, []⟩) (q : Q () (c.st h tk g)) : wpAny c.M A (checkBuiltinCall id ⟨.ref x :: rest, []⟩) Q E (c.st h tk g) := by
  obtain ⟨cs, ep, od, I, e, hdd, hod⟩ := acc_inst a hm hd
  have L : Looks c.M h (isInstance (.ref x) (.type owner)) true := I.type.andThen (looks_mroIn (at_in G a) hi)
  have fin : wpAny c.M A (match Manifest.signature? id with | some sig => Bind.checkArgs id sig ⟨.ref x :: rest, []⟩ | none => pure ()) Q E (c.st h tk g) := by
    cases hsig : Manifest.signature? id with
    | none => exact wpAny_pure q
    | some sig =>
      simp only [argsOk, hsig] at ha
      have h2 : Bind.checkArgs id sig ⟨.ref x :: rest, []⟩ = pure () := ha
      show wpAny _ A (Bind.checkArgs id sig _) Q E _
      rw [h2]; exact wpAny_pure q
  rcases hk with hk | hk
  · simp only [checkBuiltinCall, hk, hs]
    refine wpAny_bind (Looks.at L ?_)
    simp only [Bool.not_true, Bool.false_eq_true, if_false]
    cases hsig : Manifest.signature? id with
    | none => exact wpAny_pure q
    | some sig => rw [hsig] at fin; exact fin
  · simp only [checkBuiltinCall, hk, hs]
    refine wpAny_bind (Looks.at L ?_)
    simp only [Bool.not_true, Bool.false_eq_true, if_false]
    cases hsig : Manifest.signature? id with
    | none => exact wpAny_pure q
    | some sig => rw [hsig] at fin; exact fin
theorem upd_acc {h0 : Heap} {x dx : Addr} {us : List Value} {ep : Nat} {g : AO → Led} {vs ws : List Value} {f : Array Value → Array Value} (a : At c h0 m N) (hp : Pos x (isAcc dx vs) N g) (ho : h0.get? x = some { cls := .ref 157, dict := some dx, data := .seq us.toArray ep, slots := #[] }) (hf : (f us.toArray).toList.map er = ws) : At c (h0.update x (Obj.mapSeq f)) m (g (isAcc dx ws)) := by
  refine a.upd hp (fun o' _ hg' => ?_) fun b o' hb' e => Heap.get?_update_of_ne _ (Ne.symm hb') e
  rw [ho] at hg'
  cases hg'
  refine ⟨_, Heap.get?_update_self _ ho rfl, (f us.toArray).toList, if (f us.toArray).size == us.toArray.size then ep else ep + 1, ?_, hf⟩
  rw [Array.toArray_toList]
  rfl
theorem Pos.mem {D : Addr} {P : AO} {N : Led} {g : AO → Led} (x : Pos D P N g) : (D, P) ∈ N := by
  obtain ⟨pre, post, rfl, _⟩ := x.split
  exact List.mem_append_right _ (.head _)
theorem call_appendA (G : Good c) {x dx : Addr} {vs : List Value} {v : Value} {g : AO → Led} {d : AO} (hp : Pos x (isAcc dx vs) N g) (hd : (dx, d) ∈ N) (hb : vs.length ≤ 1000) (h : K .none m (g (isAcc dx (vs ++ [v])))) : CalW c (.builtin "list.append") [.ref x, v] m N K := ⟨kep_builtin, fun f' as e1 e2 => by
  obtain ⟨y, u, rfl, h1, h2⟩ := map_two e2
  rw [er_builtin e1, er_ref h1]
  refine ⟨fun h0 tk gg Q E hg a k => ?_⟩
  obtain ⟨cs, ep, od, I, e, hdd, hod⟩ := acc_inst a hp.mem hd
  have ho := I.at_
  subst e
  rw [List.length_map] at hb
  refine wpAny_call (codeAny_call_builtin PySem.F.slot_list_append.plain PySem.F.entry_list_append (acc_check (tk := tk) G a hp.mem hd (id := "list.append") (owner := "list") (n := "append") (by decide +kernel) (by decide +kernel) (acc_list c.w) (PySem.F.args_list_append_2 _ _) ?_))
  have hz : cs.toArray.size ≤ sizeLine := by rw [List.size_toArray, sizeLine_eq]; omega
  have hz' : (cs.toArray.push u).size ≤ sizeLine + 1 := by rw [Array.size_push]; omega
  have fin := k .none _ tk gg _ _ hg (upd_acc (f := fun xs => xs.push u) (ws := cs.map er ++ [v]) a hp ho (by rw [Array.toList_push, List.map_append, ← h2]; rfl)) h
  show wpAny _ _ _ _ _ ⟨h0, gg, c.s.drawn, tk, c.s.os⟩
  wp_walk using (wpAny_updateSeq ho rfl (hz := hz) (_hz' := hz'))
  exact fin⟩
end
end Mine
end
section
open PySem PySem.W PyProof.Rows PySem.Calls
set_option maxRecDepth 100000
namespace Mine
abbrev Ent := Addr × Value × Value
def entL (es : List Ent) : Led := es.map fun e => (e.1, isT [e.2.1, e.2.2])
def entV (es : List Ent) : List Value := es.map fun e => .ref e.1
def rowL (x dx : Addr) (es : List Ent) : Led := (x, isAcc dx (entV es)) :: (dx, isIni) :: entL es
def PushOut (x dx : Addr) (es : List Ent) (a b : Value) (N : Led) (v : Value) (N' : Led) : Prop := v = .none ∧ ∃ t, N' = rowL x dx (es ++ [(t, a, b)]) ++ N
theorem push_ctr (w : World) (x dx : Addr) (es : List Ent) (a b : Value) (N : Led) (hb : es.length ≤ 500) : Ctr w 700 4000 (.ref 101) [.ref x, a, b] (rowL x dx es ++ N) (PushOut x dx es a b N) := by
  show (fun (_ : OpenLaw) (_ : Params → Frag) => Ctr w 700 4000 (.ref 101) [.ref x, a, b] (rowL x dx es ++ N) (PushOut x dx es a b N)) Challenge.rw_re0116_01 Mine.hd.heap_1
  k_fill
  show Ctr w 700 4000 (.ref 101) [.ref x, a, b] (rowL x dx es ++ N) (PushOut x dx es a b N)
  k_dflt (refine' ctr_def (binds := [("self", .ref x), ("fws", a), ("string", b)]) ?hk ?hcd ?hkp ?hd ?hu ?hb ?hloc ?hcell ?hco ?hgen ?hkind ?H)
  case hk => k_is
  case hcd => k_is
  case hkp => k_is
  case hd => decide
  case hu => decide
  case hb =>
    intro vals s e
    obtain ⟨v, u, z, rfl, h1, h2, h3⟩ := map_three e
    exact ⟨_, BindsTo.of_eq rfl, by rw [← h1, ← h2, ← h3]; rfl⟩
  case hloc => exact rfl
  case hcell => decide
  case hco => exact rfl
  case hgen => exact rfl
  case hkind => exact rfl
  case H =>
    intro c G hw hcs hcl hdp hun
    have Fc : Fn c _ [] := ⟨G, congrArg Scope.names hcs, hcl, by decide +kernel⟩
    refine run_step Fc 9 ?_
    refine And.intro rfl ?_
    refine And.intro rfl ?_
    refine get_acc G (.head _) (.tail _ (.head _)) (by decide) (acc_findB c.w (("append" : Str), "list.append") (.head _)) (ft := "method_descriptor") (by kernel_rfl) (by decide) ?_
    refine And.intro rfl ?_
    refine And.intro rfl ?_
    intro t
    refine call_appendA G (Pos.tail Pos.head) (.tail _ (.tail _ (.head _))) (by unfold entV; rw [List.length_map]; omega) ?_
    refine run_nil ⟨_, .perm ?_, rfl, t, rfl⟩
    unfold rowL entV entL
    rw [List.map_append, List.map_append]
    simp only [List.map_cons, List.map_nil, List.cons_append, List.append_assoc, List.nil_append]
    refine (List.Perm.trans ?_ (List.Perm.swap _ _ _))
    refine List.Perm.cons _ (List.Perm.trans ?_ (List.Perm.swap _ _ _))
    exact List.Perm.cons _ List.perm_middle
end Mine
end
section
open PySem PySem.W PyProof.Rows PySem.Calls
set_option maxRecDepth 100000
namespace Mine
theorem acc_noSeq (w : World) : noSeq (Mine.hd.heap_1 w.params) 157 = true := by kernel_rfl
theorem clip_from {i n : Nat} (h : i ≤ n) : sliceBounds (some (i : Int)) none none n = (↑i, ↑n, 1) := by
  unfold sliceBounds
  simp only [Option.getD_none]
  have h1 : ¬ ((i : Int) < 0) := by omega
  rw [if_neg h1]
  have h2 : max (0 : Int) (min (i : Int) (n : Int)) = i := by omega
  simp only [show (1 : Int) > 0 by decide, if_true, h2]
section
variable {c : Cx} {m : Loc} {N : Led} {K : Kv}
theorem acc_key (G : Good c) {h : Heap} {x dx : Addr} {vs : List Value} {d : AO} {tk : Tok} {g : Array GenState} {A : Around} {name : Str} {sl : Value} {E : Value → Shared → Prop} {Q : Value → Shared → Prop} (a : At c h m N) (hm : (x, isAcc dx vs) ∈ N) (hd : (dx, d) ∈ N) (hq : Q sl (c.st h tk g)) :
    wpAny c.M A (sequenceKey (.ref x) sl name) Q E (c.st h tk g) := by
  obtain ⟨cs, ep, od, I, e, hdd, hod⟩ := acc_inst a hm hd
  have L1 : Looks c.M h (typeOf (.ref x)) (.ref 157) := I.type
  unfold sequenceKey
  refine wpAny_bind (Looks.at L1 (wpAny_bind (Looks.at (anyM_none (at_in G a) (acc_noSeq c.w)) ?_)))
  rw [if_pos (show (!false) = true from rfl)]
  exact wpAny_pure hq
theorem acc_special (G : Good c) {h : Heap} {x dx : Addr} {vs : List Value} {d : AO} {tk : Tok} {g : Array GenState} {A : Around} {name : Str} {id n : String} {B : Builtin} {args : List Value} {E : Value → Shared → Prop} {Q : Option Value → Shared → Prop} (a : At c h m N) (hm : (x, isAcc dx vs) ∈ N) (hd : (dx, d) ∈ N)
    (hq : (name, id) ∈ accB) (hs : Slot "list" name id) (hk : builtinKind id = some .method ∨ builtinKind id = some .slot) (hp : splitId id = some ("list", n)) (he : entryFor table id = some B) (ha : argsOk id ⟨.ref x :: args, []⟩)
    (hc : wpAny c.M A.in1 (B ⟨.ref x :: args, []⟩) (fun fin s' => ∃ v, fin = .done (.ret v) ∧ Q (some v) s') E (c.st h tk g)) : wpAny c.M A (callSpecial? (.ref x) name args) Q E (c.st h tk g) := by
  obtain ⟨cs, ep, od, I, e, hdd, hod⟩ := acc_inst a hm hd
  have L1 : Looks c.M h (typeOf (.ref x)) (.ref 157) := I.type
  have L4 : Looks c.M h (typeLookup (.ref 157) name) (some (.builtin id)) := looks_findIn (at_in G a) (acc_findB c.w _ hq)
  unfold callSpecial? specialOf
  refine wpAny_bind (wpAny_bind (Looks.at L1 (Looks.at L4 (wpAny_holding ?_))))
  rw [hs.bind]
  refine wpAny_bind (wpAny_pure (wpAny_bind (wpAny_call (codeAny_call_builtin hs.plain he (acc_check (tk := tk) G a hm hd hk hp (acc_list c.w) ha (wpAny_mono hc (fun fin s' z => ?_) fun _ _ z => z))))))
  obtain ⟨v, rfl, z⟩ := z
  exact wpAny_pure z
theorem sub_none {M : Model} {A : Around} {E : Value → Shared → Prop} {s : Shared} {sl : Addr} {vl vu vk : Value} {Q : Option Int → Shared → Prop} (hs : s.heap.IsSliceOf sl vl vu vk) (h : Q none s) : wpAny M A (Builtin.List.listSubscript? (.ref sl)) Q E s := by
  obtain ⟨os, hos, hcs, hds⟩ := id hs
  have hTs : s.TypeIs (.ref sl) "slice" := ⟨os, hos, hcs⟩
  unfold Builtin.List.listSubscript?
  refine wpAny_bind (wpAny_specialOf hTs slice_no_index ?_)
  simp only [Option.isNone_none, if_true]
  exact wpAny_pure h
theorem slice_parts {M : Model} {A : Around} {E : Value → Shared → Prop} {s : Shared} {sl : Addr} {vl : Value} {lo : Option Int} {Q : Value × Value × Value → Shared → Prop} (hs : s.heap.IsSliceOf sl vl .none .none) (pl : IsPart vl lo) (h : Q (rawPart lo, .none, .none) s) : wpAny M A (Builtin.List.listSliceParts (.ref sl)) Q E s := by
  obtain ⟨os, hos, hcs, hds⟩ := id hs
  rw [listSliceParts_eq]
  refine wpAny_bind (wpAny_field hos hds (x := .none) rfl (wpAny_bind (wpAny_listPart .none ?_)))
  rw [if_neg (show ¬ ((rawPart none == rawInt 0) = true) from Bool.false_ne_true)]
  refine wpAny_bind (wpAny_field hos hds (x := vl) rfl (wpAny_bind (wpAny_listPart pl ?_)))
  exact wpAny_bind (wpAny_field hos hds (x := .none) rfl (wpAny_bind (wpAny_listPart .none (wpAny_pure h))))
theorem subA_from (G : Good c) {x dx : Addr} {vs : List Value} {d : AO} {i : Nat} {y : Str} {py : PySem.Pos} {l : Expr} {ps : PySem.Pos} (hm : (x, isAcc dx vs) ∈ N) (hd : (dx, d) ∈ N) (hb : vs.length ≤ 1000)
    (h : ∀ D, K (.ref D) m ((D, isL (vs.drop i)) :: N)) : SubS c (.Name y py) (.Slice (some l) none none ps) (.ref x) (.int i 0) .none .none m N K :=
  ⟨fun o' l' u' st' h0 tk g Q E e1 e2 e3 e4 hg a k => by
    rw [er_ref e1, er_none e3, er_none e4]
    obtain ⟨t, rfl⟩ := er_int e2
    have a1 := a.push (o := { cls := .type "slice", data := .fields #[.int i t, .none, .none] }) (P := fun _ => True) trivial
    have S := Heap.IsSliceOf.new h0 (.int i t) .none .none
    generalize h0.push { cls := .type "slice", data := .fields #[.int i t, .none, .none] } = h1 at a1 S
    obtain ⟨cs, ep, od, I, e, hdd, hod⟩ := acc_inst a1 (.tail _ hm) (.tail _ hd)
    have X := at_in G a1
    have L1 : Looks c.M h1 (typeOf (.ref x)) (.ref 157) := I.type
    have L4 : Looks c.M h1 (typeLookup (.ref 157) "__getitem__") (some (.builtin "list.__getitem__")) := looks_findIn X (acc_findB c.w (("__getitem__" : Str), "list.__getitem__") (.tail _ (.head _)))
    have ev : cs.length = vs.length := by rw [← e, List.length_map]
    refine wpAny_bind (wpAny_bind (wpAny_bind (Looks.at L1 (Looks.at L4 (wpAny_pure ?_)))))
    refine wpAny_bind ?_
    show wpAny _ _ (operate [.ref h0.objs.size, .ref x] (getItem (.ref x) (.ref h0.objs.size))) _ _ (c.st h1 tk g)
    refine wpAny_operating ?_
    unfold getItem
    refine wpAny_holding ?_
    refine wpAny_bind (acc_key G a1 (.tail _ hm) (.tail _ hd) (wpAny_bind ?_))
    refine acc_special G a1 (.tail _ hm) (.tail _ hd) (n := "__getitem__") (.tail _ (.head _)) slot_list_getitem (by decide +kernel) (by decide +kernel) entry_list_getitem (args_list_getitem _ _) ?_
    show wpAny _ _ (Builtin.List.listSubscript? (.ref h0.objs.size) >>= _) _ _ _
    refine wpAny_bind (sub_none S ?_)
    obtain ⟨os, hos, hcs, hds⟩ := id S
    refine wpAny_bind (wpAny_typeOf ⟨os, hos, hcs⟩ ?_)
    rw [if_neg (by decide)]
    refine wpAny_bind (slice_parts S (.int (i : Int) t) ?_)
    refine wpAny_bind (m := Builtin.List.listItems (.ref x)) ?_
    unfold Builtin.List.listItems
    refine wpAny_bind (wpAny_seqItems I.at_ rfl (wpAny_pure ?_))
    refine wpAny_bind (wpAny_of_eq (sliceIndices_raw (some (i : Int)) none none _ (fun e => nomatch e)) ?_)
    have hsz : cs.toArray.size ≤ sizeLine := by rw [List.size_toArray, sizeLine_eq]; omega
    refine wpAny_bind (wpAny_newObj_type (wpAny_pure ⟨_, rfl, wpAny_pure ?_⟩) (Nat.le_trans (slicePick_size_le cs.toArray (some (i : Int)) none none) hsz))
    refine wpAny_bind (wpAny_pure (wpAny_pure ?_))
    refine k _ _ tk g m _ hg ((a1.push (o := { cls := .type "list", data := .seq (slicePick cs.toArray (some (i : Int)) none none) }) (P := isL (vs.drop i)) ⟨cs.drop i, 0, ?_, ?_⟩).pick (.cons .head (.drop .all))) (h _)
    · rw [slicePick_from']
    · rw [List.map_drop, e]⟩
theorem cut_eq (cs : List Value) {i : Nat} (h : i ≤ cs.length) : (cs.toArray.extract 0 (i : Int).toNat ++ ([] : List Value).toArray ++ cs.toArray.extract (max (i : Int) ((cs.toArray.size : Nat) : Int)).toNat cs.toArray.size).toList = cs.take i := by
  rw [show (max (i : Int) ((cs.toArray.size : Nat) : Int)).toNat = cs.length by rw [List.size_toArray]; omega]
  simp
theorem cut_list (cs : List Value) {i : Nat} (h : i ≤ cs.length) : (cs.toArray.extract 0 (i : Int).toNat ++ ([] : List Value).toArray ++ cs.toArray.extract (max (i : Int) ((cs.toArray.size : Nat) : Int)).toNat cs.toArray.size).toList.map er = (cs.map er).take i := by
  rw [cut_eq cs h, List.map_take]
theorem run_cut (G : Good c) {ns : List (Str × NameKind)} {cl : List (Str × Addr)} (Fc : Fn c ns cl) {sx si : Str} {px pi ps p pv pos : PySem.Pos} {x dx : Addr} {vs : List Value} {d : AO} {g : AO → Led} {i : Nat} {rest : List Stmt} {K : Kf} (hsx : ns.lookup sx = some .local) (hsi : ns.lookup si = some .local) (hx : m.lookup sx = some (.ref x)) (hi : m.lookup si = some (.int i 0))
    (hp : Pos x (isAcc dx vs) N g) (hd : (dx, d) ∈ N) (hl : i ≤ vs.length) (hb : vs.length ≤ 1000) (h : Run c erF (execs rest c.env) m (g (isAcc dx (vs.take i))) K) :
    Run c erF (execs (.Assign [.Subscript (.Name sx px) (.Slice (some (.Name si pi)) none none ps) p] (.List [] pv) pos :: rest) c.env) m N K := by
  have hname : ∀ {y : Str} {v : Value} {p : PySem.Pos} {K : Kv} {N : Led}, ns.lookup y = some .local → m.lookup y = some v → K v m N → Run c er (eval (.Name y p) c.env) m N K := fun {y v p K N} e1 e2 hk => by
    refine vName_sound Fc.G Fc.ns_ Fc.cl_ ?_ (plain_of Fc.plain e1).1 (plain_of Fc.plain e1).2
    unfold vName
    rw [e1, e2]
    exact hk
  refine ⟨fun h0 tk gg Q E hg a k => wpAny_execs_cons (wpAny_Assign_Subscript ?_ rfl)⟩
  have r1 : Run c er (eval (.List [] pv) c.env) m N fun v m1 N1 => ∃ D, v = .ref D ∧ m1 = m ∧ N1 = (D, isL []) :: N := vE_sound Fc.G Fc.ns_ Fc.cl_ Fc.plain 2 _ _ _ _ ⟨rfl, rfl, fun D => ⟨D, rfl, rfl, rfl⟩⟩
  refine r1.go h0 tk gg _ E hg a fun v h1 tk1 g1 m1 N1 hg1 a1 q1 => ?_
  obtain ⟨D, e1, rfl, rfl⟩ := q1
  rw [er_ref e1]
  refine (hname (K := fun v m2 N2 => v = .ref x ∧ m2 = m1 ∧ N2 = (D, isL []) :: N) hsx hx ⟨rfl, rfl, rfl⟩).go h1 tk1 g1 _ E hg1 a1 fun v h2 tk2 g2 m2 N2 hg2 a2 q2 => ?_
  obtain ⟨e2, rfl, rfl⟩ := q2
  rw [er_ref e2]
  refine wpAny_Slice ((hname (K := fun v m3 N3 => v = .int i 0 ∧ m3 = m2 ∧ N3 = (D, isL []) :: N) hsi hi ⟨rfl, rfl, rfl⟩).go h2 tk2 g2 _ E hg2 a2 fun v h3 tk3 g3 m3 N3 hg3 a3 q3 => ?_)
  obtain ⟨e3, rfl, rfl⟩ := q3
  obtain ⟨t, rfl⟩ := er_int e3
  refine wpAny_pure (wpAny_pure ?_)
  have a4 := a3.push (o := { cls := .type "slice", data := .fields #[.int i t, .none, .none] }) (P := fun _ => True) trivial
  have S := Heap.IsSliceOf.new h3 (.int i t) .none .none
  show wpAny _ _ (setItem (.ref x) (.ref h3.objs.size) (.ref D)) _ _ (c.st (h3.push { cls := .type "slice", data := .fields #[.int i t, .none, .none] }) tk3 g3)
  generalize h3.push { cls := .type "slice", data := .fields #[.int i t, .none, .none] } = h4 at a4 S
  have hm := hp.mem
  obtain ⟨cs, ep, od, I, e, hdd, hod⟩ := acc_inst a4 (.tail _ (.tail _ hm)) (.tail _ (.tail _ hd))
  obtain ⟨oD, hoD, ds, epD, rfl, eD⟩ := a4.get (a := D) (.tail _ (.head _))
  obtain rfl := List.map_eq_nil_iff.mp eD
  obtain ⟨os, hos, hcs, hds⟩ := id S
  subst e
  rw [List.length_map] at hl hb
  unfold setItem
  refine wpAny_holding (wpAny_bind (acc_key G a4 (.tail _ (.tail _ hm)) (.tail _ (.tail _ hd)) (wpAny_bind ?_)))
  refine acc_special G a4 (.tail _ (.tail _ hm)) (.tail _ (.tail _ hd)) (n := "__setitem__") (.tail _ (.tail _ (.head _))) PySem.F.slot_list_setitem (by decide +kernel) (by decide +kernel) PySem.F.entry_list_setitem (PySem.F.args_list_setitem_3 _ _ _) ?_
  show wpAny _ _ (Builtin.List.listSubscript? (.ref h3.objs.size) >>= _) _ _ _
  refine wpAny_bind (sub_none S ?_)
  refine wpAny_bind (wpAny_typeOf ⟨os, hos, hcs⟩ ?_)
  rw [if_neg (by decide)]
  refine wpAny_bind (slice_parts S (.int (i : Int) t) ?_)
  have ne : ¬ (x == D) = true := by
    intro q
    have nd := (a4.pick (.drop .all)).nodup
    rw [List.map_cons, List.nodup_cons] at nd
    exact nd.1 (by rw [← eq_of_beq q]; exact List.mem_map_of_mem (f := (·.1)) hm)
  have es : Builtin.List.listSameRef (.ref x) (.ref D) = false := by
    rw [Bool.eq_false_iff]
    exact ne
  rw [es]
  show wpAny _ _ (Builtin.List.listAllItems (.ref D) _ >>= _) _ _ _
  refine wpAny_bind ?_
  unfold Builtin.List.listAllItems
  have hTD : (c.st h4 tk3 g3).TypeIs (.ref D) "list" := ⟨_, hoD, rfl⟩
  refine wpAny_bind (wpAny_typeOf hTD ?_)
  rw [if_pos (by decide)]
  unfold Builtin.List.listItems
  refine wpAny_bind (wpAny_seqItems hoD rfl (wpAny_pure ?_))
  refine wpAny_bind (wpAny_bind (wpAny_seqItems I.at_ rfl (wpAny_pure ?_)))
  refine wpAny_bind (wpAny_of_eq (sliceIndices_raw (some (i : Int)) none none _ (fun e => nomatch e)) ?_)
  rw [clip_from (show i ≤ cs.toArray.size by rw [List.size_toArray]; exact hl)]
  show wpAny _ _ (rule "list.__setitem__.slice" >>= _) _ _ _
  refine wpAny_bind (wpAny_rule ?_)
  have tl : Builtin.List.listTooLong (cs.toArray.size + ([] : List Value).toArray.size) = false := by
    unfold Builtin.List.listTooLong
    rw [List.size_toArray, sizeLine_eq]
    exact decide_eq_false (by show ¬ (cs.length + 0 > _); omega)
  rw [tl]
  show wpAny _ _ (Builtin.List.listUpdate (.ref x) _ >>= _) _ _ _
  refine wpAny_bind (wpAny_updateSeq I.at_ rfl (wpAny_bind (wpAny_letGo (wpAny_pure ⟨_, rfl, wpAny_pure ?_⟩))) (by rw [List.size_toArray, sizeLine_eq]; omega) ?_)
  · exact h.go _ _ _ Q E hg3 (upd_acc (ws := (cs.map er).take i) (a4.pick (.drop (.drop .all))) hp I.at_ (cut_list cs hl)) k
  · rw [← Array.length_toList, cut_eq cs hl, List.length_take, sizeLine_eq]
    omega
end
def PopFOut (x dx : Addr) (es : List Ent) (i : Nat) (N : Led) (v : Value) (N' : Led) : Prop := ∃ D, v = .ref D ∧ N' = (D, isL (entV (es.drop i))) :: (rowL x dx (es.take i) ++ (entL (es.drop i) ++ N))
theorem entV_drop (es : List Ent) (i : Nat) : (entV es).drop i = entV (es.drop i) := List.map_drop.symm
theorem entV_take (es : List Ent) (i : Nat) : (entV es).take i = entV (es.take i) := List.map_take.symm
theorem entL_drop (es : List Ent) (i : Nat) : (entL es).drop i = entL (es.drop i) := List.map_drop.symm
theorem entL_take (es : List Ent) (i : Nat) : (entL es).take i = entL (es.take i) := List.map_take.symm
theorem popf_ctr (w : World) (x dx : Addr) (es : List Ent) (i : Nat) (N : Led) (hi : i ≤ es.length) (hb : es.length ≤ 500) : Ctr w 700 4000 (.ref 109) [.ref x, .int i 0] (rowL x dx es ++ N) (PopFOut x dx es i N) := by
  show (fun (_ : OpenLaw) (_ : Params → Frag) => Ctr w 700 4000 (.ref 109) [.ref x, .int i 0] (rowL x dx es ++ N) (PopFOut x dx es i N)) Challenge.rw_re0116_01 Mine.hd.heap_1
  k_fill
  show Ctr w 700 4000 (.ref 109) [.ref x, .int i 0] (rowL x dx es ++ N) (PopFOut x dx es i N)
  k_dflt (refine' ctr_defD (binds := [("self", .ref x), ("i", .int i 0)]) ?hk ?hcd ?hkp ?hd ?hu ?hb ?hloc ?hcell ?hco ?hgen ?hkind ?H)
  case hk => k_is
  case hcd => k_is
  case hkp => k_is
  case hd => decide
  case hu => decide
  case hb =>
    intro vals s e X
    obtain ⟨v, u, rfl, h1, h2⟩ := map_two e
    exact ⟨[("self", v), ("i", u)], binds_K X rfl (by k_is) rfl rfl rfl, by rw [← h1, ← h2]; rfl⟩
  case hloc => exact rfl
  case hcell => decide
  case hco => exact rfl
  case hgen => exact rfl
  case hkind => exact rfl
  case H =>
    intro c G hw hcs hcl hdp hun
    have Fc : Fn c _ [] := ⟨G, congrArg Scope.names hcs, hcl, by decide +kernel⟩
    have el : (entV es).length = es.length := by unfold entV; rw [List.length_map]
    refine run_step Fc 9 ?_
    refine And.intro rfl ?_
    refine subA_from G (.head _) (.tail _ (.head _)) (by rw [el]; omega) ?_
    intro D
    refine run_cut G Fc rfl rfl rfl rfl (Pos.tail Pos.head) (.tail _ (.tail _ (.head _))) (by rw [el]; exact hi) (by rw [el]; omega) ?_
    refine run_step Fc 9 ?_
    refine ⟨_, .all, D, rfl, ?_⟩
    rw [entV_drop, entV_take, rowL, ← List.take_append_drop i (entL es), entL_drop, entL_take]
    exact congrArg (fun z => (D, isL (entV (es.drop i))) :: (x, isAcc dx (entV (es.take i))) :: (dx, isIni) :: z) (List.append_assoc _ _ _)
end Mine
end
section
open PySem PySem.W PyProof.Rows PySem.Calls
set_option maxRecDepth 100000
namespace Mine
def SeqAt (h : Heap) (x : Addr) (items : Array Value) : Prop := ∃ o, h.get? x = some o ∧ ∃ n, o.data = .seq items n
theorem SeqAt.at {h h' : Heap} {x : Addr} {items : Array Value} (s : SeqAt h x items) (k : ∀ o, h.get? x = some o → h'.get? x = some o) : SeqAt h' x items := let ⟨o, e, r⟩ := s; ⟨o, k _ e, r⟩
section
variable {prog : Program} {w : World} {A : Around} {E : Value → Shared → Prop} {s : Shared} {it l : Addr} {i : Nat} {items : Array Value} {Q : Option Value → Shared → Prop}
theorem next_item {x : Value} (hit : s.heap.IsListIter it l i) (hl : SeqAt s.heap l items) (hx : items[i]? = some x)
    (hQ : ∀ h', h'.IsListIter it l (i + 1) → Heap.SameBut it s.heap h' → Q (some x) { s with heap := h' }) : wpAny (model prog w) A (pyNext (.ref it)) Q E s := by
  obtain ⟨o, ho, hc, hd⟩ := id hit
  obtain ⟨ol, hol, nl, hdl⟩ := hl
  unfold pyNext
  refine wpAny_bind (wpAny_attempt (wpAny_callSpecial?_slot (name := Str.ofString "__next__") hit.typeIs slot_listiter_next
    (wpAny_call_entry slot_listiter_next hit.typeIs entry_listiter_next ?_ (args_listiter_next _))))
  show wpAny _ _ (field (.ref it) 0 >>= _) _ _ s
  refine wpAny_bind (wpAny_field ho hd (x := .ref l) rfl ?_)
  show wpAny _ _ (if (Value.ref l == Value.none) = true then _ else _) _ _ s
  rw [if_neg (show ¬ ((Value.ref l == Value.none) = true) from Bool.false_ne_true)]
  show wpAny _ _ (field (.ref it) 1 >>= _) _ _ s
  refine wpAny_bind (wpAny_field ho hd (x := .int i 0) rfl ?_)
  show wpAny _ _ (seqItems? (.ref l) >>= _) _ _ s
  refine wpAny_bind (wpAny_seqItems hol hdl ?_)
  simp only [Int.toNat_natCast, hx]
  refine wpAny_bind (wpAny_setField ho hd (by simp) (wpAny_pure ⟨x, rfl, wpAny_pure (hQ _ ?_ (Heap.SameBut.update ..))⟩))
  exact ⟨_, Heap.get?_update_self _ ho (Obj.isFreed_of_fields (Obj.data_mapFields hd _)), (Obj.cls_mapFields ..).trans hc, by
    rw [Obj.data_mapFields hd]; simp [rawInt]⟩
theorem next_end (hh : A.handled = none) (hit : s.heap.IsListIter it l i) (hl : SeqAt s.heap l items) (hx : items[i]? = none)
    (hQ : ∀ h', Heap.ExtBut it s.heap h' → Q none { s with heap := h' }) : wpAny (model prog w) A (pyNext (.ref it)) Q E s := by
  obtain ⟨o, ho, hc, hd⟩ := id hit
  obtain ⟨ol, hol, nl, hdl⟩ := hl
  unfold pyNext
  refine wpAny_bind (wpAny_attempt (wpAny_callSpecial?_slot (name := Str.ofString "__next__") hit.typeIs slot_listiter_next
    (wpAny_call_entry slot_listiter_next hit.typeIs entry_listiter_next ?_ (args_listiter_next _))))
  show wpAny _ _ (field (.ref it) 0 >>= _) _ _ s
  refine wpAny_bind (wpAny_field ho hd (x := .ref l) rfl ?_)
  show wpAny _ _ (if (Value.ref l == Value.none) = true then _ else _) _ _ s
  rw [if_neg (show ¬ ((Value.ref l == Value.none) = true) from Bool.false_ne_true)]
  show wpAny _ _ (field (.ref it) 1 >>= _) _ _ s
  refine wpAny_bind (wpAny_field ho hd (x := .int i 0) rfl ?_)
  show wpAny _ _ (seqItems? (.ref l) >>= _) _ _ s
  refine wpAny_bind (wpAny_seqItems hol hdl ?_)
  simp only [Int.toNat_natCast, hx]
  refine wpAny_bind (wpAny_rule (wpAny_bind (wpAny_setField ho hd (by simp) ?_)))
  show wpAny _ _ (newExc (.type "StopIteration") [] >>= _) _ _ _
  refine wpAny_bind ?_
  simp only [newExc, newTuple]
  refine wpAny_bind (wpAny_newObj_type ?_ (by size_fits))
  refine wpAny_bind (m := firstArgMember _ _) (wpAny_of_eq (a := Value.none) (by first | rfl | (simp only [firstArgMember]; rfl)) ?_)
  refine wpAny_newObj_type ?_ (by size_fits)
  simp only [raiseNew]
  refine wpAny_bind (wpAny_handled ?_)
  rw [show A.in1.handled = none from hh]
  refine wpAny_bind (wpAny_pure (wpAny_throw ?_))
  refine wpAny_bind (wpAny_isInstance (T := "StopIteration") (b := true) ⟨_, Heap.get?_push_size _ rfl, rfl⟩ isSubtype_stop ?_)
  exact wpAny_pure (hQ _ (((Heap.SameBut.update ..).extBut.push _).push _))
end
theorem walk_tuples {prog : Program} {w : World} {A : Around} (hh : A.handled = none) (I ax : Addr) (hne : ax ≠ I) (items : Array Value) (Ts : Nat → Addr) (vals : Nat → Array Value)
    (hit : ∀ j, j < items.size → items[j]? = some (.ref (Ts j))) (hTI : ∀ j, j < items.size → Ts j ≠ I) :
    WalksU prog w A I (I :: ax :: (List.range items.size).map Ts) [I] items.size (fun j v => v = vals j)
      (fun j h => h.IsListIter I ax j ∧ SeqAt h ax items ∧ ∀ k, k < items.size → h.IsTuple (Ts k) (vals k))
      (fun j T h => (j < items.size ∧ T = Ts j) ∧ h.IsListIter I ax (j + 1) ∧ SeqAt h ax items ∧ ∀ k, k < items.size → h.IsTuple (Ts k) (vals k)) where
  sub := fun b hb => by rw [List.mem_singleton.mp hb]; exact .head _
  frame := fun _ _ _ st hk => ⟨st.1.at fun o e => hk I (.head _) o e, st.2.1.at fun o e => hk ax (.tail _ (.head _)) o e,
    fun k hk' => (st.2.2 k hk').at fun o e => hk (Ts k) (.tail _ (.tail _ (List.mem_map.mpr ⟨k, List.mem_range.mpr hk', rfl⟩))) o e⟩
  item := fun i s Q E hi st hQ => next_item st.1 st.2.1 (hit i hi) fun h' hit' hs' =>
    hQ (Ts i) (vals i) h' s.toks rfl ((st.2.2 i hi).extBut hs'.extBut (hTI i hi)) ⟨⟨hi, rfl⟩, hit', st.2.1.at fun o e => hs'.extBut ax o hne e, fun k hk' => (st.2.2 k hk').extBut hs'.extBut (hTI k hk')⟩
      fun b o hb e => hs'.extBut b o (fun h => hb (h ▸ .head _)) e
  go := fun _ _ _ _ _ s Q _ hm hQ => wpAny_letOwnedTupleGo_listiter hm.2.1 (hQ s.heap hm.2 fun _ _ _ e => e)
  apart := fun j T _ hm hmem => hTI j hm.1.1 (hm.1.2 ▸ List.mem_singleton.mp hmem)
  done := fun s Q E st hQ => next_end hh st.1 st.2.1 (by simp) fun h' he' => hQ h' s.toks fun b o hb e => he' b o (fun h => hb (h ▸ .head _)) e
  self := fun _ _ _ _ st hQ => wpAny_pyIter_listiter st.1 hQ
section
variable {c : Cx} {m : Loc} {N : Led}
theorem iter_acc (G : Good c) {h0 : Heap} {tk : Tok} {g : Array GenState} {A : Around} {Q E : Value → Shared → Prop} {x dx : Addr} {vs : List Value} {d : AO} (a : At c h0 m N) (hm : (x, isAcc dx vs) ∈ N) (hd : (dx, d) ∈ N)
    (h : Q (.ref h0.objs.size) (c.st (h0.push { cls := .type "list_iterator", data := .fields #[.ref x, .int 0 0] }) tk g)) : wpAny c.M A (pyIter (.ref x)) Q E (c.st h0 tk g) := by
  obtain ⟨cs, ep, od, I, e, hdd, hod⟩ := acc_inst a hm hd
  have L1 : Looks c.M h0 (typeOf (.ref x)) (.ref 157) := I.type
  have L4 : Looks c.M h0 (typeLookup (.ref 157) "__iter__") (some (.builtin "list.__iter__")) := looks_findIn (at_in G a) (acc_findB c.w (("__iter__" : Str), "list.__iter__") (by decide))
  unfold pyIter specialOf
  refine wpAny_bind (wpAny_bind (Looks.at L1 (Looks.at L4 ?_)))
  have cal : wpAny c.M A (call (.builtin "list.__iter__") [.ref x]) (fun v s' => v = .ref h0.objs.size ∧ s' = c.st (h0.push { cls := .type "list_iterator", data := .fields #[.ref x, .int 0 0] }) tk g) E (c.st h0 tk g) := by
    refine wpAny_call (codeAny_call_builtin slot_list_iter.plain entry_list_iter (acc_check (tk := tk) G a hm hd (id := "list.__iter__") (owner := "list") (n := "__iter__") (by decide +kernel) (by decide +kernel) (acc_list c.w) (args_list_iter _) ?_))
    show wpAny _ _ (do ret (← newFields "list_iterator" [.ref x, rawInt 0])) _ _ (c.st h0 tk g)
    exact wpAny_bind (wpAny_newObj_type (wpAny_pure ⟨rfl, rfl⟩))
  have one : ∀ refuse : Sem Value, wpAny c.M A (callSpecialIfBoundUnlessNone? (.ref x) "__iter__" refuse) (fun r s' => r = some (.ref h0.objs.size) ∧ s' = c.st (h0.push { cls := .type "list_iterator", data := .fields #[.ref x, .int 0 0] }) tk g) E (c.st h0 tk g) := by
    intro refuse
    simp only [callSpecialIfBoundUnlessNone?, bindSpecialIfBound?, specialOf]
    refine wpAny_holding (wpAny_bind (wpAny_bind (wpAny_bind (Looks.at L1 (Looks.at L4 ?_)))))
    simp only [slot_list_iter.bind]
    refine wpAny_bind (wpAny_askSetting (wpAny_ite ?_))
    have fin : wpAny c.M A (if (Value.builtin "list.__iter__" == Value.none) = true then (refuse >>= fun v => pure (some v)) else (call (.builtin "list.__iter__") [.ref x] >>= fun v => pure (some v))) (fun r s' => r = some (.ref h0.objs.size) ∧ s' = c.st (h0.push { cls := .type "list_iterator", data := .fields #[.ref x, .int 0 0] }) tk g) E (c.st h0 tk g) := by
      rw [if_neg (show ¬ ((Value.builtin "list.__iter__" == Value.none) = true) from Bool.false_ne_true)]
      exact wpAny_bind (wpAny_mono cal (fun v s' hv => wpAny_pure ⟨congrArg some hv.1, hv.2⟩) fun _ _ h' => h')
    split
    · exact wpAny_bind (wpAny_pure (wpAny_pure fin))
    · exact wpAny_tryCatch (wpAny_bind (wpAny_pure (wpAny_pure fin)))
  show wpAny _ A (callSpecialIfBoundUnlessNone? (.ref x) "__iter__" _ >>= _) Q E _
  refine wpAny_bind (wpAny_mono (one _) (fun r s' hr => ?_) fun _ _ z => z)
  obtain ⟨rfl, rfl⟩ := hr
  have hT : (c.st (h0.push { cls := .type "list_iterator", data := .fields #[.ref x, .int 0 0] }) tk g).TypeIs (.ref h0.objs.size) "list_iterator" := ⟨_, Heap.get?_push_size _ rfl, rfl⟩
  exact wpAny_bind (wpAny_specialOf hT slot_listiter_next.lookup (wpAny_pure h))
end
end Mine
end
section
open PySem
namespace Mine
theorem dv_digits {n : Nat} : ∀ (ds : List Int) (a : Int), 0 ≤ a → (∀ i : Nat, i < ds.length → ds.getD i 0 = a / 2 ^ (n * i) % 2 ^ n) → a < 2 ^ (n * ds.length) → dv n ds = a
  | [], a, h0, _, h2 => by
    rw [List.length_nil, Nat.mul_zero, Int.pow_zero] at h2
    show (0 : Int) = a
    omega
  | d :: ds, a, h0, h1, h2 => by
    have p := two_pow_pos n
    have e0 := h1 0 (Nat.succ_pos _)
    rw [List.getD_cons_zero, Nat.mul_zero, Int.pow_zero, Int.ediv_one] at e0
    have ih := dv_digits (n := n) ds (a / 2 ^ n) (Int.ediv_nonneg h0 (Int.le_of_lt p)) (fun i hi => by
      have := h1 (i + 1) (Nat.succ_lt_succ hi)
      rw [List.getD_cons_succ] at this
      rw [this, Int.ediv_ediv_of_nonneg (Int.le_of_lt p), ← Int.pow_add, Nat.mul_add, Nat.mul_one, Nat.add_comm]) (by
      rw [List.length_cons, Nat.mul_add, Nat.mul_one, Int.pow_add, Int.mul_comm] at h2
      exact Int.ediv_lt_of_lt_mul p (by rw [Int.mul_comm]; exact h2))
    show d + 2 ^ n * dv n ds = a
    rw [ih, e0]
    exact Int.emod_add_mul_ediv a (2 ^ n)
theorem digits_val {n a K : Int} {ds : List Int} (hn : 1 ≤ n) (ha : 0 ≤ a) (hK : 0 ≤ K) (hb : a < 2 ^ (n * K).toNat) (h : Digits n a K ds) : dv n.toNat ds = a ∧ ∀ d ∈ ds, 0 ≤ d ∧ d < 2 ^ n.toNat := by
  have key : ∀ i : Nat, i < ds.length → ds.getD i 0 = a / 2 ^ (n.toNat * i) % 2 ^ n.toNat := fun i hi => by
    rw [h.2 i, if_pos (by rw [h.1] at hi; omega)]
    unfold dg
    rw [Int.toNat_mul (by omega) (by omega), Int.toNat_natCast]
  refine ⟨dv_digits ds a ha key (by rw [h.1, ← Int.toNat_mul (by omega) hK]; exact hb), fun d hd => ?_⟩
  obtain ⟨i, hi, rfl⟩ := List.mem_iff_getElem.mp hd
  have := key i hi
  rw [List.getD_eq_getElem?_getD, List.getElem?_eq_getElem hi, Option.getD_some] at this
  rw [this]
  have p := two_pow_pos n.toNat
  exact ⟨Int.emod_nonneg _ (by omega), Int.emod_lt_of_pos _ p⟩
def DInv (n : Nat) (b : Int) (ds : List Int) (i : Nat) (r : Int) (qs : List Int) : Prop :=
  r = dv n (ds.drop (ds.length - i)) % b ∧ dv n qs.reverse = dv n (ds.drop (ds.length - i)) / b ∧ qs.length = i ∧ ∀ q ∈ qs, 0 ≤ q ∧ q < 2 ^ n
theorem DInv.zero (n : Nat) (b : Int) (ds : List Int) : DInv n b ds 0 0 [] := by
  unfold DInv
  rw [Nat.sub_zero, List.drop_length]
  exact ⟨(Int.zero_emod b).symm, (Int.zero_ediv b).symm, rfl, fun _ h => nomatch h⟩
theorem DInv.step {n : Nat} {b : Int} {ds : List Int} {i : Nat} {r : Int} {qs : List Int} (x : DInv n b ds i r qs) (hb : 0 < b) (hi : i < ds.length) (d : Int) (hd : ds[ds.length - 1 - i]? = some d) (hd2 : 0 ≤ d ∧ d < 2 ^ n) :
    0 ≤ r ∧ r < b ∧ 0 ≤ r * 2 ^ n + d ∧ r * 2 ^ n + d < b * 2 ^ n ∧ DInv n b ds (i + 1) ((r * 2 ^ n + d) % b) (qs ++ [(r * 2 ^ n + d) / b]) := by
  obtain ⟨e1, e2, e3, e4⟩ := x
  have p := two_pow_pos n
  have r0 : 0 ≤ r := by rw [e1]; exact Int.emod_nonneg _ (by omega)
  have r1 : r < b := by rw [e1]; exact Int.emod_lt_of_pos _ hb
  have m0 : 0 ≤ r * 2 ^ n := Int.mul_nonneg r0 (Int.le_of_lt p)
  have m1 : (r + 1) * 2 ^ n ≤ b * 2 ^ n := Int.mul_le_mul_of_nonneg_right (by omega) (Int.le_of_lt p)
  rw [Int.add_mul, Int.one_mul] at m1
  have hdrop : ds.drop (ds.length - (i + 1)) = d :: ds.drop (ds.length - i) := by
    have hlt : ds.length - (i + 1) < ds.length := by omega
    rw [List.drop_eq_getElem_cons hlt, show ds.length - (i + 1) + 1 = ds.length - i by omega]
    congr 1
    have : ds[ds.length - 1 - i]? = some ds[ds.length - (i + 1)] := by
      rw [show ds.length - 1 - i = ds.length - (i + 1) by omega]; exact List.getElem?_eq_getElem hlt
    exact Option.some.inj (this.symm.trans hd)
  have hV : dv n (ds.drop (ds.length - (i + 1))) = (r * 2 ^ n + d) + b * (2 ^ n * (dv n (ds.drop (ds.length - i)) / b)) := by
    rw [hdrop]
    show d + 2 ^ n * dv n (ds.drop (ds.length - i)) = _
    have := Int.emod_add_mul_ediv (dv n (ds.drop (ds.length - i))) b
    rw [← e1] at this
    conv => lhs; rw [← this]
    rw [Int.mul_add, Int.mul_comm r, ← Int.mul_assoc, ← Int.mul_assoc, Int.mul_comm (2 ^ n) b]
    omega
  refine ⟨r0, r1, by omega, by omega, ?_, ?_, ?_, ?_⟩
  · rw [hV, Int.add_mul_emod_self_left]
  · rw [hV, Int.add_mul_ediv_left _ _ (by omega), List.reverse_append]
    show (r * 2 ^ n + d) / b + 2 ^ n * dv n qs.reverse = _
    rw [e2]
  · rw [List.length_append, e3]; rfl
  · intro q hq
    rcases List.mem_append.mp hq with hq | hq
    · exact e4 q hq
    · rw [List.mem_singleton.mp hq]
      exact ⟨Int.ediv_nonneg (by omega) (by omega), Int.ediv_lt_of_lt_mul hb (by rw [Int.mul_comm (2 ^ n)]; omega)⟩
theorem DInv.done {n : Nat} {b : Int} {ds : List Int} {r : Int} {qs : List Int} (x : DInv n b ds ds.length r qs) : r = dv n ds % b ∧ dv n qs.reverse = dv n ds / b ∧ qs.length = ds.length ∧ ∀ q ∈ qs.reverse, 0 ≤ q ∧ q < 2 ^ n := by
  obtain ⟨e1, e2, e3, e4⟩ := x
  rw [Nat.sub_self, List.drop_zero] at e1 e2
  exact ⟨e1, e2, e3, fun q hq => e4 q (List.mem_reverse.mp hq)⟩
end Mine
end
section
open PySem
namespace Mine
def frontsL (p q : Nat) : List (List Nat) :=
  [1, 2, 3, 4, 5, 6, 7].flatMap fun k =>
    let h := List.replicate k p
    [h, h ++ [q]] ++ ([p, q].map fun u => h ++ [q, u]) ++ ([p, q].flatMap fun u => [p, q].map fun v => h ++ [q, u, v])
def fronts : List Str := (frontsL 97 98 ++ frontsL 98 97).map fun l => ⟨l.toArray⟩
def likeOf (x : Str) : Str := Txt.item x 0
def isA (x : Str) : Bool := likeOf x == Str.ofString "a"
def oldOf (x : Str) : Str := if isA x then Str.ofString "ab" else Str.ofString "ba"
def writOf (x : Str) : Str := replace1 x (oldOf x) (Str.ofString ".")
def noDot (x : Str) : Bool := (Builtin.Str.occurrences (writOf x) (Str.ofString ".") 0 (writOf x).length 1).isEmpty
def bitOf (l : Str) (c : Nat) : Int := if ((⟨#[c]⟩ : Str) == l) = true then 1 else 0
def figsOf (x : Str) : List Int := 1 :: (revOf (stripOf (writOf x))).cps.toList.map (bitOf (likeOf x))
def mag8 (x : Str) : Int := if noDot x then (x.length : Int) * 8 else (((writOf x).length : Int) - ((stripOf (writOf x)).length : Int) - 1) * 8 + dv 1 (figsOf x) * 2 ^ (3 - (figsOf x).length)
def worth8 (x : Str) : Int := if x.length = 0 then 0 else if isA x then mag8 x else -mag8 x
def stripB (x : Str) : Bool := decide (x.length ≤ 100) && decide (Txt.find x (Str.ofString "\n") = -1) && decide (find4 x (Str.ofString ":") 0 (x.length : Int) = -1) && decide (0 ≤ rfind4 x (Str.ofString ".") 0 (x.length : Int)) && decide (rfind4 x (Str.ofString ".") 0 (x.length : Int) < 100)
def frontOk (x : Str) : Bool :=
  decide (1 ≤ x.length) && decide (x.length ≤ 10) && decide ((writOf x).length ≤ 10) &&
  (noDot x || (stripB (writOf x) && decide ((stripOf (writOf x)).length ≤ (writOf x).length) && decide ((figsOf x).length ≤ 3) && decide ((stripOf (writOf x)).length ≤ 10)))
theorem fronts_ok : (fronts.all frontOk) = true := by decide +kernel
theorem figs_bits (x : Str) : ∀ d ∈ figsOf x, 0 ≤ d ∧ d < 2 ^ 1 := by
  intro d hd
  unfold figsOf at hd
  rcases List.mem_cons.mp hd with rfl | hd
  · decide
  · obtain ⟨c, _, rfl⟩ := List.mem_map.mp hd
    unfold bitOf
    split <;> decide
end Mine
end
section
open PySem
namespace Mine
def pre (x : Str) (k : Nat) : Str := Txt.slice x none (some (k : Int))
def letAt (x : Str) (p : Nat) : Str := Txt.item x (p : Int)
def pairAt (x : Str) (p : Nat) : Str × Str := if p % 2 = 0 then (Str.ofString "", letAt x p) else (letAt x p, Str.ofString "")
def pairsOf (x : Str) (k : Nat) : List (Str × Str) := (List.range k).map (pairAt x)
def pairTxt (p : Str × Str) : Str := Txt.join (Str.ofString "") [p.1, p.2]
def rowTxt (ss : List (Str × Str)) : Str := Txt.join (Str.ofString "") (ss.map pairTxt)
def fallOf (x : Str) (k p : Nat) : Str := Txt.join (Str.ofString "") (((pairsOf x k).drop p).map fun q => q.1 ++ q.2)
def cutsTo (l x : Str) (k : Nat) : List Str := ((List.range k).filter fun p => letAt x p == l).map (pre x)
def cutsA (x : Str) : List Str := cutsTo (Str.ofString "a") x x.length
def cutsB (x : Str) : List Str := ((List.range x.length).filter fun p => !(letAt x p == Str.ofString "a")).map (pre x)
def cutsNB (x : Str) (k : Nat) : List Str := ((List.range k).filter fun p => !(letAt x p == Str.ofString "a")).map (pre x)
def lst (x : Str) : List Nat := x.cps.toList
theorem lst_inj {a b : Str} (h : lst a = lst b) : a = b := by
  cases a; cases b
  exact congrArg _ (Array.toList_inj.mp h)
theorem lst_append (a b : Str) : lst (a ++ b) = lst a ++ lst b := Array.toList_append
theorem lst_len (x : Str) : (lst x).length = x.length := Array.length_toList
theorem lst_join : ∀ ys : List Str, lst (Txt.join (Str.ofString "") ys) = (ys.map lst).flatten
  | [] => rfl
  | y :: ys => by
    have ih := lst_join ys
    unfold Txt.join at ih ⊢
    rw [StrLaws.glued_eq_join] at ih ⊢
    rw [show Str.ofString "" = ⟨#[]⟩ from by decide] at ih ⊢
    rw [PyProof.Rows.join_nil_cons, lst_append, ih]
    rfl
theorem lst_pre {x : Str} {k : Nat} (h : k ≤ x.length) : lst (pre x k) = (lst x).take k := by
  unfold pre
  show lst (StrLaws.sliceText x none (some (k : Int))) = _
  rw [StrLaws.sliceText_to ⟨Int.natCast_nonneg k, by rw [Array.length_toList]; exact Int.ofNat_le.mpr h⟩]
  rfl
theorem lst_let {x : Str} {p : Nat} (h : p < x.length) : letAt x p = ⟨#[(lst x).getD p 0]⟩ := by
  have h2 : x.cps[p]? = some ((lst x).getD p 0) := by
    rw [List.getD_eq_getElem?_getD, ← Array.getElem?_toList]
    show (lst x)[p]? = some ((lst x)[p]?.getD 0)
    rw [List.getElem?_eq_getElem (by rw [lst_len]; exact h)]
    rfl
  exact PyProof.Rows.item_meets (Int.natCast_nonneg p) h2
theorem flat1 (v : Nat → Nat) : ∀ L : List Nat, (L.map fun i => [v i]).flatten = L.map v
  | [] => rfl
  | a :: L => by rw [List.map_cons, List.flatten_cons, flat1 v L]; rfl
theorem take_map (l : List Nat) (k : Nat) (h : k ≤ l.length) : (List.range k).map (fun i => l.getD i 0) = l.take k := by
  apply List.ext_getElem?
  intro j
  rw [List.getElem?_map, List.getElem?_take]
  by_cases hj : j < k
  · rw [List.getElem?_range hj, if_pos hj, List.getElem?_eq_getElem (Nat.lt_of_lt_of_le hj h), Option.map_some, List.getD_eq_getElem?_getD, List.getElem?_eq_getElem (Nat.lt_of_lt_of_le hj h)]
    rfl
  · rw [if_neg hj, List.getElem?_eq_none (by rw [List.length_range]; omega)]
    rfl
theorem lst_pair {x : Str} {p : Nat} (h : p < x.length) : lst (pairAt x p).1 ++ lst (pairAt x p).2 = [(lst x).getD p 0] := by
  unfold pairAt
  rw [lst_let h]
  split <;> rfl
theorem lst_row {x : Str} {k : Nat} (h : k ≤ x.length) : lst (rowTxt (pairsOf x k)) = (lst x).take k := by
  unfold rowTxt pairsOf
  rw [lst_join, List.map_map, List.map_map, ← take_map _ _ (by rw [lst_len]; exact h), ← flat1]
  refine congrArg List.flatten (List.map_congr_left fun i hi => ?_)
  show lst (Txt.join (Str.ofString "") [(pairAt x i).1, (pairAt x i).2]) = _
  rw [lst_join, ← lst_pair (Nat.lt_of_lt_of_le (List.mem_range.mp hi) h)]
  show lst (pairAt x i).1 ++ (lst (pairAt x i).2 ++ []) = _
  rw [List.append_nil]
theorem lst_fall {x : Str} {k p : Nat} (h : k ≤ x.length) : lst (fallOf x k p) = ((lst x).take k).drop p := by
  unfold fallOf pairsOf
  rw [lst_join, ← List.map_drop, List.map_map, List.map_map, ← take_map _ _ (by rw [lst_len]; exact h), ← List.map_drop, ← flat1]
  refine congrArg List.flatten (List.map_congr_left fun i hi => ?_)
  show lst ((pairAt x i).1 ++ (pairAt x i).2) = _
  rw [lst_append, ← lst_pair (Nat.lt_of_lt_of_le (List.mem_range.mp (List.mem_of_mem_drop hi)) h)]
def FL : List (List Nat) := frontsL 97 98 ++ frontsL 98 97
theorem fl_closed : (FL.all fun l => (l.dropLast.isEmpty || FL.contains l.dropLast) && (l.tail.isEmpty || FL.contains l.tail)) = true := by decide +kernel
theorem fronts_iff {x : Str} : x ∈ fronts ↔ lst x ∈ FL := by
  constructor
  · intro h
    obtain ⟨l, hl, rfl⟩ := List.mem_map.mp h
    exact hl
  · intro h
    exact List.mem_map.mpr ⟨lst x, h, lst_inj rfl⟩
theorem fl_take {l : List Nat} (h : l ∈ FL) : ∀ (d k : Nat), k + d = l.length → 1 ≤ k → l.take k ∈ FL
  | 0, k, e, _ => by rw [List.take_of_length_le (by omega)]; exact h
  | d + 1, k, e, h1 => by
    have h2 := fl_take h d (k + 1) (by omega) (by omega)
    have h3 := List.all_eq_true.mp fl_closed _ h2
    rw [Bool.and_eq_true, Bool.or_eq_true] at h3
    have e2 : (l.take (k + 1)).dropLast = l.take k := by
      rw [List.dropLast_eq_take, List.take_take, List.length_take]
      exact congrArg (fun n => l.take n) (by omega)
    rw [e2] at h3
    rcases h3.1 with h4 | h4
    · rw [List.isEmpty_iff] at h4
      have := congrArg List.length h4
      rw [List.length_take] at this
      exact absurd this (by show ¬ min k l.length = 0; omega)
    · exact List.contains_iff_mem.mp h4
theorem fl_drop {l : List Nat} (h : l ∈ FL) : ∀ p, p < l.length → l.drop p ∈ FL
  | 0, _ => h
  | p + 1, hp => by
    have h3 := List.all_eq_true.mp fl_closed _ (fl_drop h p (by omega))
    rw [Bool.and_eq_true, Bool.or_eq_true, Bool.or_eq_true] at h3
    rw [List.tail_drop] at h3
    rcases h3.2 with h4 | h4
    · rw [List.isEmpty_iff] at h4
      have := congrArg List.length h4
      rw [List.length_drop] at this
      exact absurd this (by show ¬ l.length - (p + 1) = 0; omega)
    · exact List.contains_iff_mem.mp h4
def headQ (y : Str) : Bool := decide (find4 y (Str.ofString "") 1 (y.length : Int) = 1) && (Txt.startswith y (Str.ofString "a") == (letAt y 0 == Str.ofString "a"))
theorem head_ok : (fronts.all headQ) = true := by decide +kernel
theorem front_len {x : Str} (hx : x ∈ fronts) : 1 ≤ x.length ∧ x.length ≤ 10 := by
  have ok := List.all_eq_true.mp fronts_ok x hx
  unfold frontOk at ok
  simp only [Bool.and_eq_true, decide_eq_true_eq] at ok
  exact ok.1.1
theorem pre_len {x : Str} {k : Nat} (h : k ≤ x.length) : (pre x k).length = k := by
  rw [← lst_len, lst_pre h, List.length_take, lst_len]
  exact Nat.min_eq_left h
theorem let_pre {x : Str} {k p : Nat} (h : k ≤ x.length) (hp : p < k) : letAt (pre x k) p = letAt x p := by
  rw [lst_let (by rw [pre_len h]; exact hp), lst_let (Nat.lt_of_lt_of_le hp h), lst_pre h, List.getD_eq_getElem?_getD, List.getElem?_take, if_pos hp, List.getD_eq_getElem?_getD]
theorem pre_pre {x : Str} {k p : Nat} (h : k ≤ x.length) (hp : p ≤ k) : pre (pre x k) p = pre x p := lst_inj (by
  rw [lst_pre (by rw [pre_len h]; exact hp), lst_pre h, lst_pre (Nat.le_trans hp h), List.take_take, Nat.min_eq_left hp])
theorem pre_front {x : Str} (hx : x ∈ fronts) {k : Nat} (h1 : k ≠ 0) (h : k ≤ x.length) : pre x k ∈ fronts := by
  rw [fronts_iff] at hx ⊢
  rw [lst_pre h]
  exact fl_take hx (x.length - k) k (by rw [lst_len]; omega) (by omega)
def frontE (x : Str) : Prop := x ∈ fronts ∨ x = Str.ofString ""
theorem learn_facts {x : Str} (hx : frontE x) : x.length ≤ 10 ∧ (∀ k, k ≤ x.length → rowTxt (pairsOf x k) = pre x k ∧ (k ≠ 0 → pre x k ∈ fronts) ∧ cutsA (pre x k) = cutsTo (Str.ofString "a") x k ∧ cutsB (pre x k) = cutsNB x k ∧
    ∀ p, p < k → 1 ≤ (fallOf x k p).length ∧ (fallOf x k p).length ≤ 100 ∧ find4 (fallOf x k p) (Str.ofString "") 1 ((fallOf x k p).length : Int) = 1 ∧ Txt.startswith (fallOf x k p) (Str.ofString "a") = (letAt x p == Str.ofString "a")) ∧ ∀ p, p < x.length → (letAt x p).length = 1 := by
  have hx10 : x.length ≤ 10 := by
    rcases hx with hx | rfl
    · exact (front_len hx).2
    · decide
  have hpf : ∀ k, k ≠ 0 → k ≤ x.length → pre x k ∈ fronts := by
    rcases hx with hx | rfl
    · exact fun k h0 hk => pre_front hx h0 hk
    · exact fun k h0 hk => absurd (Nat.le_zero.mp hk) h0
  refine ⟨hx10, fun k hk => ⟨lst_inj (by rw [lst_row hk, lst_pre hk]), fun h0 => hpf k h0 hk, ?_, ?_, fun p hp => ?_⟩, fun p _ => rfl⟩
  · unfold cutsA cutsTo
    rw [pre_len hk]
    rw [List.filter_congr fun p hp => by rw [let_pre hk (List.mem_range.mp hp)]]
    exact List.map_congr_left fun p hp => pre_pre hk (Nat.le_of_lt (List.mem_range.mp (List.mem_filter.mp hp).1))
  · unfold cutsB cutsNB
    rw [pre_len hk]
    rw [List.filter_congr fun p hp => by rw [let_pre hk (List.mem_range.mp hp)]]
    exact List.map_congr_left fun p hp => pre_pre hk (Nat.le_of_lt (List.mem_range.mp (List.mem_filter.mp hp).1))
  · have hf : fallOf x k p ∈ fronts := by
      rw [fronts_iff, lst_fall hk, ← lst_pre hk]
      exact fl_drop (fronts_iff.mp (hpf k (by omega) hk)) p (by rw [lst_len, pre_len hk]; exact hp)
    have h1 := List.all_eq_true.mp head_ok _ hf
    unfold headQ at h1
    rw [Bool.and_eq_true, decide_eq_true_eq, beq_iff_eq] at h1
    obtain ⟨l1, l2⟩ := front_len hf
    refine ⟨l1, Nat.le_trans l2 (by decide), h1.1, h1.2.trans ?_⟩
    rw [lst_let l1, lst_let (Nat.lt_of_lt_of_le hp hk), lst_fall hk, List.getD_eq_getElem?_getD, List.getElem?_drop, List.getElem?_take, if_pos (by omega), Nat.add_zero, List.getD_eq_getElem?_getD]
theorem cutsTo_succ (l x : Str) (k : Nat) : cutsTo l x (k + 1) = cutsTo l x k ++ (if (letAt x k == l) = true then [pre x k] else []) := by
  unfold cutsTo
  rw [List.range_succ, List.filter_append, List.map_append]
  congr 1
  rw [List.filter_cons]
  split <;> rfl
theorem cutsNB_succ (x : Str) (k : Nat) : cutsNB x (k + 1) = cutsNB x k ++ (if (letAt x k == Str.ofString "a") = true then [] else [pre x k]) := by
  unfold cutsNB
  rw [List.range_succ, List.filter_append, List.map_append]
  congr 1
  rw [List.filter_cons]
  cases letAt x k == Str.ofString "a" <;> rfl
end Mine
end
section
open PySem PySem.W PyProof.Rows PySem.Calls
set_option maxRecDepth 100000
namespace Mine
def isTab : AO := fun o => ∃ ps : Array Value, o = tabObj ps ∧ TriplesOk ps.toList
theorem genCode_tab {M : Model} {A : Around} {s : Shared} {E : Value → Shared → Prop} {env : Env} {c P : Addr} {ps : Array Value} {pos : PySem.Pos} {qualname : Str} {scope : Scope} {Q : Value → Shared → Prop} (hc : env.code = .ref c) (X : CodeHd s.heap c P) (hP : s.heap.get? P = some (tabObj ps)) (ht : TriplesOk ps.toList)
    (hQ : ∀ code h' tk ps', Heap.ExtBut P s.heap h' → h'.get? P = some (tabObj ps') → TriplesOk ps'.toList → Q code { s with heap := h', toks := tk }) :
    wpAny M A (genexprCode env pos qualname scope) Q E s := by
  cases hnf : codeAmong pos ps.toList with
  | some cv => exact wpAny_genexprCode_hit hc (X.code hP ht) hnf (hQ cv s.heap s.toks ps (Heap.ExtBut.refl _ _) hP ht)
  | none =>
    refine wpAny_genexprCodeX hc (X.code hP ht) (X.tab hP) hnf fun c' h' tk ext _ _ isc _ tab _ => ?_
    obtain ⟨_, _, _, _, _, _, _, _, _, op, _, _, _, _, _, _, _, hop, hpd, htr, _⟩ := isc
    exact hQ _ _ _ _ ext tab.2 htr
def tupVals (h : Heap) (a : Addr) : Array Value := match h.get? a with
  | some ⟨_, _, .seq xs _, _⟩ => xs
  | _ => #[]
def Pairs (es : List Ent) (ss : List (Str × Str)) : Prop := es.map (·.2) = ss.map fun p => (.str p.1 0, .str p.2 0)
theorem Pairs.get {es : List Ent} {ss : List (Str × Str)} (h : Pairs es ss) {j : Nat} {e : Ent} (he : es[j]? = some e) : ∃ p, ss[j]? = some p ∧ e.2.1 = .str p.1 0 ∧ e.2.2 = .str p.2 0 := by
  have := congrArg (·[j]?) h
  simp only [List.getElem?_map, he, Option.map_some] at this
  obtain ⟨p, hp, e2⟩ := Option.map_eq_some_iff.mp this.symm
  exact ⟨p, hp, by rw [← e2], by rw [← e2]⟩
theorem ref_er {cs : List Value} {as : List Addr} (h : cs.map er = as.map Value.ref) : cs = as.map Value.ref := by
  induction cs generalizing as with
  | nil => cases as with
    | nil => rfl
    | cons a as => cases h
  | cons v cs ih => cases as with
    | nil => cases h
    | cons a as =>
      rw [List.map_cons, List.map_cons] at h
      injection h with h1 h2
      rw [List.map_cons, er_ref h1, ih h2]
section
variable {c : Cx} {m : Loc} {N : Led}
theorem elt_eval {prog : Program} {w : World} {A' : Around} {E' : Value → Shared → Prop} {s₂ : Shared} {mg m₂ : Str → Option Value} {env : Env} {p3 p4 p5 p6 p7 p8 : PySem.Pos} {va vb : Value} {a b : Str} {vC : Value}
    (hk : env.scope.kind = .function) (n1 : env.scope.names.lookup ("EMPTYSTRING" : Str) = some .globalImplicit) (n2 : env.scope.names.lookup ("fws" : Str) = some .local) (n3 : env.scope.names.lookup ("part" : Str) = some .local) (hp : (p4.endLine == p8.line) = true)
    (hg : s₂.heap.Ns env.globals mg) (hv : mg "EMPTYSTRING" = some vC) (ev : er vC = .str (Str.ofString "") 0) (hn : s₂.heap.Ns env.locals m₂) (ha : m₂ ("fws" : Str) = some va) (hb : m₂ ("part" : Str) = some vb) (ea : er va = .str a 0) (eb : er vb = .str b 0) (hl : a.length + b.length ≤ 1000) :
    wpAny (model prog w) A' (eval (.Call (.Attribute (.Name "EMPTYSTRING" p3) "join" p4) [.Tuple [.Name "fws" p5, .Name "part" p6] 0 p7] [] p8) env) (fun y s₃ => (∃ u, y = .str (pairTxt (a, b)) u) ∧ Keeps s₂ s₃) E' s₂ := by
  obtain ⟨t1, rfl⟩ := er_str ev
  obtain ⟨ta, rfl⟩ := er_str ea
  obtain ⟨tb, rfl⟩ := er_str eb
  refine MethodCall_ ?_ (method_eq rfl rfl (show 1 < 30 by decide) hp)
  refine Calls.Name_function_global hk n1 (Calls.loadGlobal_global hg hv ?_) (by decide)
  with_reducible refine getMethod_builtin (typeIs_str _ _ _) F.plainAttrs_str PySem.F.slot_str_join PySem.F.type_str_join ?nm ?_
  case nm => exact fun a e => nomatch e
  rw [back_plain env _ (es := [_]) rfl]
  refine callWith_of (P := fun _ => True) rfl (fun h _ => ⟨.machine, .inr (.inl rfl), .now⟩) (evalArgs_plain (spliced_cons (Tuple_ ?_)))
  rw [back_plain env _ (es := [_, _]) rfl]
  refine spliced_cons (wpAny_Name (wpAny_loadName_local hk n2 hn ha (spliced_cons (wpAny_Name (wpAny_loadName_local hk n3 hn hb (spliced_nil ?_)) (by decide)))) (by decide))
  refine wpAny_newObj_type (spliced_nil ⟨trivial, ?_⟩) (by show 2 ≤ sizeLine; rw [sizeLine_eq]; omega)
  refine join_tuple (ys := [a, b]) (s := { s₂ with heap := s₂.heap.push _ }) (items := #[.str a ta, .str b tb]) ⟨_, Heap.get?_push_size _ rfl, rfl, 0, rfl⟩ (.cons _ _ (.cons _ _ .nil)) (by show a.length + (b.length + 0) + 2 * 0 ≤ _; omega) fun t' k => ?_
  exact ⟨⟨_, rfl⟩, _, _, rfl, fun b o e => Heap.get?_push_of_some _ e⟩
theorem entV_er {cs : List Value} {es : List Ent} (h : cs.map er = entV es) : cs = entV es := by
  have e : entV es = (es.map (·.1)).map Value.ref := by unfold entV; rw [List.map_map]; rfl
  rw [e] at h ⊢
  exact ref_er h
theorem strs_of {l : List (Str × Tok)} {n : Nat} {ss : List (Str × Str)} {P : Nat → Value → Prop} (hacc : ItemsOf P (strValues l).toArray n) (hP : ∀ j v, P j v → ∃ i, (List.range n)[j]? = some i ∧ ∃ u, v = .str (pairTxt (ss.getD i (Str.ofString "", Str.ofString ""))) u) (hss : ss.length = n) : l.map (·.1) = ss.map pairTxt := by
  have hl : l.length = n := by
    have := hacc.1
    rw [List.size_toArray] at this
    unfold strValues at this
    rw [List.length_map] at this
    exact this
  apply List.ext_getElem?
  intro j
  rw [List.getElem?_map, List.getElem?_map]
  by_cases hj : j < n
  · have hj1 : l[j]? = some l[j] := List.getElem?_eq_getElem (hl ▸ hj)
    have hj2 : ss[j]? = some ss[j] := List.getElem?_eq_getElem (hss ▸ hj)
    obtain ⟨i, hi, u, e⟩ := hP j _ (hacc.2 j (.str l[j].1 l[j].2) (by
      rw [List.getElem?_toArray]
      unfold strValues
      rw [List.getElem?_map, hj1]
      rfl))
    rw [List.getElem?_range hj] at hi
    cases hi
    rw [List.getD_eq_getElem?_getD, hj2] at e
    injection e with e1 _
    rw [hj1, hj2, Option.map_some, Option.map_some, e1]
    rfl
  · rw [List.getElem?_eq_none (by omega), List.getElem?_eq_none (by omega)]
    rfl
theorem sum_short : ∀ (ys : List Str) (k : Nat), (∀ y ∈ ys, y.length ≤ k) → (ys.map (·.length)).sum ≤ ys.length * k
  | [], _, _ => Nat.zero_le _
  | y :: ys, k, h => by
    rw [List.map_cons, List.sum_cons, List.length_cons, Nat.add_mul, Nat.one_mul, Nat.add_comm]
    exact Nat.add_le_add (sum_short ys k fun z hz => h z (.tail _ hz)) (h y (.head _))
theorem pair_len (q : Str × Str) (h : q.1.length + q.2.length ≤ 10) : (pairTxt q).length ≤ 10 := by
  have := StrLaws.join_length_le (Str.ofString "") [q.1, q.2]
  have e : (Str.ofString "").length = 0 := rfl
  rw [e, Nat.mul_zero, Nat.add_zero] at this
  refine Nat.le_trans this ?_
  show q.1.length + (q.2.length + 0) ≤ 10
  omega
theorem Pos.app {D : Addr} {P : AO} {N : Led} {g : AO → Led} (x : Pos D P N g) : ∀ A : Led, Pos D P (A ++ N) (fun Q => A ++ g Q)
  | [] => x
  | _ :: A => .tail (Pos.app x A)
theorem tup_at {h : Heap} (a : At c h m N) {es : List Ent} {ss : List (Str × Str)} (hP : Pairs es ss) (hs : ∀ q ∈ entL es, q ∈ N) {j : Nat} {e : Ent} (he : es[j]? = some e) : ∃ p va vb, ss[j]? = some p ∧ h.IsTuple e.1 #[va, vb] ∧ tupVals h e.1 = #[va, vb] ∧ er va = .str p.1 0 ∧ er vb = .str p.2 0 := by
  obtain ⟨p, hp, e1, e2⟩ := hP.get he
  obtain ⟨o, ho, us, ep, rfl, hus⟩ := a.get (a := e.1) (P := isT [e.2.1, e.2.2]) (hs _ (List.mem_map.mpr ⟨e, List.mem_of_getElem? he, rfl⟩))
  obtain ⟨va, vb, rfl, h1, h2⟩ := map_two hus
  exact ⟨p, va, vb, hp, ⟨_, ho, rfl, ep, rfl⟩, by unfold tupVals; rw [ho], h1.trans e1, h2.trans e2⟩
theorem str_gen (G : Good c) {ns : List (Str × NameKind)} (Fc : Fn c ns []) (hccd : c.ccd = .ref 130) {x dx : Addr} {es : List Ent} {ss : List (Str × Str)} {K : Kv} {scope : Scope} {p1 p2 p3 p4 p5 p6 p7 p8 p9 p10 p11 p12 p13 p14 : PySem.Pos} {k1 : Nat}
    (hns : ns.lookup ("EMPTYSTRING" : Str) = some .globalImplicit) (hnx : ns.lookup ("self" : Str) = some .local) (hself : m.lookup ("self" : Str) = some (.ref x)) (hP : Pairs es ss) (hlen : es.length ≤ 100) (hshort : ∀ q ∈ ss, q.1.length + q.2.length ≤ 10)
    (hp : (p2.endLine == p14.line) = true) (hp2 : (p4.endLine == p8.line) = true) (hco : scope.isCoroutine = false) (hclos : closureFor scope c.env = pure []) (hcell : ∀ y ∈ scope.names, y.2 ≠ .cell) (h0 : scope.names.lookup (".0" : Str) = some NameKind.local)
    (n1 : scope.names.lookup ("EMPTYSTRING" : Str) = some .globalImplicit) (n2 : scope.names.lookup ("fws" : Str) = some .local) (n3 : scope.names.lookup ("part" : Str) = some .local) (hkind : scope.kind = .function)
    (k : K (.str (rowTxt ss) 0) m (rowL x dx es ++ ((126, isTab) :: N))) :
    Run c er (eval (.Call (.Attribute (.Name "EMPTYSTRING" p1) "join" p2) [.GeneratorExp (.Call (.Attribute (.Name "EMPTYSTRING" p3) "join" p4) [.Tuple [.Name "fws" p5, .Name "part" p6] 0 p7] [] p8) [⟨.Tuple [.Name "fws" p9, .Name "part" p10] k1 p11, .Name "self" p12, [], 0⟩] scope p13] [] p14) c.env) m (rowL x dx es ++ ((126, isTab) :: N)) K := by
  refine ⟨fun h0' tk g Q E hg a kk => MethodCall_ ?_ (method_eq rfl rfl (show 1 < 30 by decide) hp)⟩
  have r1 : Run c er (eval (.Name "EMPTYSTRING" p1) c.env) m (rowL x dx es ++ ((126, isTab) :: N)) fun v m1 N1 => v = .str (Str.ofString "") 0 ∧ m1 = m ∧ N1 = rowL x dx es ++ ((126, isTab) :: N) := by
    refine vName_sound G Fc.ns_ Fc.cl_ ?_ (by decide) (by decide)
    unfold vName
    rw [hns]
    exact ⟨rfl, rfl, rfl⟩
  refine r1.go h0' tk g _ E hg a fun v h1 tk1 g1 m1 N1 hg1 a1 q => ?_
  obtain ⟨e1, rfl, rfl⟩ := q
  obtain ⟨t1, rfl⟩ := er_str e1
  with_reducible refine getMethod_builtin (typeIs_str _ _ _) F.plainAttrs_str PySem.F.slot_str_join PySem.F.type_str_join ?nm ?_
  case nm => exact fun a e => nomatch e
  rw [back_plain c.env _ (es := [_]) rfl]
  refine callWith_of (P := fun _ => True) rfl (fun h _ => ⟨.machine, .inr (.inl rfl), .now⟩) (evalArgs_plain (spliced_cons ?_))
  refine wpAny_GeneratorExp_walksQTD rfl hco hclos hcell h0 n2 n3 (by decide) hkind (Nat.lt_of_le_of_lt G.d (by decide)) ?_ (fun x => rfl)
  have r2 : Run c er (eval (.Name "self" p12) c.env) m1 (rowL x dx es ++ ((126, isTab) :: N)) fun v m2 N2 => v = .ref x ∧ m2 = m1 ∧ N2 = rowL x dx es ++ ((126, isTab) :: N) := by
    refine vName_sound G Fc.ns_ Fc.cl_ ?_ (by decide) (by decide)
    unfold vName
    rw [hnx, hself]
    exact ⟨rfl, rfl, rfl⟩
  refine r2.go h1 tk1 g1 _ E hg1 a1 fun v h2 tk2 g2 m2 N2 hg2 a2 q => ?_
  obtain ⟨e2, rfl, rfl⟩ := q
  rw [er_ref e2]
  refine iter_acc G a2 (.head _) (.tail _ (.head _)) ?_
  have a3 := a2.push (o := { cls := .type "list_iterator", data := .fields #[.ref x, .int 0 0] }) (P := fun _ => True) trivial
  generalize eI : h2.push { cls := .type "list_iterator", data := .fields #[.ref x, .int 0 0] } = h3 at a3
  have nI : (h2.objs.size : Addr) ≠ 126 := fun e => by
    have nd := a3.nodup
    rw [List.map_cons, List.nodup_cons] at nd
    refine nd.1 ?_
    rw [e]
    exact List.mem_map_of_mem (f := (·.1)) (a := ((126 : Addr), isTab)) (List.mem_append_right _ (.head _))
  have nx : x ≠ h2.objs.size := fun e => by
    have nd := a3.nodup
    rw [List.map_cons, List.nodup_cons] at nd
    exact nd.1 (by rw [← e]; exact .head _)
  obtain ⟨oP, hoP, ps, eP1, eP2⟩ := a3.get (a := 126) (P := isTab) (.tail _ (List.mem_append_right _ (.head _)))
  obtain ⟨μ3, C3, F3, r3⟩ := a3.ex
  rw [eP1] at hoP
  refine ⟨G.T.nolimit.keeps F3.keep, genCode_tab (c := 130) (P := 126) (ps := ps) hccd ((G.t126.keeps G.B.stays).keeps F3.keep) hoP eP2 fun code h4 tk4 ps4 ext isc isc2 => ?_⟩
  have a4 : At c h4 m2 ((h2.objs.size, fun _ => True) :: (rowL x dx es ++ ((126, isTab) :: N))) :=
    a3.upd (.tail (Pos.app .head (rowL x dx es))) (fun o _ _ => by
      exact ⟨_, isc, ps4, rfl, isc2⟩) fun b o hb e => ext b o hb e
  obtain ⟨bm, ob, b1, b2, b3, b4, b5, b6⟩ := G.T.bmain
  have nbm : bm ≠ 126 := fun e => by
    have := F3.keep _ _ b3
    rw [e, hoP] at this
    cases this
    cases b6
  have hg4 : h4.Ns mainGlobals c.mg := (G.T.g.keeps F3.keep).at' fun o e => ext _ _ (by decide) e
  have hl4 : h4.NoLimit := (G.T.nolimit.keeps F3.keep).extBut (fun b o hb e => ext b o hb e) (by decide)
  refine wpAny_builtinsFor (m := c.mg) hg4 b1 b2 (ext _ _ nbm (F3.keep _ _ b3)) b4 b5 b6 ?_
  obtain ⟨cs, ep, od, I4, ecs, hdd, hod⟩ := acc_inst a4 (.tail _ (.head _)) (.tail _ (.tail _ (.head _)))
  have hcs := entV_er ecs
  subst hcs
  have hit0 : h4.IsListIter h2.objs.size x 0 := ⟨_, ext _ _ nI (by rw [← eI]; exact Heap.get?_push_size _ rfl), rfl, rfl⟩
  have hs4 : SeqAt h4 x (entV es).toArray := ⟨_, I4.at_, ep, rfl⟩
  have hsub : ∀ q ∈ entL es, q ∈ ((h2.objs.size, fun _ => True) :: (rowL x dx es ++ ((126, isTab) :: N)) : Led) := fun q hq => .tail _ (List.mem_append_left _ (.tail _ (.tail _ hq)))
  let Ts : Nat → Addr := fun j => (es[j]?.map (·.1)).getD 0
  let Tx : Nat → Str := fun j => pairTxt (ss.getD j (Str.ofString "", Str.ofString ""))
  have hn : (entV es).toArray.size = es.length := by unfold entV; rw [List.size_toArray, List.length_map]
  have hTs : ∀ j, j < es.length → ∃ e, es[j]? = some e ∧ Ts j = e.1 := fun j hj => ⟨es[j], List.getElem?_eq_getElem hj, by show (es[j]?.map (·.1)).getD 0 = _; rw [List.getElem?_eq_getElem hj]; rfl⟩
  have hTI : ∀ j, j < (entV es).toArray.size → Ts j ≠ h2.objs.size := fun j hj e => by
    obtain ⟨e0, he, ht⟩ := hTs j (hn ▸ hj)
    have nd := a3.nodup
    rw [List.map_cons, List.nodup_cons] at nd
    refine nd.1 ?_
    rw [← e, ht]
    exact List.mem_map_of_mem (f := (·.1)) (a := (e0.1, isT [e0.2.1, e0.2.2])) (List.mem_append_left _ (.tail _ (.tail _ (List.mem_map.mpr ⟨e0, List.mem_of_getElem? he, rfl⟩))))
  have hitem : ∀ j, j < (entV es).toArray.size → (entV es).toArray[j]? = some (.ref (Ts j)) := fun j hj => by
    obtain ⟨e0, he, ht⟩ := hTs j (hn ▸ hj)
    rw [List.getElem?_toArray, ht]
    unfold entV
    rw [List.getElem?_map, he]
    rfl
  have htup : ∀ j, j < (entV es).toArray.size → ∃ p va vb, ss[j]? = some p ∧ h4.IsTuple (Ts j) #[va, vb] ∧ tupVals h4 (Ts j) = #[va, vb] ∧ er va = .str p.1 0 ∧ er vb = .str p.2 0 := fun j hj => by
    obtain ⟨e0, he, ht⟩ := hTs j (hn ▸ hj)
    rw [ht]
    exact tup_at a4 hP hsub he
  have hlt : ∀ b o, h4.get? b = some o → b < h4.objs.size := fun b o e => Heap.lt_size e
  have hmg : mainGlobals < h4.objs.size := by obtain ⟨o, es9, ep9, e9, _⟩ := hg4; exact hlt _ _ e9
  have ngI : mainGlobals ≠ h2.objs.size := fun e => by
    obtain ⟨o, es9, ep9, e9, _⟩ := G.T.g.keeps (show ∀ b o, c.h₀.get? b = some o → h2.get? b = some o from by obtain ⟨μ2, C2, F2, r2⟩ := a2.ex; exact F2.keep)
    exact absurd (Heap.lt_size e9) (by rw [e]; exact Nat.lt_irrefl _)
  obtain ⟨vC, hvC, evC⟩ : ∃ v, c.mg "EMPTYSTRING" = some v ∧ er v = .str (Str.ofString "") 0 := by
    obtain ⟨v', e3, e4⟩ := glob_C c _ (show (("EMPTYSTRING" : Str), Value.str (Str.ofString "") 0) ∈ globC from .tail _ (.head _))
    exact ⟨v', mg_of G.X G.T.g e3, e4⟩
  refine ⟨h2.objs.size, h2.objs.size :: x :: (List.range (entV es).toArray.size).map Ts, [h2.objs.size], (entV es).toArray.size, _, _, _, fun _ => true, fun j y => ∃ u, y = .str (Tx j) u, rfl,
    fun A' hA => (walk_tuples hA h2.objs.size x nx (entV es).toArray Ts (fun j => tupVals h4 (Ts j)) hitem hTI).bound, ?_, ⟨hit0, hs4, ?_⟩, ?_, hl4, ?_, ?_, ?_⟩
  · rintro i vals ⟨hi, rfl⟩
    obtain ⟨p, va, vb, _, _, e, _⟩ := htup i hi
    exact ⟨va, vb, e⟩
  · intro j hj
    obtain ⟨p, va, vb, _, e1, e, _⟩ := htup j hj
    rw [e]; exact e1
  · intro b hb
    rcases List.mem_cons.mp hb with rfl | hb
    · obtain ⟨o, e, _⟩ := hit0; exact hlt _ _ e
    · rcases List.mem_cons.mp hb with rfl | hb
      · exact hlt _ _ I4.at_
      · obtain ⟨j, hj, rfl⟩ := List.mem_map.mp hb
        obtain ⟨p, va, vb, _, ⟨o, e, _⟩, _⟩ := htup j (List.mem_range.mp hj)
        exact hlt _ _ e
  · intro hm
    have e := List.mem_singleton.mp hm
    obtain ⟨_, ⟨o9, es9, ep9, e9, _⟩, _⟩ := G.T.nolimit.keeps (show ∀ b o, c.h₀.get? b = some o → h2.get? b = some o from by obtain ⟨μ2, C2, F2, r2⟩ := a2.ex; exact F2.keep)
    exact absurd (Heap.lt_size e9) (by rw [e]; exact Nat.lt_irrefl _)
  · intro href hk9
    refine ⟨fun A' E' i va vb s₂ m₂ hA hD hU hP' hn' h1' h2' hk' => wpAny_pure ⟨rfl, _, _, rfl, fun _ _ e => e⟩, fun A' E' i va vb s₂ m₂ hA hD hU hP' hp' hn' h1' h2' hk' => ?_⟩
    obtain ⟨hi, ev⟩ := hP'
    obtain ⟨p, va', vb', hss, _, e, ea, eb⟩ := htup i hi
    rw [e] at ev
    have ev2 := congrArg Array.toList ev
    obtain ⟨rfl, rfl⟩ : va = va' ∧ vb = vb' := by
      injection ev2 with z1 z2
      injection z2 with z2 _
      exact ⟨z1, z2⟩
    have hg9 : s₂.heap.Ns mainGlobals c.mg := hg4.at' fun o e => hk' _ (List.mem_range.mpr hmg) (fun h => ngI (List.mem_singleton.mp h)) o (hk9 _ _ e)
    refine wpAny_mono (elt_eval (a := p.1) (b := p.2) hkind n1 n2 n3 hp2 hg9 hvC evC hn' h1' h2' ea eb (Nat.le_trans (hshort p (List.mem_of_getElem? hss)) (by decide))) (fun y s₃ hy => ⟨?_, hy.2⟩) fun _ _ z => z
    obtain ⟨u, rfl⟩ := hy.1
    refine ⟨u, ?_⟩
    show _ = Value.str (pairTxt (ss.getD i _)) u
    rw [List.getD_eq_getElem?_getD, hss]
    rfl
  · intro a h5 tk5 gs hgb hlt5 hsz5 hk5 W hat
    have hpass : passing (fun _ => true) (entV es).toArray.size 0 = List.range (entV es).toArray.size := by
      unfold passing
      rw [List.drop_zero, List.filter_eq_self.mpr fun _ _ => rfl]
    rw [hpass] at W
    rw [List.length_range] at W
    refine spliced_nil ⟨trivial, ?_⟩
    refine PySem.SC.joinGen W.in4_2 (fun i s' st => st.1.typeIs) hat (fun b hb => ?_) (.head _) (fun i v hv => ?_) (fun s' l hm hacc => ?_) (by rw [hn, sizeLine_eq]; omega)
    · show b < h5.objs.size
      rw [hsz5]
      rcases List.mem_cons.mp hb with rfl | hb
      · exact Nat.lt_succ_self _
      · rcases List.mem_cons.mp hb with rfl | hb
        · exact Nat.lt_succ_of_lt hlt5
        · exact Nat.lt_succ_of_lt (Nat.lt_trans (List.mem_range.mp hb) hlt5)
    · obtain ⟨i2, _, u, rfl⟩ := hv
      exact ⟨_, _, rfl⟩
    · have hss : ss.length = es.length := by
        have := congrArg List.length hP
        rw [List.length_map, List.length_map] at this
        exact this.symm
      have hl := strs_of hacc (fun j v hv => by
        obtain ⟨i2, hi2, u, rfl⟩ := hv
        exact ⟨i2, hi2, u, rfl⟩) (hss.trans hn.symm)
      rw [hl]
      refine ⟨joinOk_of (by
        have e : (Str.ofString "").length = 0 := rfl
        rw [e, Nat.mul_zero, Nat.add_zero]
        refine Nat.le_trans (sum_short (ss.map pairTxt) 10 fun y hy => ?_) (by rw [List.length_map, hss]; omega)
        obtain ⟨q, hq, rfl⟩ := List.mem_map.mp hy
        exact pair_len q (hshort q hq)), fun t' k' => ?_⟩
      obtain ⟨hp9, g9, d9, t9, o9⟩ := s'
      have ed : d9 = c.s.drawn := hm.drawn
      have eo : o9 = c.s.os := hm.os
      subst ed eo
      have keep : ∀ b o, b ≠ h2.objs.size → h4.get? b = some o → hp9.get? b = some o := fun b o hb e => hm.heap b o (fun hw => by
        rcases List.mem_cons.mp hw with rfl | hw
        · exact absurd (hlt _ _ e) (Nat.lt_irrefl _)
        · exact hb (List.mem_singleton.mp hw)) (hk5 _ _ e)
      exact kk (.str (rowTxt ss) t') hp9 k' g9 _ _ (AllBare.movedS (hg2.push hgb) hm) (a4.off keep) k
end
end Mine
end
section
open PySem PySem.W PyProof.Rows PySem.Calls
set_option maxRecDepth 100000
namespace Mine
theorem slot_md_get : Slot "method_descriptor" "__get__" "method_descriptor.__get__" := .of (owner := "method_descriptor") (n := "__get__") (by rw [typeLookup_type, builtinLookup_eq_fast]; kernel_rfl) (by decide +kernel) (by decide +kernel) (by decide +kernel)
  (by first | exact .inl (by decide +kernel) | exact .inr (by decide +kernel)) (by rw [isSubtype_type]; kernel_rfl)
theorem slot_wd_get : Slot "wrapper_descriptor" "__get__" "wrapper_descriptor.__get__" := .of (owner := "wrapper_descriptor") (n := "__get__") (by rw [typeLookup_type, builtinLookup_eq_fast]; kernel_rfl) (by decide +kernel) (by decide +kernel) (by decide +kernel)
  (by first | exact .inl (by decide +kernel) | exact .inr (by decide +kernel)) (by rw [isSubtype_type]; kernel_rfl)
theorem entry_md_get : entryFor table "method_descriptor.__get__" = some Builtin.«method_descriptor.__get__» := entryFor_of_tree (by kernel_rfl)
theorem entry_wd_get : entryFor table "wrapper_descriptor.__get__" = some Builtin.«wrapper_descriptor.__get__» := entryFor_of_tree (by kernel_rfl)
theorem args_md_get (a b c : Value) : argsOk "method_descriptor.__get__" ⟨[a, b, c], []⟩ := by unfold argsOk; kernel_rfl
theorem args_wd_get (a b c : Value) : argsOk "wrapper_descriptor.__get__" ⟨[a, b, c], []⟩ := by unfold argsOk; kernel_rfl
section
variable {prog : Program} {w : World} {A : Around} {E : Value → Shared → Prop} {h : Heap} {g : Array GenState} {d : Drawn} {t : Nat} {os : OsState}
abbrev bObj (bt id : String) (x : Addr) : Obj := { cls := .type bt, dict := none, data := .fields #[.builtin id, .ref x], slots := #[] }
theorem pop_get {x C : Addr} {Q : PySem.Fin → Shared → Prop} (L : Looks (model prog w) h (isInstance (.ref x) (.type "list")) true)
    (hq : Q (.done (.ret (.ref h.objs.size))) ⟨h.push (bObj "builtin_function_or_method" "list.pop" x), g, d, t, os⟩) :
    wpAny (model prog w) A (Builtin.«method_descriptor.__get__» ⟨[.builtin "list.pop", .ref x, .ref C], []⟩) Q E ⟨h, g, d, t, os⟩ := by
  unfold Builtin.«method_descriptor.__get__»
  rw [← show ".".intercalate ("list.pop".cutAt '.').dropLast = "list" by decide +kernel] at L
  repeat lk
  exact hq
theorem init_get {x C : Addr} {Q : PySem.Fin → Shared → Prop} (L : Looks (model prog w) h (isInstance (.ref x) (.type "list")) true)
    (hq : Q (.done (.ret (.ref h.objs.size))) ⟨h.push (bObj "method-wrapper" "list.__init__" x), g, d, t, os⟩) :
    wpAny (model prog w) A (Builtin.«wrapper_descriptor.__get__» ⟨[.builtin "list.__init__", .ref x, .ref C], []⟩) Q E ⟨h, g, d, t, os⟩ := by
  unfold Builtin.«wrapper_descriptor.__get__»
  rw [← show ".".intercalate ("list.__init__".cutAt '.').dropLast = "list" by decide +kernel] at L
  repeat lk
  exact hq
theorem len_get {x C : Addr} {Q : PySem.Fin → Shared → Prop} (L : Looks (model prog w) h (isInstance (.ref x) (.type "list")) true)
    (hq : Q (.done (.ret (.ref h.objs.size))) ⟨h.push (bObj "method-wrapper" "list.__len__" x), g, d, t, os⟩) :
    wpAny (model prog w) A (Builtin.«wrapper_descriptor.__get__» ⟨[.builtin "list.__len__", .ref x, .ref C], []⟩) Q E ⟨h, g, d, t, os⟩ := by
  unfold Builtin.«wrapper_descriptor.__get__»
  rw [← show ".".intercalate ("list.__len__".cutAt '.').dropLast = "list" by decide +kernel] at L
  repeat lk
  exact hq
structure Handed (name : Str) (id bt dt gid : String) (B : Builtin) : Prop where
  slot : Slot dt "__get__" gid
  entry : entryFor table gid = some B
  args : ∀ a b c : Value, argsOk gid ⟨[a, b, c], []⟩
  typ : typeOf (.builtin id) = pure (.type dt)
  get : ∀ {prog : Program} {w : World} {A : Around} {E : Value → Shared → Prop} {h : Heap} {g : Array GenState} {d : Drawn} {t : Nat} {os : OsState} {x C : Addr} {Q : PySem.Fin → Shared → Prop}, Looks (model prog w) h (isInstance (.ref x) (.type "list")) true →
    Q (.done (.ret (.ref h.objs.size))) ⟨h.push (bObj bt id x), g, d, t, os⟩ → wpAny (model prog w) A (B ⟨[.builtin id, .ref x, .ref C], []⟩) Q E ⟨h, g, d, t, os⟩
  along : ∀ K : Frag, alongIn K name [.type "list", .type "object"] = some (some (.builtin id))
  nm : (name == ("__class__" : Str)) = false
theorem handed_pop : Handed "pop" "list.pop" "builtin_function_or_method" "method_descriptor" "method_descriptor.__get__" Builtin.«method_descriptor.__get__» :=
  ⟨slot_md_get, entry_md_get, args_md_get, by first | exact PySem.F.type_list_pop | (rw [show typeOf (.builtin "list.pop") = builtinType "list.pop" from rfl, builtinType_eq_fast]; kernel_rfl), pop_get, fun K => by kernel_rfl, by decide⟩
theorem handed_init : Handed "__init__" "list.__init__" "method-wrapper" "wrapper_descriptor" "wrapper_descriptor.__get__" Builtin.«wrapper_descriptor.__get__» :=
  ⟨slot_wd_get, entry_wd_get, args_wd_get, by (rw [show typeOf (.builtin "list.__init__") = builtinType "list.__init__" from rfl, builtinType_eq_fast]; kernel_rfl), init_get, fun K => by kernel_rfl, by decide⟩
theorem handed_len : Handed "__len__" "list.__len__" "method-wrapper" "wrapper_descriptor" "wrapper_descriptor.__get__" Builtin.«wrapper_descriptor.__get__» :=
  ⟨slot_wd_get, entry_wd_get, args_wd_get, by (rw [show typeOf (.builtin "list.__len__") = builtinType "list.__len__" from rfl, builtinType_eq_fast]; kernel_rfl), len_get, fun K => by kernel_rfl, by decide⟩
theorem super_ga {name : Str} {id bt dt gid : String} {B : Builtin} (H : Handed name id bt dt gid B) {K : Frag} {so x : Addr} {tk : Tok} {Q : PySem.Fin → Shared → Prop}
    (hso : h.get? so = some (ks_superObj 157 x 157)) (hno : Looks (model prog w) h (opaqueClassAbove (.ref 157)) none) (hC : Looks (model prog w) h (mroOf (.ref 157)) [.ref 157, .type "list", .type "object"]) (X : K.In h)
    (L : Looks (model prog w) h (isInstance (.ref x) (.type "list")) true) (hxC : x ≠ 157) (hq : Q (.done (.ret (.ref h.objs.size))) ⟨h.push (bObj bt id x), g, d, t, os⟩) :
    wpAny (model prog w) A (Builtin.«super.__getattribute__» ⟨[.ref so, .str name tk], []⟩) Q E ⟨h, g, d, t, os⟩ := by
  have hlk := H.slot.lookup
  have hn := H.nm
  have hne : (Value.ref x == Value.ref 157) = false := by
    rw [beq_eq_false_iff_ne]
    exact fun e => hxC (Value.ref.inj e)
  have hT : (⟨h, g, d, t, os⟩ : Shared).TypeIs (.builtin id) dt := H.typ
  have hdt : (ks_superObj 157 x 157).data = .fields #[.ref 157, .ref x, .ref 157] := rfl
  have f0 : (#[.ref 157, .ref x, .ref 157] : Array Value)[0]? = some (.ref 157) := rfl
  have f1 : (#[.ref 157, .ref x, .ref 157] : Array Value)[1]? = some (.ref x) := rfl
  have f2 : (#[.ref 157, .ref x, .ref 157] : Array Value)[2]? = some (.ref 157) := rfl
  have hl : (([Value.ref 157, .type "list", .type "object"] : List Value).dropWhile (· != .ref 157)).drop 1 = [.type "list", .type "object"] := by decide
  unfold Builtin.«super.__getattribute__»
  repeat (first
    | (with_reducible refine wpAny_field hso hdt f0 ?_) | (with_reducible refine wpAny_field hso hdt f1 ?_) | (with_reducible refine wpAny_field hso hdt f2 ?_)
    | (with_reducible refine ks_wpAny_notOpaque hno ?_)
    | (with_reducible refine Looks.at hC ?_; rw [hl])
    | (refine ks_forIn_along X (fun _ _ => rfl) rfl ?_ (H.along K))
    | (with_reducible refine wpAny_typeOf hT ?_)
    | (with_reducible refine wpAny_call_entry H.slot hT H.entry (H.get L ?_) (H.args _ _ _))
    | (with_reducible refine ⟨_, rfl, ?_⟩)
    | (simp only [hn, hne, Bool.or_false, Bool.false_eq_true, if_false])
    | wp_step
    | dsimp only)
  all_goals exact hq
end
end Mine
end
section
open PySem PySem.W PyProof.Rows PySem.Calls
set_option maxRecDepth 100000
namespace Mine
section
variable {prog : Program} {w : World} {A : Around} {E : Value → Shared → Prop} {h : Heap} {g : Array GenState} {d : Drawn} {t : Nat} {os : OsState}
theorem super_method {name : Str} {id bt dt gid : String} {B : Builtin} (H : Handed name id bt dt gid B) {K : Frag} {so x : Addr} {pl : Sem Bool} {Q : Value × List Value → Shared → Prop}
    (hso : h.get? so = some (ks_superObj 157 x 157)) (hno : Looks (model prog w) h (opaqueClassAbove (.ref 157)) none) (hC : Looks (model prog w) h (mroOf (.ref 157)) [.ref 157, .type "list", .type "object"]) (X : K.In h)
    (L : Looks (model prog w) h (isInstance (.ref x) (.type "list")) true) (hxC : x ≠ 157) (hq : Q (.ref h.objs.size, []) ⟨h.push (bObj bt id x), g, d, t + 1, os⟩) :
    wpAny (model prog w) A (getMethod (.ref so) name pl) Q E ⟨h, g, d, t, os⟩ := by
  have hlk := F.ks_slot_super_ga.lookup
  have hcan := F.ks_canon_super_ga
  have hT : ∀ t', (⟨h, g, d, t', os⟩ : Shared).TypeIs (.ref so) "super" := fun _ => ⟨_, hso, rfl⟩
  unfold getMethod
  refine wpAny_bind (wpAny_specialOf (hT _) hlk ?_)
  show wpAny _ _ (if (Manifest.canonical "super.__getattribute__" != "object.__getattribute__") = true then _ else _) _ _ _
  rw [if_pos hcan]
  unfold getAttr getAttrBy
  refine wpAny_bind (wpAny_bind (wpAny_mkText (wpAny_holding (wpAny_bind (wpAny_typeOf (hT _) (wpAny_bind (wpAny_of_eq hlk ?_)))))))
  show wpAny _ _ (getAttrByItsOwn (.ref so) (.str name t) (.type "super") (.builtin "super.__getattribute__") true false) _ _ _
  unfold getAttrByItsOwn hookBefore callGetattribute boundAndCalled
  refine wpAny_bind (wpAny_of_eq (show (if onTheHeap (.type "super") then typeLookup (.type "super") "__getattr__" else pure none) = pure none from rfl) ?_)
  refine wpAny_bind (wpAny_attempt (wpAny_holding ?_))
  show wpAny _ _ (bindSpecial (.builtin "super.__getattribute__") (.ref so) >>= _) _ _ _
  refine wpAny_bind (wpAny_of_eq (F.ks_slot_super_ga.bind _) ?_)
  refine wpAny_mono (Q := fun v s' => v = .ref h.objs.size ∧ s' = ⟨h.push (bObj bt id x), g, d, t + 1, os⟩) (E := fun _ _ => False)
    (wpAny_call_entry F.ks_slot_super_ga (hT _) F.ks_entry_super_ga (super_ga H hso hno hC X L hxC ⟨_, rfl, rfl, rfl⟩) (F.ks_gaArgs_super _ _)) (fun v s' hv => ?_) fun _ _ z => z.elim
  obtain ⟨rfl, rfl⟩ := hv
  exact wpAny_pure (wpAny_pure hq)
theorem bound_call {id bt : String} {B : Builtin} {b x : Addr} {Q : Value → Shared → Prop} (hbt : (bt == "builtin_function_or_method" || bt == "method-wrapper") = true) (hb : h.get? b = some (bObj bt id x)) (hp : plainId id = true) (he : entryFor table id = some B)
    (hc : wpAny (model prog w) A.in1 (checkBoundCall id ⟨[.ref x], []⟩) (fun _ s => wpAny (model prog w) A.in1 (B ⟨[.ref x], []⟩) (fun fin s' => ∃ v, fin = .done (.ret v) ∧ Q v s') E s) E ⟨h, g, d, t, os⟩) :
    wpAny (model prog w) A (call (.ref b) []) Q E ⟨h, g, d, t, os⟩ := by
  refine wpAny_call (codeAny_of_tree ?_)
  show wpAny _ A.in1 (callAny (.ref b) ⟨[], []⟩) _ _ _
  have h1 : (Value.type bt == .type "method" || Value.type bt == .type "builtin_function_or_method" || Value.type bt == .type "method-wrapper") = true := by
    have e1 : ∀ y, (Value.type bt == .type y) = (bt == y) := fun y => by
      by_cases q : bt = y
      · rw [q]; simp
      · rw [beq_eq_false_iff_ne.mpr q, beq_eq_false_iff_ne]
        exact fun e => q (Value.type.inj e)
    rw [e1, e1, e1, Bool.or_assoc, hbt, Bool.or_true]
  have h2 : (Value.type bt != .type "method") = true := by
    rw [bne_iff_ne]
    intro e
    rw [Value.type.inj e] at hbt
    exact absurd hbt (by decide)
  unfold callAny
  refine wpAny_bind (wpAny_load hb ?_)
  dsimp only
  rw [h1, if_pos rfl]
  rw [h2]
  show wpAny _ _ (checkBoundCall id ⟨[.ref x], []⟩ >>= _) _ _ _
  refine wpAny_bind (wpAny_mono hc (fun _ s hs => ?_) fun _ _ z => z)
  refine wpAny_pure ⟨plainId_quiet hp _, codeAny_builtin he ?_⟩
  rw [Around.under_plainId hp]
  refine wpAny_mono hs (fun fin s' z => ?_) fun _ _ z => z
  obtain ⟨v, rfl, z⟩ := z
  exact z
theorem check_pop {x : Addr} {K : Frag} {cd : ClassData} {Q : Unit → Shared → Prop} (X : K.In h) (ht : Looks (model prog w) h (typeOf (.ref x)) (.ref 157)) (hm : Looks (model prog w) h (isInstance (.ref x) (.type "module")) false) (hc : Looks (model prog w) h (classData 157) cd)
    (hy : Looks (model prog w) h (isType (.ref x)) false) (hT : Looks (model prog w) h (typeOf (.ref 157)) (.type "type")) (hn : cd.qualname = "_Accumulator") (hq : Q () ⟨h, g, d, t, os⟩) :
    wpAny (model prog w) A (checkBoundCall "list.pop" ⟨[.ref x], []⟩) Q E ⟨h, g, d, t, os⟩ := by
  have hca : ∀ q : Str, q = "_Accumulator" → Looks (model prog w) h (Bind.checkArgs "list.pop" { machinery := .positional, full := toString q.toString ++ toString "." ++ toString (Bind.lastOf "list.pop"), short := "pop", receiver := .self, params := [{ name := "index", kind := Manifest.ParamKind.posOnly, required := false }] } ⟨[.ref x], []⟩) () := by
    rintro _ rfl
    exact Looks.of_pure (by kernel_rfl)
  replace hca := hca _ hn
  unfold checkBoundCall
  repeat lk
  exact hq
theorem check_len {x : Addr} {Q : Unit → Shared → Prop} (hq : Q () ⟨h, g, d, t, os⟩) :
    wpAny (model prog w) A (checkBoundCall "list.__len__" ⟨[.ref x], []⟩) Q E ⟨h, g, d, t, os⟩ := by
  have e : checkBoundCall "list.__len__" ⟨[.ref x], []⟩ = pure () := by kernel_rfl
  rw [e]; exact wpAny_pure hq
theorem check_init {x : Addr} {Q : Unit → Shared → Prop} (hq : Q () ⟨h, g, d, t, os⟩) :
    wpAny (model prog w) A (checkBoundCall "list.__init__" ⟨[.ref x], []⟩) Q E ⟨h, g, d, t, os⟩ := by
  have e : checkBoundCall "list.__init__" ⟨[.ref x], []⟩ = pure () := by kernel_rfl
  rw [e]; exact wpAny_pure hq
end
end Mine
end
section
open PySem PySem.W PyProof.Rows PySem.Calls
set_option maxRecDepth 100000
namespace Mine
structure RunA {α : Type} (c : Cx) (body : List Stmt) (e : α → α) (t : Sem α) (m : Loc) (N : Led) (K : α → Loc → Led → Prop) : Prop where
  go : ∀ (h : Heap) (tk : Tok) (g : Array GenState) (Q : α → Shared → Prop) (E : Value → Shared → Prop), AllBare g → At c h m N →
    (∀ v h' tk' g' m' N', AllBare g' → At c h' m' N' → K (e v) m' N' → Q v (c.st h' tk' g')) → _root_.PySem.wpAt c.M c.A (.func body c.env) t Q E (c.st h tk g)
section
variable {c : Cx} {body : List Stmt} {m : Loc} {N : Led}
theorem RunA.of {α : Type} {e : α → α} {t : Sem α} {K : α → Loc → Led → Prop} (H : Run c e t m N K) : RunA c body e t m N K := ⟨fun h tk g Q E hg a k => wpAt_of_wpAny (H.go h tk g Q E hg a k)⟩
theorem runA_cons {st : Stmt} {rest : List Stmt} {K : Kf} (H : RunA c body erF (exec st c.env) m N fun f m N => match f with
    | .next => RunA c body erF (execs rest c.env) m N K
    | f => K f m N) : RunA c body erF (execs (st :: rest) c.env) m N K := by
  refine ⟨fun h tk g Q E hg a k => ks_wpAt_execs_cons (H.go h tk g _ E hg a fun f h' tk' g' m' N' hg' a' q => ?_)⟩
  cases f with
  | next => exact q.go h' tk' g' Q E hg' a' k
  | ret v => exact k _ h' tk' g' m' N' hg' a' q
  | brk => exact k _ h' tk' g' m' N' hg' a' q
  | cont => exact k _ h' tk' g' m' N' hg' a' q
theorem runA_step {ns : List (Str × NameKind)} {cl : List (Str × Addr)} (Fc : Fn c ns cl) (n : Nat) {st : Stmt} {rest : List Stmt} {K : Kf}
    (h : vS1 c ns cl (vE c ns cl n) st m N fun f m N => match f with
      | .next => RunA c body erF (execs rest c.env) m N K
      | f => K f m N) : RunA c body erF (execs (st :: rest) c.env) m N K :=
  runA_cons (RunA.of (vS1_sound Fc.G Fc.ns_ Fc.cl_ (vE_sound Fc.G Fc.ns_ Fc.cl_ Fc.plain n) h))
theorem runA_nil {K : Kf} (h : K .next m N) : RunA c body erF (execs [] c.env) m N K := RunA.of (run_nil h)
def supIn (K : Frag) (f cda : Addr) : Bool := (match K.lookup f with
  | some ⟨_, _, .func fd, _⟩ => (match (fd.params.posonlyargs ++ fd.params.args) with
    | ar :: _ => ar.arg == "self"
    | [] => false)
  | _ => false) && (match K.lookup cda with
  | some ⟨_, _, .fields vs, _⟩ => (match vs.toList with
    | _ :: _ :: .str file _ :: _ => (PG.main.file : Str) == file
    | _ => false)
  | _ => false)
theorem cell81_of {w : World} {cl : Value} {cld : Option Addr} {csl : Array (Option Value)} (hk : (Mine.hd.heap_1 w.params).lookup 81 = some ⟨cl, cld, .cell (some (.ref 157)), csl⟩) : ∃ cl cld csl, (Mine.hd.heap_1 w.params).lookup 81 = some ⟨cl, cld, .cell (some (.ref 157)), csl⟩ := ⟨_, _, _, hk⟩
theorem cell81 (w : World) : ∃ cl cld csl, (Mine.hd.heap_1 w.params).lookup 81 = some ⟨cl, cld, .cell (some (.ref 157)), csl⟩ := by
  show (fun (_ : OpenLaw) (_ : Params → Frag) => ∃ cl cld csl, (Mine.hd.heap_1 w.params).lookup 81 = some ⟨cl, cld, .cell (some (.ref 157)), csl⟩) Challenge.rw_re0116_01 Mine.hd.heap_1
  k_fill
  show ∃ cl cld csl, (Mine.hd.heap_1 w.params).lookup 81 = some ⟨cl, cld, .cell (some (.ref 157)), csl⟩
  refine' cell81_of ?hk
  case hk => k_is
theorem acc_cls_of {w : World} {cd : ClassData} (hk : clsIn (Mine.hd.heap_1 w.params) 157 = some cd) (h2 : cd.mro = [.ref 157, .type "list", .type "object"]) (h3 : cd.qualname = "_Accumulator") : ∃ cd, clsIn (Mine.hd.heap_1 w.params) 157 = some cd ∧ cd.mro = [.ref 157, .type "list", .type "object"] ∧ cd.qualname = "_Accumulator" := ⟨_, hk, h2, h3⟩
theorem acc_cls (w : World) : ∃ cd, clsIn (Mine.hd.heap_1 w.params) 157 = some cd ∧ cd.mro = [.ref 157, .type "list", .type "object"] ∧ cd.qualname = "_Accumulator" := by
  show (fun (_ : OpenLaw) (_ : Params → Frag) => ∃ cd, clsIn (Mine.hd.heap_1 w.params) 157 = some cd ∧ cd.mro = [.ref 157, .type "list", .type "object"] ∧ cd.qualname = "_Accumulator") Challenge.rw_re0116_01 Mine.hd.heap_1
  k_fill
  show ∃ cd, clsIn (Mine.hd.heap_1 w.params) 157 = some cd ∧ cd.mro = [.ref 157, .type "list", .type "object"] ∧ cd.qualname = "_Accumulator"
  refine' acc_cls_of ?hk ?h2 ?h3
  case hk => k_is
  case h2 => exact rfl
  case h3 => exact rfl
end
end Mine
end
section
open PySem PySem.W PyProof.Rows PySem.Calls
set_option maxRecDepth 100000
namespace Mine
section
variable {c : Cx} {m : Loc} {N : Led}
theorem ctr_super {w : World} {dp un : Nat} {f : Addr} {args : List Value} {N : Led} {Out : Value → Led → Prop} {name qual : Str} {params : Arguments} {body : List Stmt} {scope : Scope} {dV kV doc pm cdv ct oc : Value} {an od : Option Addr} {osl : Array (Option Value)} {binds : List (Str × Value)}
    (hk : (Mine.hd.heap_1 w.params).lookup f = some ⟨oc, od, .func (ksFn name qual params body scope dV kV doc pm an cdv ct 81), osl⟩)
    (hcd : codeIn (Mine.hd.heap_1 w.params) cdv qual = true) (hkp : keepIn (Mine.hd.heap_1 w.params) (.ref f) = true)
    (hd : dp < 900) (hu : un + 3 ≤ 6000)
    (hb : ∀ (vals : List Value) (s : Shared), vals.map er = args → (Mine.hd.heap_1 w.params).In s.heap → ∃ bs, BindsTo s (ksFn name qual params body scope dV kV doc pm an cdv ct 81) ⟨vals, []⟩ bs ∧ bs.map (fun y => (y.1, er y.2)) = binds)
    (hloc : (binds.all fun x => decide (scope.names.lookup x.1 = some .local)) = true) (hcell : ∀ x ∈ scope.names, x.2 ≠ .cell) (hco : scope.isCoroutine = false) (hgen : scope.isGenerator = false) (hkind : scope.kind = .function)
    (H : ∀ c : Cx, Good c → c.w = w → c.cs = scope → c.a = f → c.ccd = cdv → c.cl = [(("__class__" : Str), (81 : Addr))] → c.dp ≤ dp + 1 → c.un ≤ un + 3 → RunA c body erF (execs body c.env) binds.reverse N (fun fl _ N' => ∃ N2 : Led, Pk N' N2 ∧ Out (fv fl) N2)) : Ctr w dp un (.ref f) args N Out := by
  intro c m G hw hdp hun
  subst hw
  refine ⟨kep_K G (fun v => er_ref) hkp, fun f' vals e1 e2 => ⟨fun h0 tk g Q E hg a k => ?_⟩⟩
  rw [er_ref e1]
  obtain ⟨μ, C, F, l, Nw, d, nd⟩ := a.ex
  obtain ⟨bs, hb1, hb2⟩ := hb vals (c.st h0 tk g) e2 (G.X.keeps F.keep)
  have hloc' : ∀ y ∈ bs, scope.names.lookup y.1 = some .local := fun y hy => locs hloc (y.1, er y.2) (by rw [← hb2]; exact List.mem_map_of_mem (f := fun y : Str × Value => (y.1, er y.2)) hy)
  refine wpAny_call (ks_code_super (s := c.st h0 tk g) G.B F G.X Nw G.T rfl rfl G.k hk hcd (Nat.lt_of_le_of_lt hdp (Nat.lt_trans hd (by decide))) hb1 hloc' (fun g' L' h₁ FG F' N' B' X' T' _ => ?_) hcell hco hgen hkind)
  let c' : Cx := { w := c.w, dp := c.dp + 1, un := c.un + 3, gd := c.gd, cn := qual, cs := scope, L := L', a := f, ccd := cdv, cl := [(("__class__" : Str), (81 : Addr))], outer := c.env :: c.outer, A₀ := c.A, base := c.base, h₀ := g', p := c.p, loose := c.loose, mean := c.mean, mg := c.mg, mb := c.mb, s := c.s }
  have G' : Good c' := ⟨B', X', T', hkind, by show c.dp + 1 ≤ 900; omega, by show c.un + 3 ≤ 6000; omega, G.t44, G.t37, G.t126⟩
  have a' : At c' h₁ binds.reverse N := ⟨_, C, F', fun x => by rw [lookup_er, List.map_reverse, hb2], N', d, nd⟩
  refine (H c' G' rfl rfl rfl rfl rfl (by show c.dp + 1 ≤ dp + 1; omega) (by show c.un + 3 ≤ un + 3; omega)).go h₁ _ g _ _ hg a' fun fl h' tk' g2 m' N1 hg2 a1 ⟨N2, pN, o⟩ => ?_
  obtain ⟨μ2, C2, F2, l2, Nw2, d2, nd2⟩ := (a1.pick pN).ex
  refine leaveK_ F2 Nw2 fun F3 N3 => ?_
  have o' : Out (er (fv fl)) N2 := by cases fl <;> exact o
  have q := k (fv fl) h' tk' g2 m N2 hg2 ⟨μ, C2, F3, l, N3, d2, nd2⟩ ⟨rfl, o'⟩
  cases fl <;> exact q
theorem supIn_open {K : Frag} {f cda : Addr} (h : supIn K f cda = true) : (∃ oc od fd osl ar, K.lookup f = some ⟨oc, od, .func fd, osl⟩ ∧ (fd.params.posonlyargs ++ fd.params.args).head? = some ar ∧ ar.arg = "self") ∧
    ∃ cc cd vs cs file tf, K.lookup cda = some ⟨cc, cd, .fields vs, cs⟩ ∧ vs[2]? = some (.str file tf) ∧ ((PG.main.file : Str) == file) = true := by
  unfold supIn at h
  rw [Bool.and_eq_true] at h
  obtain ⟨h1, h2⟩ := h
  constructor
  · split at h1
    · rename_i oc od fd osl e
      split at h1
      · rename_i ar r e2
        exact ⟨oc, od, fd, osl, ar, e, by rw [e2]; rfl, eq_of_beq h1⟩
      · cases h1
    · cases h1
  · split at h2
    · rename_i cc cd vs cs e
      split at h2
      · rename_i a b file t r e2
        exact ⟨cc, cd, vs, cs, file, t, e, by rw [← Array.getElem?_toList, e2]; rfl, h2⟩
      · cases h2
    · cases h2
theorem acc_super (w : World) : mroIn (Mine.hd.heap_1 w.params) 157 (.ref 157) = some true ∧ nsIn (Mine.hd.heap_1 w.params) mainGlobals "super" = some none ∧ nsIn (Mine.hd.heap_1 w.params) cStatics "thirdparty.any" = some none := ⟨by kernel_rfl, by kernel_rfl, by kernel_rfl⟩
theorem kep_bound {b x : Addr} {bt id : String} (hbt : (bt == "builtin_function_or_method" || bt == "method-wrapper") = true) (hm : (b, isRaw (bObj bt id x)) ∈ N) : Kep c (.ref b) N := fun f' h m e a => by
  rw [er_ref e]
  obtain ⟨o, ho, rfl⟩ := a.get hm
  refine ⟨.machine, .inr (.inl rfl), ?_⟩
  have e1 : ∀ y, (Value.type bt == .type y) = (bt == y) := fun y => by
    by_cases q : bt = y
    · rw [q]; simp
    · rw [beq_eq_false_iff_ne.mpr q, beq_eq_false_iff_ne]
      exact fun e => q (Value.type.inj e)
  intro A Q E s k q
  unfold keeperOf
  refine wpAny_bind (wpAny_load (k _ _ ho) ?_)
  have h2 : (Value.type bt != .type "method") = true := by
    rw [bne_iff_ne]
    intro e
    rw [Value.type.inj e] at hbt
    exact absurd hbt (by decide)
  show wpAny _ _ (if (Value.type bt != .type "method") = true then _ else _) _ _ _
  rw [if_pos h2, e1, e1, hbt]
  exact wpAny_pure q
theorem acc_mro (G : Good c) {h : Heap} (a : At c h m N) : Looks c.M h (mroOf (.ref 157)) [.ref 157, .type "list", .type "object"] := by
  obtain ⟨cd, e1, e2, e3⟩ := acc_cls c.w
  rw [← e2]
  exact (looks_clsIn (at_in G a) e1).andThen .now
theorem acc_ne {h : Heap} {x : Addr} {ox : Obj} {od : Option Obj} (G : Good c) (a : At c h m N) (I : InstAt h x ox 157 od) : x ≠ 157 := by
  obtain ⟨cd, e1, e2, e3⟩ := acc_cls c.w
  exact ks_ne (at_in G a) I e1
theorem method_eqA {o : Expr} {x : Str} {apos pos : PySem.Pos} {env : Env} (hp : (apos.endLine == pos.line) = true) :
    eval (.Call (.Attribute o x apos) [] [] pos) env = (do
      let ov ← attributeBase o x env (eval o env)
      standAt apos.atName
      let (f, first) ← holding [ov] (getMethod ov x (do return (← importBound o env).getD true))
      callWith pos f first (backTo pos (starEach [] env)) []) := by
  show (do
    let ov ← attributeBase o x env (eval o env)
    standAt apos.atName
    methodCall o x apos pos env ov 0 (backTo pos (starEach [] env)) (backToKw pos (keywordEach [] env))) = _
  have hm : methodCallForm 0 (backTo pos (starEach [] env)) (backToKw pos (keywordEach [] env)) = true := rfl
  unfold methodCall
  rw [hm]
  unfold methodCallPos calleeOf
  simp only [hp, Bool.not_true, Bool.false_or, if_true, pure_bind]
  rfl
theorem super_eval (G : Good c) {body : List Stmt} {name : Str} {id bt dt gid : String} {B : Builtin} (H : Handed name id bt dt gid B) (hbt : (bt == "builtin_function_or_method" || bt == "method-wrapper") = true) {cda : Addr} {x dx : Addr} {vs : List Value} {d : AO} {p0 p1 apos pos : PySem.Pos} {K : Kv}
    (hcl : c.cl = [(("__class__" : Str), (81 : Addr))]) (hccd : c.ccd = .ref cda) (hs : supIn (HP c) c.a cda = true) (hks : c.cs.names.lookup ("super" : Str) = some .globalImplicit) (hkc : c.cs.names.lookup ("__class__" : Str) = some .free) (hka : c.cs.names.lookup ("self" : Str) = some .local)
    (hself : m.lookup ("self" : Str) = some (.ref x)) (hm : (x, isAcc dx vs) ∈ N) (hd : (dx, d) ∈ N) (hp : (apos.endLine == pos.line) = true)
    (k : ∀ b so, CalW c (.ref b) [] m ((b, isRaw (bObj bt id x)) :: (so, isRaw (ks_superObj 157 x 157)) :: N) K) :
    RunA c body er (eval (.Call (.Attribute (.Call (.Name "super" p0) [] [] p1) name apos) [] [] pos) c.env) m N K := by
  refine ⟨fun h0 tk g Q E hg a kk => ?_⟩
  obtain ⟨μ, C, F, l, Nw, dn, nd⟩ := a.ex
  obtain ⟨cs, ep, od, I, e, hdd, hod⟩ := acc_inst a hm hd
  obtain ⟨⟨oc, od1, fd, osl, ar, q1, q2, q3⟩, cc, cd, fvs, csl, file, tf, q4, q5, q6⟩ := supIn_open hs
  obtain ⟨ccl, ccld, ccsl, q7⟩ := cell81 c.w
  obtain ⟨cdD, q8, q9, q10⟩ := acc_cls c.w
  obtain ⟨q11, q12, q13⟩ := acc_super c.w
  obtain ⟨v', hv, ev⟩ := look_local l hself
  rw [er_ref ev] at hv
  have he : c.env = ksEnv c.cn c.cs c.L c.a (.ref cda) 81 := by show envX _ _ _ _ _ _ = envX _ _ _ _ _ _; rw [hcl, hccd]
  refine ks_wpAt_MethodCall ?_ (method_eqA hp)
  rw [he]
  refine ks_node (s := c.st h0 tk g) (ox := { cls := .ref 157, dict := some dx, data := .seq cs.toArray ep, slots := #[] }) (odx := some od) F G.X Nw G.T q1 q2 (by rw [q3]; exact hv) I q4 q5 q6 q7 q8 q11 q12 H.nm hks hkc (by rw [q3]; exact hka) G.k (by kernel_rfl) (by first | rfl | boot_by_name) fun so h1 F1 N1 lt => ?_
  have a1 : At c h1 m ((so, isRaw (ks_superObj 157 x 157)) :: N) := by
    refine ⟨μ, (so, _) :: C, F1, l, N1, ⟨rfl, rfl, dn⟩, ?_⟩
    rw [List.map_cons, List.nodup_cons]
    refine ⟨fun hm => ?_, nd⟩
    obtain ⟨q, hq, e⟩ := List.mem_map.mp hm
    exact absurd (lt q hq) (by rw [show q.1 = _ from e]; exact Nat.lt_irrefl _)
  obtain ⟨cs1, ep1, od1, I1, e1, hdd1, hod1⟩ := acc_inst a1 (.tail _ hm) (.tail _ hd)
  obtain ⟨oso, hso, eso⟩ := a1.get (.head _)
  have X1 := at_in G a1
  refine super_method (K := HP c) (h := h1) (g := g) (d := c.s.drawn) (t := tk) (os := c.s.os) H (hso.trans (congrArg some eso)) (looks_opaque X1 q13) (acc_mro G a1) X1 (I1.type.andThen (looks_mroIn X1 (acc_list c.w))) (acc_ne G a1 I1) ?_
  have a2 := a1.push (o := bObj bt id x) (P := isRaw (bObj bt id x)) rfl
  have r : Run c er (callWith pos (.ref h1.objs.size) [] (backTo pos (starEach [] c.env)) []) m ((h1.objs.size, isRaw (bObj bt id x)) :: (so, isRaw (ks_superObj 157 x 157)) :: N) K :=
    callW_sound (F := fun _ _ _ _ => False) (fun _ _ _ _ h => h.elim) rfl (f0 := .ref h1.objs.size) (first0 := []) rfl rfl (k _ so)
  rw [he] at r
  exact r.go _ (tk + 1) g Q E hg a2 kk
end
end Mine
end
section
open PySem PySem.W PyProof.Rows PySem.Calls
set_option maxRecDepth 100000
namespace Mine
section
variable {c : Cx} {m : Loc} {N : Led} {K : Kv}
theorem cal_len_acc {b x dx : Addr} {vs : List Value} (hb : (b, isRaw (bObj "method-wrapper" "list.__len__" x)) ∈ N) (hm : (x, isAcc dx vs) ∈ N) (hl : vs.length ≤ 1000) (h : K (.int vs.length 0) m N) : CalW c (.ref b) [] m N K := ⟨kep_bound (by decide) hb, fun f' as e1 e2 => by
  obtain rfl := List.map_eq_nil_iff.mp e2
  rw [er_ref e1]
  refine ⟨fun h0 tk g Q E hg a k => ?_⟩
  obtain ⟨ob, hob, rfl⟩ := a.get hb
  obtain ⟨o, ho, cs, ep, rfl, rfl⟩ := a.get hm
  rw [List.length_map] at h hl
  refine bound_call (h := h0) (g := g) (d := c.s.drawn) (t := tk) (os := c.s.os) (by decide) hob (by decide +kernel) (entryFor_of_tree (b := Builtin.«list.__len__») (by kernel_rfl)) (check_len ?_)
  unfold Builtin.«list.__len__»
  have fin := k (.int cs.length tk) h0 (tk + 1) g m N hg a h
  wp_walk
  exact ⟨_, rfl, fin⟩⟩
theorem cal_init_acc {b x dx : Addr} {vs : List Value} {g : AO → Led} (hb : (b, isRaw (bObj "method-wrapper" "list.__init__" x)) ∈ N) (hp : Pos x (isAcc dx vs) N g) (hl : vs.length ≤ 1000) (h : K .none m (g (isAcc dx []))) : CalW c (.ref b) [] m N K := ⟨kep_bound (by decide) hb, fun f' as e1 e2 => by
  obtain rfl := List.map_eq_nil_iff.mp e2
  rw [er_ref e1]
  refine ⟨fun h0 tk gg Q E hg a k => ?_⟩
  obtain ⟨ob, hob, rfl⟩ := a.get hb
  obtain ⟨o, ho, cs, ep, rfl, rfl⟩ := a.get hp.mem
  rw [List.length_map] at hl
  refine bound_call (h := h0) (g := gg) (d := c.s.drawn) (t := tk) (os := c.s.os) (by decide) hob (by decide +kernel) (entryFor_of_tree (b := Builtin.«list.__init__») (by kernel_rfl)) (check_init ?_)
  have fin := k .none _ tk gg m _ hg (upd_acc (f := fun _ => #[]) (ws := []) a hp ho rfl) h
  have hz : cs.toArray.size ≤ sizeLine := by rw [List.size_toArray, sizeLine_eq]; omega
  have hz' : (#[] : Array Value).size ≤ sizeLine + 1 := Nat.zero_le _
  unfold Builtin.«list.__init__»
  wp_walk using (wpAny_updateSeq ho rfl (hz := hz) (_hz' := hz'))
  all_goals exact ⟨_, rfl, fin⟩⟩
theorem erase_last : ∀ (ws : List Value) (u : Value), (ws ++ [u]).eraseIdx ws.length = ws
  | [], _ => rfl
  | a :: ws, u => congrArg (a :: ·) (erase_last ws u)
theorem erase_lastA (ws : List Value) (u : Value) : ((ws ++ [u]).toArray.eraseIdxIfInBounds ws.length).toList = ws := by
  rw [Array.toList_eraseIdxIfInBounds]
  exact erase_last ws u
theorem index_last (ws : List Value) (u : Value) : seqIndex? (-1) (ws ++ [u]).toArray.size = some ws.length := by
  unfold seqIndex?
  rw [List.size_toArray, List.length_append]
  have e0 : (if (-1 : Int) < 0 then (-1 : Int) + ((ws.length + [u].length : Nat) : Int) else -1) = (ws.length : Int) := by
    rw [if_pos (by decide)]
    show (-1 : Int) + ((ws.length + 1 : Nat) : Int) = _
    omega
  rw [e0, if_pos (by rw [Bool.and_eq_true, decide_eq_true_eq, decide_eq_true_eq]; exact ⟨by omega, by show (ws.length : Int) < ((ws.length + 1 : Nat) : Int); omega⟩)]
  rfl
theorem pick_last (ws : List Value) (u : Value) : ((seqIndex? (-1) (ws ++ [u]).toArray.size).bind fun k => (ws ++ [u]).toArray[k]?.map (k, ·)) = some (ws.length, u) := by
  rw [index_last, Option.bind_some, List.getElem?_toArray, List.getElem?_append_right (Nat.le_refl _), Nat.sub_self]
  rfl
theorem acc_nomod (w : World) : mroIn (Mine.hd.heap_1 w.params) 157 (.type "module") = some false := by kernel_rfl
theorem acc_typ (w : World) : typeIn (Mine.hd.heap_1 w.params) (.ref 157) = some (.type "type") := by kernel_rfl
theorem cal_pop_acc (G : Good c) {b x dx : Addr} {vs : List Value} {v : Value} {d : AO} {g : AO → Led} (hb : (b, isRaw (bObj "builtin_function_or_method" "list.pop" x)) ∈ N) (hp : Pos x (isAcc dx (vs ++ [v])) N g) (hd : (dx, d) ∈ N) (hl : vs.length ≤ 1000) (h : K v m (g (isAcc dx vs))) : CalW c (.ref b) [] m N K := ⟨kep_bound (by decide) hb, fun f' as e1 e2 => by
  obtain rfl := List.map_eq_nil_iff.mp e2
  rw [er_ref e1]
  refine ⟨fun h0 tk gg Q E hg a k => ?_⟩
  obtain ⟨ob, hob, rfl⟩ := a.get hb
  obtain ⟨cs, ep, od, I, e, hdd, hod⟩ := acc_inst a hp.mem hd
  have ho := I.at_
  have X := at_in G a
  obtain ⟨cd, c1, c2, c3⟩ := acc_cls c.w
  obtain ⟨ws, us, rfl, ew, eu⟩ := List.map_eq_append_iff.mp e
  obtain ⟨u, rfl, eu2⟩ := map_one eu
  subst ew
  rw [List.length_map] at hl
  have L1 : Looks c.M h0 (typeOf (.ref x)) (.ref 157) := I.type
  have L2 : Looks c.M h0 (isInstance (.ref x) (.type "module")) false := L1.andThen (looks_mroIn X (acc_nomod c.w))
  have L3 : Looks c.M h0 (isType (.ref x)) false := (Looks.ld ho).andThen .now
  have L4 : Looks c.M h0 (typeOf (.ref 157)) (.type "type") := looks_typeIn X (acc_typ c.w)
  refine bound_call (h := h0) (g := gg) (d := c.s.drawn) (t := tk) (os := c.s.os) (by decide) hob (by decide +kernel) PySem.F.entry_list_pop (check_pop X L1 L2 (looks_clsIn X c1) L3 L4 c3 ?_)
  have hz : (ws ++ [u]).toArray.size ≤ sizeLine := by rw [List.size_toArray, sizeLine_eq, List.length_append]; show ws.length + 1 ≤ _; omega
  have hz' : ((ws ++ [u]).toArray.eraseIdxIfInBounds ws.length).size ≤ sizeLine + 1 := by
    rw [← Array.length_toList, erase_lastA, sizeLine_eq]
    omega
  have fin := k u _ tk gg m _ hg (upd_acc (f := fun xs => xs.eraseIdxIfInBounds ws.length) (ws := ws.map er) a hp ho (by rw [erase_lastA])) (by rw [eu2]; exact h)
  have e1 : ((ws ++ [u]).toArray.isEmpty) = false := by
    rw [List.isEmpty_toArray]
    cases ws <;> rfl
  have e2 := pick_last ws u
  unfold Builtin.«list.pop»
  wp_walk using (wpAny_updateSeq ho rfl (hz := hz) (_hz' := hz'))
  rw [e2]
  wp_walk using (wpAny_updateSeq ho rfl (hz := hz) (_hz' := hz'))
  exact ⟨_, rfl, fin⟩⟩
end
theorem runA_ret {c : Cx} {body : List Stmt} {m : Loc} {N : Led} {e : Expr} {p : PySem.Pos} {K : Kf} (H : RunA c body er (eval e c.env) m N fun v m N => K (.ret v) m N) : RunA c body erF (exec (.Return (some e) p) c.env) m N K :=
  ⟨fun h tk g Q E hg a k => ks_wpAt_Return_some (H.go h tk g _ E hg a fun v h' tk' g' m' N' hg' a' q => k (.ret v) h' tk' g' m' N' hg' a' q)⟩
theorem runA_expr {c : Cx} (G : Good c) {body : List Stmt} {m : Loc} {N : Led} {e : Expr} {p : PySem.Pos} {K : Kf} (hc : notComp e = true) (H : RunA c body er (eval e c.env) m N fun _ m N => K .next m N) : RunA c body erF (exec (.Expr e p) c.env) m N K :=
  ⟨fun h tk g Q E hg a k => ks_wpAt_Expr_any (H.go h tk g _ E hg a fun v h' tk' g' m' N' hg' a' q => k .next h' tk' g' m' N' hg' a' q) (by unfold interactive; rw [show c.env.scope.kind = .function from G.k]; rfl) (swaps_none hc _ _ _)⟩
theorem sup_methods (w : World) : supIn (Mine.hd.heap_1 w.params) 154 153 = true ∧ supIn (Mine.hd.heap_1 w.params) 117 116 = true ∧ supIn (Mine.hd.heap_1 w.params) 94 93 = true := ⟨by kernel_rfl, by kernel_rfl, by kernel_rfl⟩
theorem pc_ctr (w : World) (x dx : Addr) (es : List Ent) (N : Led) (hl : es.length ≤ 500) : Ctr w 700 4000 (.ref 154) [.ref x] (rowL x dx es ++ N) (fun v N' => v = .int es.length 0 ∧ N' = rowL x dx es ++ N) := by
  show (fun (_ : OpenLaw) (_ : Params → Frag) => Ctr w 700 4000 (.ref 154) [.ref x] (rowL x dx es ++ N) (fun v N' => v = .int es.length 0 ∧ N' = rowL x dx es ++ N)) Challenge.rw_re0116_01 Mine.hd.heap_1
  k_fill
  show Ctr w 700 4000 (.ref 154) [.ref x] (rowL x dx es ++ N) (fun v N' => v = .int es.length 0 ∧ N' = rowL x dx es ++ N)
  k_dflt (refine' ctr_super (binds := [("self", .ref x)]) ?hk ?hcd ?hkp ?hd ?hu ?hb ?hloc ?hcell ?hco ?hgen ?hkind ?H)
  case hk => k_is
  case hcd => k_is
  case hkp => k_is
  case hd => decide
  case hu => decide
  case hb =>
    intro vals s e _
    obtain ⟨v, rfl, h1⟩ := map_one e
    exact ⟨[("self", v)], BindsTo.of_eq rfl, by rw [← h1]; rfl⟩
  case hloc => exact rfl
  case hcell => decide
  case hco => exact rfl
  case hgen => exact rfl
  case hkind => exact rfl
  case H =>
    intro c G hw hcs hca hccd hcl hdp hun
    have el : (entV es).length = es.length := by unfold entV; rw [List.length_map]
    refine runA_cons (runA_ret (super_eval G handed_len (by decide) hcl hccd (by rw [hca]; exact (sup_methods c.w).1) (by rw [hcs]; rfl) (by rw [hcs]; rfl) (by rw [hcs]; rfl) rfl (.head _) (.tail _ (.head _)) rfl ?_))
    intro b so
    refine cal_len_acc (.head _) (.tail _ (.tail _ (.head _))) (by rw [el]; omega) ?_
    exact ⟨_, .drop (.drop .all), by rw [el]; rfl, rfl⟩
theorem pop_ctr (w : World) (x dx : Addr) (es : List Ent) (e : Ent) (N : Led) (hl : es.length < 500) : Ctr w 690 3900 (.ref 117) [.ref x] (rowL x dx (es ++ [e]) ++ N) (fun v N' => v = .ref e.1 ∧ N' = rowL x dx es ++ ((e.1, isT [e.2.1, e.2.2]) :: N)) := by
  show (fun (_ : OpenLaw) (_ : Params → Frag) => Ctr w 690 3900 (.ref 117) [.ref x] (rowL x dx (es ++ [e]) ++ N) (fun v N' => v = .ref e.1 ∧ N' = rowL x dx es ++ ((e.1, isT [e.2.1, e.2.2]) :: N))) Challenge.rw_re0116_01 Mine.hd.heap_1
  k_fill
  show Ctr w 690 3900 (.ref 117) [.ref x] (rowL x dx (es ++ [e]) ++ N) (fun v N' => v = .ref e.1 ∧ N' = rowL x dx es ++ ((e.1, isT [e.2.1, e.2.2]) :: N))
  k_dflt (refine' ctr_super (binds := [("self", .ref x)]) ?hk ?hcd ?hkp ?hd ?hu ?hb ?hloc ?hcell ?hco ?hgen ?hkind ?H)
  case hk => k_is
  case hcd => k_is
  case hkp => k_is
  case hd => decide
  case hu => decide
  case hb =>
    intro vals s e _
    obtain ⟨v, rfl, h1⟩ := map_one e
    exact ⟨[("self", v)], BindsTo.of_eq rfl, by rw [← h1]; rfl⟩
  case hloc => exact rfl
  case hcell => decide
  case hco => exact rfl
  case hgen => exact rfl
  case hkind => exact rfl
  case H =>
    intro c G hw hcs hca hccd hcl hdp hun
    have Fc : Fn c _ [(("__class__" : Str), (81 : Addr))] := ⟨G, congrArg Scope.names hcs, hcl, by decide +kernel⟩
    have el : entV (es ++ [e]) = entV es ++ [.ref e.1] := by unfold entV; rw [List.map_append]; rfl
    have ll : (entV es).length = es.length := by unfold entV; rw [List.length_map]
    refine runA_step Fc 9 ?_
    refine And.intro rfl ?_
    refine And.intro rfl ?_
    refine get_accF G (.head _) (.tail _ (.head _)) (by decide) (.tail _ (.tail _ (.tail _ (.head _)))) ?_
    refine (pc_ctr c.w x dx (es ++ [e]) N (by rw [List.length_append]; show es.length + 1 ≤ 500; omega)).use G rfl (by omega) (by omega) ?_
    rintro v N' ⟨rfl, rfl⟩
    refine cmp_eq ?_
    refine tru_bool ?_
    refine iteF (by rw [List.length_append]; show (((es.length + 1 : Nat) : Int) == 0) = false; rw [beq_eq_false_iff_ne]; omega) (run_nil ?_)
    refine runA_cons (runA_ret (super_eval G handed_pop (by decide) hcl hccd (by rw [hca]; exact (sup_methods c.w).2.1) (by rw [hcs]; rfl) (by rw [hcs]; rfl) (by rw [hcs]; rfl) rfl (.head _) (.tail _ (.head _)) rfl ?_))
    intro b so
    rw [show rowL x dx (es ++ [e]) = (x, isAcc dx (entV es ++ [.ref e.1])) :: (dx, isIni) :: entL (es ++ [e]) by unfold rowL; rw [el]]
    refine cal_pop_acc G (.head _) (Pos.tail (Pos.tail Pos.head)) (.tail _ (.tail _ (.tail _ (.head _)))) (by rw [ll]; omega) ?_
    refine ⟨_, .drop (.drop (.perm ?_)), rfl, rfl⟩
    unfold rowL entL
    rw [List.map_append]
    refine List.Perm.cons _ (List.Perm.cons _ ?_)
    exact .of_eq (by simp only [List.append_eq, List.append_assoc]; rfl)
end Mine
end
section
open PySem PySem.W PyProof.Rows PySem.Calls
open Builtin Builtin.ObjectAttr
set_option maxRecDepth 100000
namespace Mine
theorem refuse_list (self : Value) : refuseLoop self "__setattr__" [.ref 157, .type "list", .type "object"] = pure () := by
  rw [refuseLoop_ref]
  kernel_rfl
theorem acc_noini (w : World) : findIn (Mine.hd.heap_1 w.params) (.ref 157) "_initial_size" = some none := by kernel_rfl
theorem acc_obj (w : World) : mroIn (Mine.hd.heap_1 w.params) 157 (.type "object") = some true := by kernel_rfl
theorem acc_dict_of {w : World} {cd : ClassData} (hk : clsIn (Mine.hd.heap_1 w.params) 157 = some cd) (h2 : cd.mro = [.ref 157, .type "list", .type "object"]) (h3 : cd.hasDict = true) (h4 : cd.hasDel = false) (h5 : cd.abstract = false) : ∃ cd, clsIn (Mine.hd.heap_1 w.params) 157 = some cd ∧ cd.mro = [.ref 157, .type "list", .type "object"] ∧ cd.hasDict = true ∧ cd.hasDel = false ∧ cd.abstract = false := ⟨_, hk, h2, h3, h4, h5⟩
theorem acc_dict (w : World) : ∃ cd, clsIn (Mine.hd.heap_1 w.params) 157 = some cd ∧ cd.mro = [.ref 157, .type "list", .type "object"] ∧ cd.hasDict = true ∧ cd.hasDel = false ∧ cd.abstract = false := by
  show (fun (_ : OpenLaw) (_ : Params → Frag) => ∃ cd, clsIn (Mine.hd.heap_1 w.params) 157 = some cd ∧ cd.mro = [.ref 157, .type "list", .type "object"] ∧ cd.hasDict = true ∧ cd.hasDel = false ∧ cd.abstract = false) Challenge.rw_re0116_01 Mine.hd.heap_1
  k_fill
  show ∃ cd, clsIn (Mine.hd.heap_1 w.params) 157 = some cd ∧ cd.mro = [.ref 157, .type "list", .type "object"] ∧ cd.hasDict = true ∧ cd.hasDel = false ∧ cd.abstract = false
  refine' acc_dict_of ?hk ?h2 ?h3 ?h4 ?h5
  case hk => k_is
  case h2 => exact rfl
  case h3 => exact rfl
  case h4 => exact rfl
  case h5 => exact rfl
theorem put_ini {h : Int} {t : Tok} {v : Value} : Obj.putName "_initial_size" h (.str "_initial_size" t) v emptyDict = iniObj h t v := by kernel_rfl
section
variable {c : Cx} {m : Loc} {N : Led} {K : Kv}
theorem set_ini (G : Good c) {x dx : Addr} {vs : List Value} {v : Value} {A : Around} {h0 : Heap} {tk : Tok} {g : Array GenState} {Q : Unit → Shared → Prop} {E : Value → Shared → Prop} {gl : AO → Led} (a : At c h0 m N) (hm : (x, isAcc dx vs) ∈ N) (hp : Pos dx (isRaw emptyDict) N gl)
    (h : ∀ h' tk', At c h' m (gl isIni) → Q () (c.st h' tk' g)) : wpAny c.M A (setAttr (.ref x) "_initial_size" v) Q E (c.st h0 tk g) := by
  obtain ⟨cs, ep, od, I, e, rfl, hod⟩ := acc_inst a hm hp.mem
  have X := at_in G a
  obtain ⟨cd, q1, q2, q3, q4, q5⟩ := acc_dict c.w
  refine set_plain (K := HP c) (s := c.st h0 tk g) X I (acc_findB c.w (("__setattr__" : Str), "object.__setattr__") (by decide)) ?_
  have SF := PySem.F.store_object
  have L1 : Looks c.M h0 (typeOf (.ref x)) (.ref 157) := I.type
  have L2 : Looks c.M h0 (isInstance (.ref x) (.type "object")) true := L1.andThen (looks_mroIn X (acc_obj c.w))
  have L3 : Looks c.M h0 (mroOf (.ref 157)) [.ref 157, .type "list", .type "object"] := q2 ▸ (looks_clsIn X q1).andThen .now
  have L4 : Looks c.M h0 (typeLookup (.ref 157) "_initial_size") none := looks_findIn X (acc_noini c.w)
  have L5 : Looks c.M h0 (classData 157) cd := looks_clsIn X q1
  refine codeAny_call_builtin SF.slot.plain SF.entry (@check_slot c.M _ _ (c.st h0 (tk + 1) g) "object.__setattr__" "object" "__setattr__" (.ref x) [.str "_initial_size" tk, v] [] _ SF.kind SF.split L2 (SF.args (.ref x) (.str "_initial_size" tk) v) ?_)
  rw [osa_eq, refuse_eq]
  refine wpAny_bind (wpAny_bind (Looks.at L1 (wpAny_bind (Looks.at L3 ?_))))
  rw [refuse_list]
  refine wpAny_pure (wpAny_bind (Looks.at L1 (wpAny_bind (Looks.at L4 (wpAny_bind (wpAny_pure ?_))))))
  have hx := I.at_
  show wpAny _ _ (storeInOwnDict (.ref x) (.ref 157) (.str "_initial_size" tk) "_initial_size" v false) _ _ _
  unfold storeInOwnDict
  repeat lk
  rw [q3]
  refine wpAny_pure (a := some dx) ?_
  show wpAny _ _ (storeInDict dx (.str "_initial_size" tk) "_initial_size" v) _ _ _
  unfold storeInDict
  repeat lk
  refine wpAny_updatePart hod ?_
  have D' := Heap.get?_update_self (Obj.putName "_initial_size" (if ("_initial_size" : Str).cps.isEmpty = true then 0 else reduceHash (c.w.params.strHash ("_initial_size" : Str).cps)) (.str "_initial_size" (tk + 1)) v) hod rfl
  rw [put_ini] at D'
  refine wpAny_bind (wpAny_lookBehind D' rfl ?_)
  refine wpAny_pure ?_
  exact h _ (tk + 1 + 1) (a.upd hp (fun o _ _ => ⟨_, D', _, _, _, rfl⟩) fun b o hb e => Heap.get?_update_of_ne _ (Ne.symm hb) e)
end
theorem runA_ini {c : Cx} (G : Good c) {body : List Stmt} {ns : List (Str × NameKind)} {cl : List (Str × Addr)} (Fc : Fn c ns cl) {m : Loc} {N : Led} {x dx : Addr} {vs : List Value} {v : Value} {p1 p2 p3 p4 : PySem.Pos} {gl : AO → Led} {K : Kf} (h1 : ns.lookup ("initial_size" : Str) = some .local) (h2 : ns.lookup ("self" : Str) = some .local)
    (m1 : m.lookup ("initial_size" : Str) = some v) (m2 : m.lookup ("self" : Str) = some (.ref x)) (hm : (x, isAcc dx vs) ∈ N) (hp : Pos dx (isRaw emptyDict) N gl) (h : K .next m (gl isIni)) :
    RunA c body erF (exec (.Assign [.Attribute (.Name "self" p1) "_initial_size" p2] (.Name "initial_size" p3) p4) c.env) m N K := by
  have hname : ∀ {y : Str} {v : Value} {p : PySem.Pos} {K : Kv}, ns.lookup y = some .local → m.lookup y = some v → K v m N → Run c er (eval (.Name y p) c.env) m N K := fun {y v p K} e1 e2 hk => by
    refine vName_sound Fc.G Fc.ns_ Fc.cl_ ?_ (plain_of Fc.plain e1).1 (plain_of Fc.plain e1).2
    unfold vName
    rw [e1, e2]
    exact hk
  refine ⟨fun h0 tk g Q E hg a k => ks_wpAt_Assign_Attr (wpAt_of_wpAny ?_)⟩
  refine (hname (K := fun u m1 N1 => m1 = m ∧ N1 = N) h1 m1 ⟨rfl, rfl⟩).go h0 tk g _ E hg a fun u h1 tk1 g1 m3 N1 hg1 a1 q => ?_
  obtain ⟨rfl, rfl⟩ := q
  refine (hname (K := fun u m1 N2 => u = .ref x ∧ m1 = m3 ∧ N2 = N1) h2 m2 ⟨rfl, rfl, rfl⟩).go h1 tk1 g1 _ E hg1 a1 fun u2 h2 tk2 g2 m4 N2 hg2 a2 q => ?_
  obtain ⟨e2, rfl, rfl⟩ := q
  rw [er_ref e2]
  exact set_ini G a2 hm hp fun h' tk' a' => k .next h' tk' g2 _ _ hg2 a' h
theorem init_ctr (w : World) (x dx : Addr) (N : Led) : Ctr w 690 3900 (.ref 94) [.ref x] ((x, isAcc dx []) :: (dx, isRaw emptyDict) :: N) (fun v N' => v = .none ∧ N' = rowL x dx [] ++ N) := by
  show (fun (_ : OpenLaw) (_ : Params → Frag) => Ctr w 690 3900 (.ref 94) [.ref x] ((x, isAcc dx []) :: (dx, isRaw emptyDict) :: N) (fun v N' => v = .none ∧ N' = rowL x dx [] ++ N)) Challenge.rw_re0116_01 Mine.hd.heap_1
  k_fill
  show Ctr w 690 3900 (.ref 94) [.ref x] ((x, isAcc dx []) :: (dx, isRaw emptyDict) :: N) (fun v N' => v = .none ∧ N' = rowL x dx [] ++ N)
  k_dflt (refine' ctr_super (binds := [("self", .ref x), ("initial_size", .int 0 0)]) ?hk ?hcd ?hkp ?hd ?hu ?hb ?hloc ?hcell ?hco ?hgen ?hkind ?H)
  case hk => k_is
  case hcd => k_is
  case hkp => k_is
  case hd => decide
  case hu => decide
  case hb =>
    intro vals s e X
    obtain ⟨v, rfl, h1⟩ := map_one e
    exact ⟨[("self", v), ("initial_size", .int 0 _)], binds_K X rfl (by k_is) rfl rfl rfl, by rw [← h1]; rfl⟩
  case hloc => exact rfl
  case hcell => decide
  case hco => exact rfl
  case hgen => exact rfl
  case hkind => exact rfl
  case H =>
    intro c G hw hcs hca hccd hcl hdp hun
    have Fc : Fn c _ [(("__class__" : Str), (81 : Addr))] := ⟨G, congrArg Scope.names hcs, hcl, by decide +kernel⟩
    refine runA_cons (runA_ini G Fc rfl rfl rfl rfl (.head _) (Pos.tail Pos.head) ?_)
    refine runA_cons (runA_expr G rfl (super_eval G handed_init (by decide) hcl hccd (by rw [hca]; exact (sup_methods c.w).2.2) (by rw [hcs]; rfl) (by rw [hcs]; rfl) (by rw [hcs]; rfl) rfl (.head _) (.tail _ (.head _)) rfl ?_))
    intro b so
    refine cal_init_acc (.head _) (Pos.tail (Pos.tail Pos.head)) (by decide) ?_
    exact runA_nil ⟨_, .drop (.drop .all), rfl, rfl⟩
end Mine
end
section
open PySem PySem.W PyProof.Rows PySem.Calls
set_option maxRecDepth 100000
namespace Mine
abbrev accObj (dx : Addr) : Obj := { cls := .ref 157, dict := some dx, data := .seq #[], slots := #[] }
theorem acc_slot_of {w : World} {oc : Value} {od : Option Addr} {cd : ClassData} {sl : Array (Option Value)} (hk : (Mine.hd.heap_1 w.params).lookup 157 = some ⟨oc, od, .cls cd, sl⟩) (h2 : sl[4]?.join = some (.builtin "list.__new__")) (h3 : cd.mro = [.ref 157, .type "list", .type "object"]) (h4 : cd.hasDel = false) (h5 : cd.abstract = false) :
    ∃ oc od cd sl, (Mine.hd.heap_1 w.params).lookup 157 = some ⟨oc, od, .cls cd, sl⟩ ∧ sl[4]?.join = some (.builtin "list.__new__") ∧ cd.mro = [.ref 157, .type "list", .type "object"] ∧ cd.hasDel = false ∧ cd.abstract = false := ⟨_, _, _, _, hk, h2, h3, h4, h5⟩
theorem acc_slot (w : World) : ∃ oc od cd sl, (Mine.hd.heap_1 w.params).lookup 157 = some ⟨oc, od, .cls cd, sl⟩ ∧ sl[4]?.join = some (.builtin "list.__new__") ∧ cd.mro = [.ref 157, .type "list", .type "object"] ∧ cd.hasDel = false ∧ cd.abstract = false := by
  show (fun (_ : OpenLaw) (_ : Params → Frag) => ∃ oc od cd sl, (Mine.hd.heap_1 w.params).lookup 157 = some ⟨oc, od, .cls cd, sl⟩ ∧ sl[4]?.join = some (.builtin "list.__new__") ∧ cd.mro = [.ref 157, .type "list", .type "object"] ∧ cd.hasDel = false ∧ cd.abstract = false) Challenge.rw_re0116_01 Mine.hd.heap_1
  k_fill
  show ∃ oc od cd sl, (Mine.hd.heap_1 w.params).lookup 157 = some ⟨oc, od, .cls cd, sl⟩ ∧ sl[4]?.join = some (.builtin "list.__new__") ∧ cd.mro = [.ref 157, .type "list", .type "object"] ∧ cd.hasDel = false ∧ cd.abstract = false
  refine' acc_slot_of ?hk ?h2 ?h3 ?h4 ?h5
  case hk => k_is
  case h2 => exact rfl
  case h3 => exact rfl
  case h4 => exact rfl
  case h5 => exact rfl
theorem acc_typs (w : World) : specialIn (Mine.hd.heap_1 w.params) (.ref 157) "__call__" = some (some (.builtin "type.__call__")) ∧ instIn (Mine.hd.heap_1 w.params) (.ref 157) (.type "type") = some true ∧ keepIn (Mine.hd.heap_1 w.params) (.ref 157) = true := ⟨by kernel_rfl, by kernel_rfl, by kernel_rfl⟩
structure AccMade (M : Model) (h : Heap) : Prop where
  obj : ∃ oc od cd sl, h.get? 157 = some ⟨oc, od, .cls cd, sl⟩ ∧ cd.mro = [.ref 157, .type "list", .type "object"] ∧ cd.hasDel = false ∧ cd.abstract = false
  made : Looks M h (Bind.madeBy (.ref 157)) (some "list.__new__")
  base : Looks M h (Bind.staticBase (.ref 157)) (.ref 157)
  self : Looks M h (isSubtype (.ref 157) (.ref 157)) true
  top : Looks M h (isSubtype (.ref 157) (.type "list")) true
  call : Looks M h (specialOf (.ref 157) "__call__") (some (.builtin "type.__call__"))
  typ : Looks M h (isInstance (.ref 157) (.type "type")) true
  mro : Looks M h (mroOf (.ref 157)) [.ref 157, .type "list", .type "object"]
  init : Looks M h (typeLookup (.ref 157) "__init__") (some (.ref 94))
  fn : Looks M h (typeOf (.ref 94)) (.type "function")
theorem acc_made {w : World} {M : Model} {h : Heap} (X : (Mine.hd.heap_1 w.params).In h) : AccMade M h := by
  obtain ⟨oc, od, cd, sl, e1, e2, e3, e4, e5⟩ := acc_slot w
  obtain ⟨t1, t2, t3⟩ := acc_typs w
  have hc : clsIn (Mine.hd.heap_1 w.params) 157 = some cd := by unfold clsIn; rw [e1]
  have hm : Looks M h (mroOf (.ref 157)) [.ref 157, .type "list", .type "object"] := e3 ▸ (looks_clsIn X hc).andThen .now
  have made : Looks M h (Bind.madeBy (.ref 157)) (some "list.__new__") := by
    intro A Q E s k q
    unfold Bind.madeBy
    refine wpAny_bind (hm A _ E s k ?_)
    rw [List.forIn_cons]
    refine wpAny_bind (wpAny_bind (wpAny_bind (wpAny_bind (wpAny_loadPart (k _ _ (X _ _ e1)) (wpAny_pure ?_)))))
    dsimp only
    rw [e2]
    exact wpAny_pure (wpAny_pure (wpAny_pure q))
  refine ⟨⟨oc, od, cd, sl, X _ _ e1, e3, e4, e5⟩, made, ?_, looks_mroIn X (acc_super w).1, looks_mroIn X (acc_list w), looks_specialIn X t1, looks_instIn X t2, hm, looks_findIn X (acc_find w (("__init__" : Str), 94) (by decide)).1, looks_typeIn X (acc_find w (("__init__" : Str), 94) (by decide)).2⟩
  intro A Q E s k q
  unfold Bind.staticBase
  refine wpAny_bind (hm A _ E s k ?_)
  rw [List.forIn_cons]
  exact wpAny_bind (wpAny_bind (wpAny_bind (made A _ E s k (wpAny_pure (wpAny_pure (wpAny_pure q))))))
section
variable {prog : Program} {w : World} {A : Around} {R : Result → Shared → Prop} {h : Heap} {g : Array GenState} {d : Drawn} {t : Nat} {os : OsState}
local macro_rules | `(tactic| walk_at "lk1") => `(tactic| first | with_reducible refine wpAny_bind ?_ | with_reducible refine nd_bind ?_ | with_reducible refine Looks.at (by with_reducible assumption) ?_ | with_reducible refine wpAny_holding ?_ | with_reducible refine wpAny_onRaise ?_ | k_node)
set_option maxHeartbeats 4000000 in
theorem new_acc (Y : AccMade (model prog w) h) (hq : R (.ok (.ret (.ref (h.objs.size + 1)))) ⟨(h.push emptyDict).push (accObj h.objs.size), g, d, t, os⟩) :
    codeAny (model prog w) A (.call (.builtin "list.__new__") ⟨[.ref 157], []⟩) R ⟨h, g, d, t, os⟩ := by
  obtain ⟨⟨oc, od, cd, sl, hC, e1, e2, e4⟩, made, base, self, top, call, typ, mro, init, fn⟩ := Y
  refine codeAny_call_builtin_code (Code.quiet_builtin _ (by decide +kernel)) ?_
  unfold checkBuiltinCall
  repeat walk_at "lk1"
  have entry : entryFor table "list.__new__" = some Builtin.«list.__new__» := entryFor_of_tree (by kernel_rfl)
  refine codeAny_builtinAt entry ?_
  rw [Around.under_plainId (by decide +kernel)]
  unfold Builtin.«list.__new__»
  refine _root_.PySem.wpAt_bind (_root_.PySem.wpAt_stack fun p below => ?_)
  refine _root_.PySem.wpAt_of_wpAny ?_
  have hC1 := Heap.get?_push_of_some emptyDict hC
  have hC2 := Heap.get?_push_of_some (accObj h.objs.size) hC1
  simp only [owner_list_new]
  repeat walk_at "lk1"
  rw [e2, if_neg Bool.false_ne_true]
  refine wpAny_pure (wpAny_pure ?_)
  show R (.ok (.ret (.ref (h.push emptyDict).objs.size))) _
  rw [Heap.size_push]
  exact hq
end
end Mine
end
section
open PySem PySem.W PyProof.Rows PySem.Calls
set_option maxRecDepth 100000
namespace Mine
section
variable {c : Cx} {m : Loc} {N : Led} {K : Kv}
set_option maxHeartbeats 4000000 in
theorem cal_acc (G : Good c) (hd : c.dp ≤ 680) (hu : c.un ≤ 3890) (h : ∀ x dx, K (.ref x) m (rowL x dx [] ++ N)) : CalW c (.ref 157) [] m N K := ⟨kep_K G (fun v => er_ref) (acc_typs c.w).2.2, fun f' as e1 e2 => by
  obtain rfl := List.map_eq_nil_iff.mp e2
  rw [er_ref e1]
  refine ⟨fun h0 tk g Q E hg a k => ?_⟩
  have Y := acc_made (M := c.M) (at_in G a)
  have Y' := Y
  obtain ⟨⟨oc, od, cd, sl, hC, e1, e2, e4⟩, made, base, self, top, call, typ, mro, init, fn⟩ := Y
  refine wpAny_call (codeAny_of_tree ?_)
  show wpAny _ _ (callAny (.ref 157) _) _ _ ⟨h0, g, c.s.drawn, tk, c.s.os⟩
  refine nd_load hC ?_
  show wpAny _ _ (callAny.viaDunder (.ref 157) _) _ _ _
  unfold callAny.viaDunder
  refine wpAny_bind (call.at ?_)
  dsimp only
  rw [tc_bind]
  refine wpAny_bind (wpAny_pure (wpAny_bind (wpAny_pure ?_)))
  refine wpAny_pure (a := Fin.again (.call (.builtin "type.__call__") ⟨[.ref 157], []⟩)) (And.intro rfl ?_)
  refine codeAny_call_builtin_at (Code.quiet_builtin _ (by decide +kernel)) entry_typeCall ?_
  with_reducible refine check_slot tc_kind tc_split typ (tc_args _ _ _) ?_
  unfold Builtin.«type.__call__»
  repeat (first | with_reducible refine wpAny_call ?_ | lk)
  with_reducible refine new_acc Y' ?_
  have a1 : At c ((h0.push emptyDict).push (accObj h0.objs.size)) m ((h0.objs.size + 1, isAcc h0.objs.size []) :: (h0.objs.size, isRaw emptyDict) :: N) := by
    have := (a.push (o := emptyDict) (P := isRaw emptyDict) rfl).push (o := accObj h0.objs.size) (P := isAcc h0.objs.size []) ⟨[], 0, rfl, rfl⟩
    rw [Heap.size_push] at this
    exact this
  generalize (h0.push emptyDict).push (accObj h0.objs.size) = h1 at a1
  have Y1 := acc_made (M := c.M) (at_in G a1)
  obtain ⟨cs, ep, od1, I, ec, hdd, hod⟩ := acc_inst a1 (.head _) (.tail _ (.head _))
  have L1 : Looks c.M h1 (typeOf (.ref (h0.objs.size + 1))) (.ref 157) := I.type
  show wpAny c.M (c.A.under (Code.builtin "type.__call__" ⟨[.ref 157], []⟩)) _ _ _ ⟨h1, g, c.s.drawn, tk, c.s.os⟩
  let c2 : Cx := { c with dp := c.dp + 1, un := c.un + 1 }
  have hA : c.A.under (Code.builtin "type.__call__" ⟨[.ref 157], []⟩) = c2.A := rfl
  rw [hA]
  have G2 : Good c2 := ⟨G.B, G.X, G.T, G.k, by show c.dp + 1 ≤ 900; omega, by show c.un + 1 ≤ 6000; omega, G.t44, G.t37, G.t126⟩
  refine wpAny_bind (Looks.at (L1.andThen Y1.self) ?_)
  show wpAny _ _ (holding _ _ >>= _) _ _ _
  refine wpAny_bind (wpAny_holding ?_)
  unfold callSpecial? specialOf
  refine wpAny_bind (wpAny_bind (Looks.at L1 (Looks.at Y1.init (wpAny_holding (wpAny_bind (Looks.at (bind_fn (at_in G a1) (f := 94) _ (acc_find c.w (("__init__" : Str), 94) (by decide)).2) (wpAny_bind ?_)))))))
  refine ((init_ctr c.w (h0.objs.size + 1) h0.objs.size N c2 m G2 rfl (by show c.dp + 1 ≤ 690; omega) (by show c.un + 1 ≤ 3900; omega)).go (.ref 94) [.ref (h0.objs.size + 1)] rfl rfl).go h1 tk g _ _ hg ⟨a1.ex⟩ fun v h2 tk2 g2 m2 N2 hg2 a2 q => ?_
  obtain ⟨rfl, ev, rfl⟩ := q
  rw [er_none ev]
  exact wpAny_pure (wpAny_pure (k (.ref (h0.objs.size + 1)) h2 tk2 g2 _ _ hg2 ⟨a2.ex⟩ (h _ _)))⟩
end
end Mine
end
section
open PySem PySem.W PyProof.Rows PySem.Calls
set_option maxRecDepth 100000
namespace Mine
def StrOut (x dx : Addr) (es : List Ent) (ss : List (Str × Str)) (N : Led) (v : Value) (N' : Led) : Prop := v = .str (rowTxt ss) 0 ∧ N' = rowL x dx es ++ ((126, isTab) :: N)
theorem run_retR {c : Cx} {m : Loc} {N : Led} {e : Expr} {p : PySem.Pos} {rest : List Stmt} {K : Kf} (h : Run c er (eval e c.env) m N fun v m N => K (.ret v) m N) : Run c erF (execs (.Return (some e) p :: rest) c.env) m N K :=
  ⟨fun h0 tk g Q E hg a k => wpAny_execs_cons (wpAny_Return_some (h.go h0 tk g _ E hg a fun v h' tk' g' m' N' hg' a' q => k (.ret v) h' tk' g' m' N' hg' a' q))⟩
theorem str_ctr (w : World) (x dx : Addr) (es : List Ent) (ss : List (Str × Str)) (N : Led) (hP : Pairs es ss) (hlen : es.length ≤ 100) (hshort : ∀ q ∈ ss, q.1.length + q.2.length ≤ 10) :
    Ctr w 690 3900 (.ref 131) [.ref x] (rowL x dx es ++ ((126, isTab) :: N)) (StrOut x dx es ss N) := by
  show (fun (_ : OpenLaw) (_ : Params → Frag) => Ctr w 690 3900 (.ref 131) [.ref x] (rowL x dx es ++ ((126, isTab) :: N)) (StrOut x dx es ss N)) Challenge.rw_re0116_01 Mine.hd.heap_1
  k_fill
  show Ctr w 690 3900 (.ref 131) [.ref x] (rowL x dx es ++ ((126, isTab) :: N)) (StrOut x dx es ss N)
  k_dflt (refine' ctr_defC (binds := [("self", .ref x)]) ?hk ?hcd ?hkp ?hd ?hu ?hb ?hloc ?hcell ?hco ?hgen ?hkind ?H)
  case hk => k_is
  case hcd => k_is
  case hkp => k_is
  case hd => decide
  case hu => decide
  case hb =>
    intro vals s e
    obtain ⟨v, rfl, h1⟩ := map_one e
    exact ⟨_, BindsTo.of_eq rfl, by rw [← h1]; rfl⟩
  case hloc => exact rfl
  case hcell => decide +kernel
  case hco => exact rfl
  case hgen => exact rfl
  case hkind => exact rfl
  case H =>
    intro c G hw hcn hcs hccd hcl hdp hun
    have Fc : Fn c _ [] := ⟨G, congrArg Scope.names hcs, hcl.trans rfl, by decide +kernel⟩
    show Run c erF (execs _ c.env) [("self", .ref x)] (rowL x dx es ++ ((126, isTab) :: N)) _
    refine run_retR (str_gen G Fc hccd rfl rfl rfl hP hlen hshort rfl rfl rfl ?clos (by decide) rfl rfl rfl rfl rfl ?fin)
    case clos => (show closureFor _ (envX c.cn c.cs c.L c.a c.ccd c.cl) = _; exact rfl)
    case fin => exact ⟨_, .all, rfl, rfl⟩
theorem acc_isFn (w : World) : isFn (Mine.hd.heap_1 w.params) (.ref 131) = true := by kernel_rfl
theorem cal_str {c : Cx} {m : Loc} {N : Led} {K : Kv} (G : Good c) (hd : c.dp ≤ 680) (hu : c.un ≤ 3890) {x dx : Addr} {es : List Ent} {ss : List (Str × Str)} (hP : Pairs es ss) (hlen : es.length ≤ 100) (hshort : ∀ q ∈ ss, q.1.length + q.2.length ≤ 10)
    (h : K (.str (rowTxt ss) 0) m (rowL x dx es ++ ((126, isTab) :: N))) : CalW c (.type "str") [.ref x] m (rowL x dx es ++ ((126, isTab) :: N)) K := ⟨kep_type, fun f' as e1 e2 => by
  obtain ⟨y, rfl, h1⟩ := map_one e2
  rw [er_type e1, er_ref h1]
  refine ⟨fun h0 tk g Q E hg a k => ?_⟩
  obtain ⟨cs, ep, od, I, e, hdd, hod⟩ := acc_inst a (.head _) (.tail _ (.head _))
  let c2 : Cx := { c with un := c.un + 2 }
  have G2 : Good c2 := ⟨G.B, G.X, G.T, G.k, G.d, by show c.un + 2 ≤ 6000; omega, G.t44, G.t37, G.t126⟩
  refine kso_call (s := c.st h0 tk g) (by show c.un + 1 + 1 < cLine; unfold cLine; omega) (at_in G a) I (acc_find c.w (("__str__" : Str), 131) (by decide)).1 (acc_isFn c.w) ?_
  show wpAny c2.M c2.A _ _ _ _
  refine ((str_ctr c.w x dx es ss N hP hlen hshort c2 m G2 rfl (by show c.dp ≤ 690; omega) (by show c.un + 2 ≤ 3900; omega)).go (.ref 131) [.ref x] rfl rfl).go h0 tk g _ _ hg ⟨a.ex⟩ fun v h2 tk2 g2 m2 N2 hg2 a2 q => ?_
  obtain ⟨rfl, ev, rfl⟩ := q
  obtain ⟨t, rfl⟩ := er_str ev
  exact k _ h2 tk2 g2 _ _ hg2 ⟨a2.ex⟩ h⟩
end Mine
end
section
open PySem PySem.W PyProof.Rows PySem.Calls
set_option maxRecDepth 100000
namespace Mine
def isD (w : World) (kvs : Loc) : AO := fun o => ∃ (kv : Loc) (es : Array DictEntry) (ep : Nat), o.ExactDict ∧ o.data = .dict es ep ∧ KeysOf (strKind PG w) es ∧ _root_.PySem.Pairs (strKind PG w) es.toList kv ∧ (kv.map (·.1)).Nodup ∧ (∀ k, (valueAt kv k).map er = kvs.lookup k) ∧ kv.length ≤ kvs.length
theorem valueAt_cons (a : Str × Value) (l : Loc) (x : Str) : valueAt (a :: l) x = if a.1 = x then some a.2 else valueAt l x := by
  unfold valueAt
  rw [List.find?_cons]
  by_cases h : a.1 = x
  · rw [decide_eq_true h, if_pos h]; rfl
  · rw [decide_eq_false h, if_neg h]
theorem valueAt_map (k : Str) (v : Value) (x : Str) : ∀ l : Loc, valueAt (l.map fun kv => if kv.1 = k then (kv.1, v) else kv) x = if x = k then (valueAt l x).map fun _ => v else valueAt l x
  | [] => by split <;> rfl
  | a :: l => by
    rw [List.map_cons, valueAt_cons, valueAt_cons, valueAt_map k v x l]
    by_cases h : a.1 = k
    · rw [if_pos h]
      by_cases h2 : a.1 = x
      · rw [if_pos h2, if_pos h2, if_pos (h2.symm.trans h)]; rfl
      · rw [if_neg h2, if_neg h2]
    · rw [if_neg h]
      by_cases h2 : a.1 = x
      · rw [if_pos h2, if_pos h2, if_neg (fun e => h (h2.trans e))]
      · rw [if_neg h2, if_neg h2]
theorem valueAt_app (k : Str) (v : Value) (x : Str) : ∀ l : Loc, (l.any fun kv => kv.1 = k) = false → valueAt (l ++ [(k, v)]) x = if x = k then some v else valueAt l x
  | [], _ => by
    rw [List.nil_append, valueAt_cons]
    by_cases h : k = x
    · rw [if_pos h, if_pos h.symm]
    · rw [if_neg h, if_neg fun e => h e.symm]
  | a :: l, hn => by
    rw [List.any_cons, Bool.or_eq_false_iff] at hn
    have h : ¬ a.1 = k := of_decide_eq_false hn.1
    rw [List.cons_append, valueAt_cons, valueAt_cons, valueAt_app k v x l hn.2]
    by_cases h2 : a.1 = x
    · rw [if_pos h2, if_pos h2, if_neg fun e => h (h2.trans e)]
    · rw [if_neg h2, if_neg h2]
theorem valueAt_some (k : Str) : ∀ l : Loc, (l.any fun kv => kv.1 = k) = (valueAt l k).isSome
  | [] => rfl
  | a :: l => by
    rw [List.any_cons, valueAt_cons, valueAt_some k l]
    by_cases h : a.1 = k
    · rw [if_pos h, decide_eq_true h]; rfl
    · rw [if_neg h, decide_eq_false h]; rfl
theorem valueAt_stored (l : Loc) (k : Str) (v : Value) (x : Str) : valueAt (stored l k v) x = if x = k then some v else valueAt l x := by
  unfold stored
  cases h : (l.any fun kv => kv.1 = k) with
  | false =>
    rw [if_neg Bool.false_ne_true]
    exact valueAt_app k v x l h
  | true =>
    rw [if_pos rfl, valueAt_map]
    by_cases hx : x = k
    · rw [if_pos hx, if_pos hx, hx]
      rw [valueAt_some] at h
      obtain ⟨u, hu⟩ := Option.isSome_iff_exists.mp h
      rw [hu]; rfl
    · rw [if_neg hx, if_neg hx]
theorem isD_put {w : World} {l : Loc} {kvs : Loc} {k : Str} {v : Value} (hl : ∀ x, (valueAt l x).map er = kvs.lookup x) : ∀ x, (valueAt (stored l k v) x).map er = List.lookup x ((k, er v) :: kvs) := fun x => by
  rw [valueAt_stored, List.lookup_cons]
  by_cases h : x = k
  · rw [if_pos h, beq_iff_eq.mpr h]; rfl
  · rw [if_neg h, beq_eq_false_iff_ne.mpr h]; exact hl x
section
variable {c : Cx} {m : Loc} {N : Led} {K : Kv}
theorem at_dict {h : Heap} {d : Addr} {kvs : Loc} (a : At c h m N) (hd : (d, isD c.w kvs) ∈ N) : ∃ kv, h.DictOf (strKind PG c.w) d kv ∧ (∀ k, (valueAt kv k).map er = kvs.lookup k) ∧ kv.length ≤ kvs.length := by
  obtain ⟨o, ho, kv, es, ep, h1, h2, h3, h4, h5, h6, h7⟩ := a.get hd
  exact ⟨kv, ⟨o, es, ep, ho, h1, h2, h3, h4, h5⟩, h6, h7⟩
theorem of_dict {h : Heap} {d : Addr} {w : World} {kv kvs : Loc} (hd : h.DictOf (strKind PG w) d kv) (hl : ∀ k, (valueAt kv k).map er = kvs.lookup k) (hz : kv.length ≤ kvs.length) : ∃ o, h.get? d = some o ∧ isD w kvs o := by
  obtain ⟨o, es, ep, ho, h1, h2, h3, h4, h5⟩ := hd
  exact ⟨o, ho, kv, es, ep, h1, h2, h3, h4, h5, hl, hz⟩
theorem cmp_notin_dict {d : Addr} {kvs : Loc} {x : Str} (hd : (d, isD c.w kvs) ∈ N) (h1 : (d == sysModules) = false) (h : K (.bool (!(kvs.lookup x).isSome)) m N) : Cmp c .NotIn (.str x 0) (.ref d) m N K := ⟨fun v u e1 e2 => by
  obtain ⟨t1, rfl⟩ := er_str e1
  rw [er_ref e2]
  refine ⟨fun h0 tk g Q E hg a k => ?_⟩
  obtain ⟨kv, D, hl, hz⟩ := at_dict a hd
  refine wpAny_notIn_of (strKind_is PG c.w x t1) h1 D.mapOf (k (.bool _) h0 (tk + 1) g m N hg a ?_)
  have e : ((valueAt kv x).isSome) = (kvs.lookup x).isSome := by rw [← hl x, Option.isSome_map]
  show K (.bool (!(valueAt kv x).isSome)) m N
  rw [e]; exact h⟩
theorem sub_dict {v i : Expr} {d : Addr} {kvs : Loc} {x : Str} {y : Value} (hd : (d, isD c.w kvs) ∈ N) (hx : kvs.lookup x = some y) (hs : ∀ t, subscripted i false (.ref d) (.str x t) = operate [.ref d, .str x t] (getItem (.ref d) (.str x t))) (hv : ∀ r, letTemporaryGo v (.ref d) r = pure ()) (h : K y m N) : Sub c v i (.ref d) (.str x 0) m N K := ⟨fun o j e1 e2 => by
  rw [er_ref e1]
  obtain ⟨t2, rfl⟩ := er_str e2
  refine ⟨fun h0' tk g Q E hg a kk => ?_⟩
  obtain ⟨kv, D, hl, hz⟩ := at_dict a hd
  obtain ⟨y', hy, ey⟩ := Option.map_eq_some_iff.mp ((hl x).trans hx)
  refine subscriptTail_builtin D.mapOf.typeIs slot_dict_getitem.lookup (wpAny_getItem_of (strKind_is PG c.w x t2) D.mapOf hy (kk _ h0' (tk + 1) g m N hg a ?_)) (hs _) hv
  rw [ey]; exact h⟩
theorem set_dict {d : Addr} {kvs : Loc} {g : AO → Led} {x : Str} {v : Value} {K : Loc → Led → Prop} (hp : Pos d (isD c.w kvs) N g) (hz : kvs.length ≤ 1000) (h : K m (g (isD c.w ((x, v) :: kvs)))) : SetI c (.ref d) (.str x 0) v m N K := ⟨fun o i v' e1 e2 e3 => by
  rw [er_ref e1]
  obtain ⟨t2, rfl⟩ := er_str e2
  refine ⟨fun h0' tk gg Q E hg a kk => ?_⟩
  have hm : (d, isD c.w kvs) ∈ N := by
    obtain ⟨pre, post, rfl, _⟩ := hp.split
    exact List.mem_append_right _ (.head _)
  obtain ⟨kv, D, hl, hz2⟩ := at_dict a hm
  refine wpAny_setItem_pairs (v := v') (strKind_is PG c.w x t2) D (fun h' D' hs' => kk () h' (tk + 1) gg m _ hg (a.upd hp (fun o _ _ => of_dict D' (isD_put (w := c.w) hl) (Nat.le_trans (stored_length_le _ _ _) (Nat.succ_le_succ hz2))) fun b o hb e => (hs'.2 b hb).trans e) ?_) (by rw [sizeLine_eq]; omega)
  rw [e3]; exact h⟩
end
end Mine
end
section
open PySem PySem.W PyProof.Rows PySem.Calls
set_option maxRecDepth 100000
namespace Mine
def ivs (ns : List Int) : List Value := ns.map fun i => .int i 0
def i2dQual : Str := Str.ofString "_int2digits.<locals>.inner"
abbrev Tab37 : Led → Prop := TabL 37 35 4 i2dQual
def I2dOut (n a K : Int) (rest : Led) (v : Value) (N' : Led) : Prop := ∃ D ds tabs', v = .ref D ∧ N' = (D, isL (ivs ds)) :: (tabs' ++ rest) ∧ Digits n a K ds ∧ Tab37 tabs'
set_option maxHeartbeats 4000000 in
theorem i2d_ctr (w : World) (a n K : Int) (tabs rest : Led) (ha : 0 ≤ a) (ha2 : a < 1099511627776) (hn : 1 ≤ n) (hn2 : n ≤ 20) (hK : ((Builtin.Int.intBits a : Int) + n - 1).fdiv n = K) (hK2 : K ≤ 20) (ht : Tab37 tabs) :
    Ctr w 700 4000 (.ref 42) [.int a 0, .int n 0] (tabs ++ rest) (I2dOut n a K rest) := by
  obtain ⟨bf1, bf2, bf3⟩ := bits_fill hn ha hK
  show (fun (_ : OpenLaw) (_ : Params → Frag) => Ctr w 700 4000 (.ref 42) [.int a 0, .int n 0] (tabs ++ rest) (I2dOut n a K rest)) Challenge.rw_re0116_01 Mine.hd.heap_1
  k_fill
  show Ctr w 700 4000 (.ref 42) [.int a 0, .int n 0] (tabs ++ rest) (I2dOut n a K rest)
  k_dflt (refine' ctr_defC (binds := [("a", .int a 0), ("n", .int n 0)]) ?hk ?hcd ?hkp ?hd ?hu ?hb ?hloc ?hcell ?hco ?hgen ?hkind ?H)
  case hk => k_is
  case hcd => k_is
  case hkp => k_is
  case hd => decide
  case hu => decide
  case hb =>
    intro vals s e
    obtain ⟨v, u, rfl, h1, h2⟩ := map_two e
    exact ⟨_, BindsTo.of_eq rfl, by rw [← h1, ← h2]; rfl⟩
  case hloc => exact rfl
  case hcell => decide +kernel
  case hco => exact rfl
  case hgen => exact rfl
  case hkind => exact rfl
  case H =>
    intro c G hw hcn hcs hccd hcl hdp hun
    show Run c erF (execs _ c.env) [("a", .int a 0)] ((c.L + 1 + 1 + 1, isCell none) :: (c.L + 1 + 1, isCell none) :: (c.L + 1, isCell (some (.int n 0))) :: (tabs ++ rest)) _
    have Fc : Fn c _ [("inner", c.L + 1 + 1 + 1), ("a_digits", c.L + 1 + 1), ("n", c.L + 1)] := ⟨G, congrArg Scope.names hcs, hcl.trans rfl, by decide +kernel⟩
    refine run_step Fc 9 ?_
    refine And.intro rfl ?_
    refine And.intro rfl ?_
    refine And.intro rfl ?_
    intro l
    refine And.intro rfl ?_
    refine get_bits ?_
    refine cal_bits ?_
    refine Exists.intro _ (And.intro (.tail _ (.tail _ (.tail _ (.head _)))) ?_)
    refine bin_add ?_
    refine bin_sub ?_
    refine Exists.intro _ (And.intro (.tail _ (.tail _ (.tail _ (.head _)))) ?_)
    have hb64 : Builtin.Int.intBits a ≤ 64 := intBits_le_64 (by omega) (by omega)
    refine bin_floordiv (by omega) (by omega) (by omega) (by omega) ?_
    rw [← Int.fdiv_eq_ediv_of_nonneg _ (show (0 : Int) ≤ n by omega), hK]
    refine bin_rep (.head _) bf3 (by omega) ?_
    intro D
    refine Exists.intro _ (Exists.intro _ (And.intro (Pos.tail (Pos.tail (Pos.tail Pos.head))) ?_))
    refine run_step Fc 9 ?_
    refine run_def (cd := (41 : Nat)) (P := (37 : Nat)) (qual := i2dQual) (pre := [(_, _), (_, _), (_, _), (_, _), (_, _)]) (clos := [("n", c.L + 1), ("inner", c.L + 1 + 1 + 1), ("a_digits", c.L + 1 + 1)]) G ?d0 ?k0 ?an ?qn ?cf G.t37 ?ccd rfl ht ?next
    case d0 => exact rfl
    case k0 => exact rfl
    case an => exact rfl
    case qn => (show qualnameIn (envX c.cn c.cs c.L c.a c.ccd c.cl) _ _ = _; rw [hcn, hcs]; exact rfl)
    case cf => (show closureFor _ (envX c.cn c.cs c.L c.a c.ccd c.cl) = _; rw [hcl]; exact rfl)
    case ccd => exact hccd
    case next =>
      intro f cd' tabs' ht' hm
      refine vSto_sound G Fc.ns_ Fc.cl_ ?_
      refine Exists.intro _ (Exists.intro _ (And.intro (Pos.tail (Pos.tail (Pos.tail Pos.head))) ?_))
      generalize hP : isClos _ _ _ _ _ _ _ = P
      refine Run.pick (N' := (D, _) :: (f, P) :: (c.L + 1 + 1 + 1, isCell (some (.ref f))) :: (c.L + 1 + 1, isCell (some (.ref D))) :: (c.L + 1, isCell (some (.int n 0))) :: (tabs' ++ rest)) (Pk.cons (Rem.tail Rem.head) (Pk.cons Rem.head (Pk.cons (Rem.tail Rem.head) (Pk.cons (Rem.tail Rem.head) (Pk.cons (Rem.tail Rem.head) (Pk.drop Pk.all)))))) ?_
      rw [show List.replicate K.toNat (Value.int 0 0) = ivs (List.replicate K.toNat 0) from by unfold ivs; rw [List.map_replicate]]
      have inner : ∀ (j : Nat) (x l r : Int) (ns : List Int) (dp un : Nat), dp + j ≤ 800 → un + 20 * j ≤ 4500 → 0 ≤ x → x < 1099511627776 → x < 2 ^ (n * (r - l)).toNat → 0 ≤ l → l < r → r ≤ ns.length → ns.length ≤ 20 → r - l ≤ 2 ^ j →
          Ctr w dp un (.ref f) [.int x 0, .int l 0, .int r 0] ((D, isL (ivs ns)) :: (f, P) :: (c.L + 1 + 1 + 1, isCell (some (.ref f))) :: (c.L + 1 + 1, isCell (some (.ref D))) :: (c.L + 1, isCell (some (.int n 0))) :: (tabs' ++ rest))
            (fun v N' => v = .none ∧ ∃ ns', N' = (D, isL (ivs ns')) :: (f, P) :: (c.L + 1 + 1 + 1, isCell (some (.ref f))) :: (c.L + 1 + 1, isCell (some (.ref D))) :: (c.L + 1, isCell (some (.int n 0))) :: (tabs' ++ rest) ∧ Fill n x l r ns ns') := by
        generalize hL : c.L = L at *
        generalize htl : tabs' ++ rest = tl
        have hm' : (cd', isCode i2dQual) ∈ tl := by rw [← htl]; exact List.mem_append_left _ hm
        clear ht' hm htl Fc G hcl hccd hcs hcn hw hdp hun hb64 bf1 bf2 bf3 hK ha
        intro j
        induction j using Nat.strongRecOn with
        | _ j ih =>
          intro x l r ns dp un hdp hun hx0 hx1 hx2 hl0 hlr hr hns hj
          subst hP
          k_dflt (refine' ctr_nest (binds := [("x", .int x 0), ("L", .int l 0), ("R", .int r 0)]) (.tail _ (.head _)) (.tail _ (.tail _ (.tail _ (.tail _ (.tail _ hm'))))) (by omega) (by omega) ?hb ?hloc ?hcell ?hco ?hgen ?hkind ?H)
          case hb =>
            intro vals s doc pm ctv e
            obtain ⟨v, u, z, rfl, h1, h2, h3⟩ := map_three e
            exact ⟨_, BindsTo.of_eq rfl, by rw [← h1, ← h2, ← h3]; rfl⟩
          case hloc => exact rfl
          case hcell => decide
          case hco => exact rfl
          case hgen => exact rfl
          case hkind => exact rfl
          case H =>
            intro c G hw hcs hcl hdp' hun'
            have Fc : Fn c _ _ := ⟨G, congrArg Scope.names hcs, hcl, by decide +kernel⟩
            refine run_step Fc 9 ?_
            refine And.intro rfl ?_
            refine bin_add ?_
            refine cmp_eq ?_
            refine tru_bool ?_
            refine And.intro ?_ ?_
            · intro e1
              have e1 := eq_of_beq e1
              subst e1
              refine run_step Fc 9 ?_
              refine And.intro rfl ?_
              refine Exists.intro _ (And.intro (.tail _ (.tail _ (.tail _ (.head _)))) ?_)
              refine set_list Pos.head hl0 (by unfold ivs; rw [List.length_map]; omega) (by unfold ivs; rw [List.length_map]; omega) ?_
              refine run_step Fc 9 ?_
              refine ⟨_, .all, rfl, ns.set l.toNat x, ?_, fill_leaf hx0 (by rw [show n * (l + 1 - l) = n by rw [show l + 1 - l = (1 : Int) by omega, Int.mul_one]] at hx2; exact hx2) hl0 (by omega)⟩
              unfold ivs
              rw [List.map_set]
            · intro e1
              have e1 : l + 1 ≠ r := fun q => by rw [q, beq_self_eq_true] at e1; cases e1
              refine run_nil ?_
              refine run_step Fc 9 ?_
              refine And.intro rfl ?_
              refine bin_add ?_
              refine bin_half ?_
              intro M eH1 eH2
              refine run_step Fc 9 ?_
              refine And.intro rfl ?_
              refine bin_sub ?_
              refine Exists.intro _ (And.intro (.tail _ (.tail _ (.tail _ (.tail _ (.head _))))) ?_)
              refine bin_mul (intBits_le_64 (by omega) (by omega)) ?_
              have hS0 : 0 ≤ (M - l) * n := Int.mul_nonneg (by omega) (by omega)
              have hS1 : (M - l) * n ≤ 20 * 20 := Int.mul_le_mul (by omega) (by omega) (by omega) (by omega)
              refine run_step Fc 9 ?_
              refine And.intro rfl ?_
              refine bin_shr hS0 ?_
              refine run_step Fc 9 ?_
              refine And.intro rfl ?_
              have hU0 : 0 ≤ x / 2 ^ ((M - l) * n).toNat := Int.ediv_nonneg hx0 (Int.le_of_lt (two_pow_pos _))
              have hU1 : x / 2 ^ ((M - l) * n).toNat ≤ x := Int.ediv_le_self _ hx0
              refine bin_shl hS0 (by omega) (by omega) ?_
              refine bin_xor ?_
              obtain ⟨j', ej, hj2⟩ := two_pow_halve (by omega) hj
              obtain ⟨a1, a2, a3, a4, a5, a6, a7, a8⟩ := i2d_arith eH1 eH2 rfl rfl rfl rfl hx0 hx2 hlr e1 hn
              have q1 := pow2_ge_one j'
              refine run_step Fc 9 ?_
              refine And.intro rfl ?_
              refine And.intro rfl ?_
              refine Exists.intro _ (And.intro (.tail _ (.tail _ (.head _))) ?_)
              refine (ih j' (by omega) _ l M ns (dp + 1) (un + 3) (by omega) (by omega) a5 (by omega) a7 hl0 a1 (by omega) hns (by omega)).use G hw hdp' hun' ?_
              rintro v N' ⟨rfl, ns1, rfl, fl1⟩
              have ln1 := fl1.1
              refine run_step Fc 9 ?_
              refine And.intro rfl ?_
              refine And.intro rfl ?_
              refine Exists.intro _ (And.intro (.tail _ (.tail _ (.head _))) ?_)
              refine (ih j' (by omega) _ M r ns1 (dp + 1) (un + 3) (by omega) (by omega) hU0 (by omega) a8 (by omega) a2 (by omega) (by omega) (by omega)).use G hw hdp' hun' ?_
              rintro v N' ⟨rfl, ns2, rfl, fl2⟩
              rw [a3] at fl1
              exact run_nil ⟨_, .all, rfl, ns2, rfl, fill_join hn (by omega) (by omega) fl1 fl2⟩
      by_cases e0 : a = 0
      · refine run_step Fc 9 ?_
        refine tru_int ?_
        refine iteF (by rw [e0]; rfl) (run_nil ?_)
        refine run_step Fc 9 ?_
        refine Exists.intro _ (And.intro (.tail _ (.tail _ (.tail _ (.head _)))) ?_)
        have hK0 : K = 0 := by rw [← hK, e0]; exact bits_zero hn
        subst hK0
        exact ⟨_, (Pk.cons Rem.head (Pk.drop (Pk.drop (Pk.drop (Pk.drop Pk.all))))), D, [], tabs', rfl, rfl, ⟨rfl, fun i => by rw [if_neg (by omega)]; rfl⟩, ht'⟩
      · have b4 := bf2 e0
        refine run_step Fc 9 ?_
        refine tru_int ?_
        refine iteT (bne_iff_ne.mpr e0) ?_
        refine run_step Fc 9 ?_
        refine And.intro rfl ?_
        refine And.intro rfl ?_
        refine Exists.intro _ (And.intro (.tail _ (.tail _ (.head _))) ?_)
        refine And.intro rfl ?_
        refine Exists.intro _ (And.intro (.tail _ (.tail _ (.tail _ (.head _)))) ?_)
        refine cal_len_list (.head _) (by unfold ivs; rw [List.length_map, List.length_replicate]; omega) ?_
        rw [show ((ivs (List.replicate K.toNat 0)).length : Int) = K by unfold ivs; rw [List.length_map, List.length_replicate]; omega]
        refine (inner 5 a 0 K _ 701 4003 (by decide) (by decide) ha ha2 (by rw [Int.sub_zero]; exact bf1) (Int.le_refl _) b4 (by rw [List.length_replicate]; omega) (by rw [List.length_replicate]; omega) (by rw [Int.sub_zero, show (2 : Int) ^ 5 = 32 from rfl]; omega)).use G hw hdp hun ?_
        rintro v N' ⟨rfl, ns1, rfl, fl1⟩
        refine run_nil ?_
        refine run_step Fc 9 ?_
        refine Exists.intro _ (And.intro (.tail _ (.tail _ (.tail _ (.head _)))) ?_)
        exact ⟨_, (Pk.cons Rem.head (Pk.drop (Pk.drop (Pk.drop (Pk.drop Pk.all))))), D, ns1, tabs', rfl, rfl, fill_digits bf3 rfl fl1, ht'⟩
end Mine
end
section
open PySem PySem.W PyProof.Rows PySem.Calls
set_option maxRecDepth 100000
namespace Mine
def d2iQual : Str := Str.ofString "_digits2int.<locals>.inner"
abbrev Tab44 : Led → Prop := TabL 44 50 4 d2iQual
def D2iOut (D : Addr) (ds : List Int) (n : Int) (rest : Led) (v : Value) (N' : Led) : Prop := v = .int (dv n.toNat ds) 0 ∧ ∃ tabs', N' = (D, isL (ivs ds)) :: (tabs' ++ rest) ∧ Tab44 tabs'
set_option maxHeartbeats 4000000 in
theorem d2i_ctr (w : World) (D : Addr) (ds : List Int) (n : Int) (tabs rest : Led) (hn : 1 ≤ n) (hl : n * ds.length ≤ 40) (hd : ∀ d ∈ ds, 0 ≤ d ∧ d < 2 ^ n.toNat) (ht : Tab44 tabs) :
    Ctr w 700 4000 (.ref 49) [.ref D, .int n 0] ((D, isL (ivs ds)) :: (tabs ++ rest)) (D2iOut D ds n rest) := by
  show (fun (_ : OpenLaw) (_ : Params → Frag) => Ctr w 700 4000 (.ref 49) [.ref D, .int n 0] ((D, isL (ivs ds)) :: (tabs ++ rest)) (D2iOut D ds n rest)) Challenge.rw_re0116_01 Mine.hd.heap_1
  k_fill
  show Ctr w 700 4000 (.ref 49) [.ref D, .int n 0] ((D, isL (ivs ds)) :: (tabs ++ rest)) (D2iOut D ds n rest)
  have hlen : ds.length ≤ 40 := by
    have : (ds.length : Int) ≤ n * ds.length := by
      have := Int.mul_le_mul_of_nonneg_right hn (Int.natCast_nonneg ds.length)
      omega
    omega
  k_dflt (refine' ctr_defC (binds := [("digits", .ref D), ("n", .int n 0)]) ?hk ?hcd ?hkp ?hd ?hu ?hb ?hloc ?hcell ?hco ?hgen ?hkind ?H)
  case hk => k_is
  case hcd => k_is
  case hkp => k_is
  case hd => decide
  case hu => decide
  case hb =>
    intro vals s e
    obtain ⟨v, u, rfl, h1, h2⟩ := map_two e
    exact ⟨_, BindsTo.of_eq rfl, by rw [← h1, ← h2]; rfl⟩
  case hloc => exact rfl
  case hcell => decide +kernel
  case hco => exact rfl
  case hgen => exact rfl
  case hkind => exact rfl
  case H =>
    intro c G hw hcn hcs hccd hcl hdp hun
    show Run c erF (execs _ c.env) [] ((c.L + 1 + 1 + 1, isCell none) :: (c.L + 1 + 1, isCell (some (.int n 0))) :: (c.L + 1, isCell (some (.ref D))) :: (D, isL (ivs ds)) :: (tabs ++ rest)) _
    have Fc : Fn c _ [("inner", c.L + 1 + 1 + 1), ("n", c.L + 1 + 1), ("digits", c.L + 1)] := ⟨G, congrArg Scope.names hcs, hcl.trans rfl, by decide +kernel⟩
    refine run_step Fc 9 ?_
    refine run_def (cd := (48 : Nat)) (P := (44 : Nat)) (qual := d2iQual) (pre := [(_, _), (_, _), (_, _), (_, _)]) (clos := [("n", c.L + 1 + 1), ("inner", c.L + 1 + 1 + 1), ("digits", c.L + 1)]) G ?d0 ?k0 ?an ?qn ?cf G.t44 ?ccd rfl ht ?next
    case d0 => exact rfl
    case k0 => exact rfl
    case an => exact rfl
    case qn => (show qualnameIn (envX c.cn c.cs c.L c.a c.ccd c.cl) _ _ = _; rw [hcn, hcs]; exact rfl)
    case cf => (show closureFor _ (envX c.cn c.cs c.L c.a c.ccd c.cl) = _; rw [hcl]; exact rfl)
    case ccd => exact hccd
    case next =>
      intro f cd' tabs' ht' hm
      refine vSto_sound G Fc.ns_ Fc.cl_ ?_
      refine Exists.intro _ (Exists.intro _ (And.intro (Pos.tail Pos.head) ?_))
      generalize hP : isClos _ _ _ _ _ _ _ = P
      have inner : ∀ (j : Nat) (l r : Int) (dp un : Nat), dp + j ≤ 800 → un + 20 * j ≤ 4500 → 0 ≤ l → l < r → r ≤ ds.length → r - l ≤ 2 ^ j →
          Ctr w dp un (.ref f) [.int l 0, .int r 0] ((f, P) :: (c.L + 1 + 1 + 1, isCell (some (.ref f))) :: (c.L + 1 + 1, isCell (some (.int n 0))) :: (c.L + 1, isCell (some (.ref D))) :: (D, isL (ivs ds)) :: (tabs' ++ rest))
            (fun v N' => v = .int (dv n.toNat (sl ds l r)) 0 ∧ N' = (f, P) :: (c.L + 1 + 1 + 1, isCell (some (.ref f))) :: (c.L + 1 + 1, isCell (some (.int n 0))) :: (c.L + 1, isCell (some (.ref D))) :: (D, isL (ivs ds)) :: (tabs' ++ rest)) := by
        generalize hL : c.L = L at *
        generalize htl : tabs' ++ rest = tl
        have hm' : (cd', isCode d2iQual) ∈ tl := by rw [← htl]; exact List.mem_append_left _ hm
        clear ht' hm htl Fc G hcl hccd hcs hcn hw hdp hun
        intro j
        induction j using Nat.strongRecOn with
        | _ j ih =>
          intro l r dp un hdp hun hl0 hlr hr hj
          subst hP
          k_dflt (refine' ctr_nest (binds := [("L", .int l 0), ("R", .int r 0)]) (.head _) (.tail _ (.tail _ (.tail _ (.tail _ (.tail _ hm'))))) (by omega) (by omega) ?hb ?hloc ?hcell ?hco ?hgen ?hkind ?H)
          case hb =>
            intro vals s doc pm ctv e
            obtain ⟨v, u, rfl, h1, h2⟩ := map_two e
            exact ⟨_, BindsTo.of_eq rfl, by rw [← h1, ← h2]; rfl⟩
          case hloc => exact rfl
          case hcell => decide
          case hco => exact rfl
          case hgen => exact rfl
          case hkind => exact rfl
          case H =>
            intro c G hw hcs hcl hdp' hun'
            have Fc : Fn c _ _ := ⟨G, congrArg Scope.names hcs, hcl, by decide +kernel⟩
            refine run_step Fc 9 ?_
            refine And.intro rfl ?_
            refine bin_add ?_
            refine cmp_eq ?_
            refine tru_bool ?_
            refine And.intro ?_ ?_
            · intro e1
              have e1 := eq_of_beq e1
              subst e1
              refine run_step Fc 9 ?_
              refine Exists.intro _ (And.intro (.tail _ (.tail _ (.tail _ (.head _)))) ?_)
              obtain ⟨x, hx, ex⟩ := sl_one (ds := ds) hl0 (by omega)
              refine sub_list (x := .int x 0) (.tail _ (.tail _ (.tail _ (.tail _ (.head _))))) hl0 (by omega) (by unfold ivs; rw [List.getElem?_map, hx]; rfl) (fun t => rfl) (fun r => rfl) ?_
              refine ⟨_, .all, ?_, rfl⟩
              rw [ex]
              show Value.int x 0 = Value.int (x + 2 ^ n.toNat * 0) 0
              rw [Int.mul_zero, Int.add_zero]
            · intro e1
              have e1 : l + 1 ≠ r := fun q => by rw [q, beq_self_eq_true] at e1; cases e1
              refine run_nil ?_
              refine run_step Fc 9 ?_
              refine And.intro rfl ?_
              refine bin_add ?_
              refine bin_half ?_
              intro M eH1 eH2
              refine run_step Fc 9 ?_
              refine And.intro rfl ?_
              refine bin_sub ?_
              refine Exists.intro _ (And.intro (.tail _ (.tail _ (.head _))) ?_)
              refine bin_mul (intBits_le_64 (by omega) (by omega)) ?_
              have hS0 : 0 ≤ (M - l) * n := Int.mul_nonneg (by omega) (by omega)
              have hS1 : (M - l) * n ≤ ds.length * n := Int.mul_le_mul_of_nonneg_right (by omega) (by omega)
              rw [Int.mul_comm (ds.length : Int) n] at hS1
              obtain ⟨j', ej, hj2⟩ := two_pow_halve (by omega) hj
              refine run_step Fc 9 ?_
              refine And.intro rfl ?_
              refine Exists.intro _ (And.intro (.tail _ (.head _)) ?_)
              refine (ih j' (by omega) M r (dp + 1) (un + 3) (by omega) (by omega) (by omega) (by omega) hr (by omega)).use G hw hdp' hun' ?_
              rintro v N' ⟨rfl, rfl⟩
              refine bin_shl hS0 (by omega) (dv_small (by omega) (by omega) (by omega) hr hd hl) ?_
              refine And.intro rfl ?_
              refine Exists.intro _ (And.intro (.tail _ (.head _)) ?_)
              refine (ih j' (by omega) l M (dp + 1) (un + 3) (by omega) (by omega) hl0 (by omega) (by omega) (by omega)).use G hw hdp' hun' ?_
              rintro v N' ⟨rfl, rfl⟩
              refine bin_add ?_
              exact ⟨_, .all, by rw [dv_join (by omega) hl0 (by omega) (by omega) hr]; rfl, rfl⟩
      refine run_step Fc 9 ?_
      refine Exists.intro _ (And.intro (.tail _ (.tail _ (.tail _ (.head _)))) ?_)
      refine tru_list (.tail _ (.tail _ (.tail _ (.tail _ (.head _))))) (by unfold ivs; rw [List.length_map]; omega) ?_
      refine And.intro ?_ ?_
      · intro e1
        have hpos : 0 < ds.length := by
          cases ds with
          | nil => cases e1
          | cons d ds => exact Nat.succ_pos _
        refine And.intro rfl ?_
        refine Exists.intro _ (And.intro (.tail _ (.head _)) ?_)
        refine And.intro rfl ?_
        refine Exists.intro _ (And.intro (.tail _ (.tail _ (.tail _ (.head _)))) ?_)
        refine cal_len_list (.tail _ (.tail _ (.tail _ (.tail _ (.head _))))) (by unfold ivs; rw [List.length_map]; omega) ?_
        rw [show ((ivs ds).length : Int) = ds.length by unfold ivs; rw [List.length_map]]
        refine (inner 6 0 ds.length 701 4003 (by decide) (by decide) (Int.le_refl _) (by omega) (Int.le_refl _) (by rw [Int.sub_zero, show (2 : Int) ^ 6 = 64 from rfl]; omega)).use G hw hdp hun ?_
        rintro v N' ⟨rfl, rfl⟩
        exact ⟨_, (Pk.cons (Rem.tail (Rem.tail (Rem.tail (Rem.tail Rem.head)))) (Pk.drop (Pk.drop (Pk.drop (Pk.drop Pk.all))))), by rw [sl_all]; rfl, tabs', rfl, ht'⟩
      · intro e1
        have hz : ds = [] := by
          cases ds with
          | nil => rfl
          | cons d ds => cases e1
        subst hz
        exact ⟨_, (Pk.cons (Rem.tail (Rem.tail (Rem.tail (Rem.tail Rem.head)))) (Pk.drop (Pk.drop (Pk.drop (Pk.drop Pk.all))))), rfl, tabs', rfl, ht'⟩
end Mine
end
section
open PySem PySem.W PyProof.Rows PySem.Calls
set_option maxRecDepth 100000
namespace Mine
theorem ivs_get {ds : List Int} {i : Nat} {v : Value} (h : (ivs ds)[i]? = some v) : ∃ d, ds[i]? = some d ∧ v = .int d 0 := by
  unfold ivs at h
  rw [List.getElem?_map] at h
  obtain ⟨d, h1, h2⟩ := Option.map_eq_some_iff.mp h
  exact ⟨d, h1, h2.symm⟩
theorem ivs_len (ds : List Int) : (ivs ds).length = ds.length := List.length_map ..
theorem ivs_rev (ds : List Int) : (ivs ds).reverse = ivs ds.reverse := by unfold ivs; rw [List.map_reverse]
theorem ivs_snoc (ds : List Int) (d : Int) : ivs ds ++ [.int d 0] = ivs (ds ++ [d]) := by unfold ivs; rw [List.map_append]; rfl
def DmOut (a b : Int) (rest : Led) (v : Value) (N' : Led) : Prop := ∃ t t37 t44, v = .ref t ∧ N' = (t, isT [.int (a / b) 0, .int (a % b) 0]) :: (t37 ++ (t44 ++ rest)) ∧ Tab37 t37 ∧ Tab44 t44
set_option maxHeartbeats 4000000 in
theorem dmp_ctr (w : World) (a b n K : Int) (t37 t44 rest : Led) (ha : 0 ≤ a) (ha2 : a < 1099511627776) (hb : 0 < b) (hb2 : b < 1048576) (hn : (Builtin.Int.intBits b : Int) = n) (hn1 : 1 ≤ n) (hn2 : n ≤ 20) (hK : ((Builtin.Int.intBits a : Int) + n - 1).fdiv n = K) (hK2 : K ≤ 20) (hK3 : n * K ≤ 40) (h37 : Tab37 t37) (h44 : Tab44 t44) :
    Ctr w 600 3000 (.ref 56) [.int a 0, .int b 0] (t37 ++ (t44 ++ rest)) (DmOut a b rest) := by
  show (fun (_ : OpenLaw) (_ : Params → Frag) => Ctr w 600 3000 (.ref 56) [.int a 0, .int b 0] (t37 ++ (t44 ++ rest)) (DmOut a b rest)) Challenge.rw_re0116_01 Mine.hd.heap_1
  k_fill
  show Ctr w 600 3000 (.ref 56) [.int a 0, .int b 0] (t37 ++ (t44 ++ rest)) (DmOut a b rest)
  k_dflt (refine' ctr_def (binds := [("a", .int a 0), ("b", .int b 0)]) ?hk ?hcd ?hkp ?hd ?hu ?hb ?hloc ?hcell ?hco ?hgen ?hkind ?H)
  case hk => k_is
  case hcd => k_is
  case hkp => k_is
  case hd => decide
  case hu => decide
  case hb =>
    intro vals s e
    obtain ⟨v, u, rfl, h1, h2⟩ := map_two e
    exact ⟨_, BindsTo.of_eq rfl, by rw [← h1, ← h2]; rfl⟩
  case hloc => exact rfl
  case hcell => decide
  case hco => exact rfl
  case hgen => exact rfl
  case hkind => exact rfl
  case H =>
    intro c G hw hcs hcl hdp hun
    have Fc : Fn c _ [] := ⟨G, congrArg Scope.names hcs, hcl, by decide +kernel⟩
    obtain ⟨bf1, bf2, bf3⟩ := bits_fill hn1 ha hK
    have pn := two_pow_pos n.toNat
    have pn2 : (2 : Int) ^ n.toNat ≤ 1048576 := by
      have : (2 : Int) ^ n.toNat ≤ 2 ^ 20 := by exact_mod_cast Nat.pow_le_pow_right (by decide : 0 < 2) (by omega : n.toNat ≤ 20)
      exact this
    refine run_step Fc 9 ?_
    refine And.intro rfl ?_
    refine And.intro rfl ?_
    refine get_bits ?_
    refine cal_bits ?_
    rw [hn]
    refine run_step Fc 9 ?_
    refine And.intro rfl ?_
    refine And.intro rfl ?_
    refine (i2d_ctr c.w a n K t37 (t44 ++ rest) ha ha2 hn1 hn2 hK hK2 h37).use G rfl (by omega) (by omega) ?_
    rintro v N' ⟨D, ds, t37', rfl, rfl, hds, h37'⟩
    obtain ⟨hv1, hv2⟩ := digits_val hn1 ha bf3 bf1 hds
    have hlen : (ds.length : Int) = K := by rw [hds.1]; omega
    refine run_step Fc 9 ?_
    refine And.intro rfl ?_
    refine run_step Fc 9 ?_
    refine And.intro rfl ?_
    refine And.intro rfl ?_
    refine And.intro rfl ?_
    intro Q
    refine run_step Fc 9 ?_
    refine And.intro rfl ?_
    refine And.intro rfl ?_
    refine cal_reversed (.tail _ (.head _)) ?_
    intro R
    refine for_rev (N0 := (Q, isL (ivs [])) :: (t37' ++ (t44 ++ rest))) (by rw [ivs_len]; exact (Pk.cons Rem.head (Pk.cons (Rem.tail Rem.head) (Pk.cons Rem.head Pk.all)))) (fun i m N => ∃ r qs, DInv n.toNat b ds i r qs ∧ Knows m [("r", .int r 0), ("q_digits", .ref Q), ("n", .int n 0), ("b", .int b 0)] ∧ N = (Q, isL (ivs qs)) :: (t37' ++ (t44 ++ rest))) (fun _ _ => rfl) ⟨0, [], DInv.zero _ _ _, ⟨rfl, rfl, rfl, rfl, trivial⟩, rfl⟩ ?turn ?done
    case turn =>
      rintro i v m N I oI lo hv hi ⟨r, qs, inv, kn, rfl⟩
      rw [ivs_len] at hv hi
      obtain ⟨d, hd, ev⟩ := ivs_get hv
      obtain ⟨s1, s2, s3, s4, s5⟩ := inv.step hb hi d hd (hv2 d (List.mem_of_getElem? hd))
      have hx2 : b * 2 ^ n.toNat ≤ 1048576 * 1048576 := Int.mul_le_mul (by omega) pn2 (by omega) (by decide)
      refine sto_name G Fc.ns_ Fc.cl_ ?_
      rw [ev]
      refine Run.knows (k := [("a_digit", .int d 0), ("r", .int r 0), ("q_digits", .ref Q), ("n", .int n 0), ("b", .int b 0)]) ⟨rfl, kn⟩ ?_
      refine run_step Fc 9 ?_
      refine And.intro rfl ?_
      refine And.intro rfl ?_
      refine bin_shl (by omega) (by omega) (by omega) ?_
      refine bin_add ?_
      refine (div_ctr c.w _ b n _ s3 (by omega) hb (by omega) (by omega)).use G rfl (by omega) (by omega) ?_
      rintro v N' ⟨t, rfl, rfl⟩
      refine ⟨t, _, _, rfl, .head _, rfl, rfl, ?_⟩
      refine run_step Fc 9 ?_
      refine And.intro rfl ?_
      refine And.intro rfl ?_
      refine get_list (.tail _ (.tail _ (.tail _ (.head _)))) PySem.F.slot_list_append PySem.F.type_list_append ?_
      refine cal_append (Pos.tail (Pos.tail (Pos.tail Pos.head))) (by rw [ivs_len, inv.2.2.1]; omega) ?_
      refine run_nil ?_
      rw [ivs_snoc]
      refine ⟨[], _, .drop .all, _, _, s5, ⟨rfl, rfl, rfl, rfl, trivial⟩, rfl⟩
    case done =>
      rintro m N ⟨r, qs, inv, kn, rfl⟩
      rw [ivs_len] at inv
      obtain ⟨q1, q2, q3, q4⟩ := inv.done
      rw [hv1] at q1 q2
      refine Run.knows kn ?_
      refine run_step Fc 9 ?_
      refine And.intro rfl ?_
      refine And.intro rfl ?_
      refine get_list (.tail _ (.head _)) PySem.F.slot_list_reverse PySem.F.type_list_reverse ?_
      refine cal_reverse (Pos.tail Pos.head) (by rw [ivs_len]; omega) ?_
      rw [ivs_rev]
      refine run_step Fc 9 ?_
      refine And.intro rfl ?_
      refine And.intro rfl ?_
      refine CalW.pick (N' := (Q, isL (ivs qs.reverse)) :: (t44 ++ (t37' ++ rest))) (.drop (.perm (List.Perm.cons _ (List.perm_append_comm_assoc _ _ _)))) ?_
      refine (d2i_ctr c.w Q qs.reverse n t44 (t37' ++ rest) hn1 (by rw [List.length_reverse, q3, hlen]; exact hK3) q4 h44).use G rfl (by omega) (by omega) ?_
      rintro v N' ⟨rfl, t44', rfl, h44'⟩
      rw [q2, q1]
      refine run_step Fc 9 ?_
      refine And.intro rfl ?_
      refine And.intro rfl ?_
      intro T
      exact ⟨(T, _) :: (t37' ++ (t44' ++ rest)), .trans (Pk.cons Rem.head (Pk.drop Pk.all)) (.perm (List.Perm.cons _ (List.perm_append_comm_assoc _ _ _))), T, t37', t44', rfl, rfl, h37', h44'⟩
end Mine
end
section
open PySem PySem.W PyProof.Rows PySem.Calls
set_option maxRecDepth 100000
namespace Mine
set_option maxHeartbeats 4000000 in
theorem idm_ctr (w : World) (a b n K : Int) (t37 t44 rest : Led) (ha : 0 ≤ a) (ha2 : a < 1099511627776) (hb : 0 < b) (hb2 : b < 1048576) (hn : (Builtin.Int.intBits b : Int) = n) (hn1 : 1 ≤ n) (hn2 : n ≤ 20) (hK : ((Builtin.Int.intBits a : Int) + n - 1).fdiv n = K) (hK2 : K ≤ 20) (hK3 : n * K ≤ 40) (h37 : Tab37 t37) (h44 : Tab44 t44) :
    Ctr w 550 2800 (.ref 63) [.int a 0, .int b 0] (t37 ++ (t44 ++ rest)) (DmOut a b rest) := by
  show (fun (_ : OpenLaw) (_ : Params → Frag) => Ctr w 550 2800 (.ref 63) [.int a 0, .int b 0] (t37 ++ (t44 ++ rest)) (DmOut a b rest)) Challenge.rw_re0116_01 Mine.hd.heap_1
  k_fill
  show Ctr w 550 2800 (.ref 63) [.int a 0, .int b 0] (t37 ++ (t44 ++ rest)) (DmOut a b rest)
  k_dflt (refine' ctr_def (binds := [("a", .int a 0), ("b", .int b 0)]) ?hk ?hcd ?hkp ?hd ?hu ?hb ?hloc ?hcell ?hco ?hgen ?hkind ?H)
  case hk => k_is
  case hcd => k_is
  case hkp => k_is
  case hd => decide
  case hu => decide
  case hb =>
    intro vals s e
    obtain ⟨v, u, rfl, h1, h2⟩ := map_two e
    exact ⟨_, BindsTo.of_eq rfl, by rw [← h1, ← h2]; rfl⟩
  case hloc => exact rfl
  case hcell => decide
  case hco => exact rfl
  case hgen => exact rfl
  case hkind => exact rfl
  case H =>
    intro c G hw hcs hcl hdp hun
    have Fc : Fn c _ [] := ⟨G, congrArg Scope.names hcs, hcl, by decide +kernel⟩
    refine run_step Fc 9 ?_
    refine And.intro rfl ?_
    refine cmp_eq ?_
    refine tru_bool ?_
    refine iteF (beq_eq_false_iff_ne.mpr (by omega)) ?_
    refine run_step Fc 9 ?_
    refine And.intro rfl ?_
    refine cmp_lt ?_
    refine tru_bool ?_
    refine iteF (decide_eq_false (by omega)) ?_
    refine run_step Fc 9 ?_
    refine And.intro rfl ?_
    refine cmp_lt ?_
    refine tru_bool ?_
    refine iteF (decide_eq_false (by omega)) ?_
    refine run_step Fc 9 ?_
    refine And.intro rfl ?_
    refine (dmp_ctr c.w a b n K t37 t44 rest ha ha2 hb hb2 hn hn1 hn2 hK hK2 hK3 h37 h44).use G rfl (by omega) (by omega) ?_
    rintro v N' h
    exact ⟨_, .all, h⟩
def DnOut (a b : Int) (rest : Led) (v : Value) (N' : Led) : Prop := ∃ t t37 t44, v = .ref t ∧ N' = (t, isT [.int (a / b) 0, .int (-(a % b)) 0]) :: (t37 ++ (t44 ++ rest)) ∧ Tab37 t37 ∧ Tab44 t44
set_option maxHeartbeats 4000000 in
theorem idn_ctr (w : World) (a b n K : Int) (t37 t44 rest : Led) (ha : 0 ≤ a) (ha2 : a < 1099511627776) (hb : 0 < b) (hb2 : b < 1048576) (hn : (Builtin.Int.intBits b : Int) = n) (hn1 : 1 ≤ n) (hn2 : n ≤ 20) (hK : ((Builtin.Int.intBits a : Int) + n - 1).fdiv n = K) (hK2 : K ≤ 20) (hK3 : n * K ≤ 40) (h37 : Tab37 t37) (h44 : Tab44 t44) :
    Ctr w 500 2600 (.ref 63) [.int (-a) 0, .int (-b) 0] (t37 ++ (t44 ++ rest)) (DnOut a b rest) := by
  show (fun (_ : OpenLaw) (_ : Params → Frag) => Ctr w 500 2600 (.ref 63) [.int (-a) 0, .int (-b) 0] (t37 ++ (t44 ++ rest)) (DnOut a b rest)) Challenge.rw_re0116_01 Mine.hd.heap_1
  k_fill
  show Ctr w 500 2600 (.ref 63) [.int (-a) 0, .int (-b) 0] (t37 ++ (t44 ++ rest)) (DnOut a b rest)
  k_dflt (refine' ctr_def (binds := [("a", .int (-a) 0), ("b", .int (-b) 0)]) ?hk ?hcd ?hkp ?hd ?hu ?hb ?hloc ?hcell ?hco ?hgen ?hkind ?H)
  case hk => k_is
  case hcd => k_is
  case hkp => k_is
  case hd => decide
  case hu => decide
  case hb =>
    intro vals s e
    obtain ⟨v, u, rfl, h1, h2⟩ := map_two e
    exact ⟨_, BindsTo.of_eq rfl, by rw [← h1, ← h2]; rfl⟩
  case hloc => exact rfl
  case hcell => decide
  case hco => exact rfl
  case hgen => exact rfl
  case hkind => exact rfl
  case H =>
    intro c G hw hcs hcl hdp hun
    have Fc : Fn c _ [] := ⟨G, congrArg Scope.names hcs, hcl, by decide +kernel⟩
    refine run_step Fc 9 ?_
    refine And.intro rfl ?_
    refine cmp_eq ?_
    refine tru_bool ?_
    refine iteF (beq_eq_false_iff_ne.mpr (by omega)) ?_
    refine run_step Fc 9 ?_
    refine And.intro rfl ?_
    refine cmp_lt ?_
    refine tru_bool ?_
    refine iteT (decide_eq_true (by omega)) ?_
    refine run_step Fc 9 ?_
    refine And.intro rfl ?_
    refine And.intro rfl ?_
    refine un_neg ?_
    refine un_neg ?_
    rw [Int.neg_neg, Int.neg_neg]
    refine (idm_ctr c.w a b n K t37 t44 rest ha ha2 hb hb2 hn hn1 hn2 hK hK2 hK3 h37 h44).use G rfl (by omega) (by omega) ?_
    rintro v N' ⟨t, t37', t44', rfl, rfl, h37', h44'⟩
    refine ⟨t, _, _, rfl, .head _, rfl, rfl, ?_⟩
    refine run_step Fc 9 ?_
    refine And.intro rfl ?_
    refine un_neg ?_
    refine And.intro rfl ?_
    intro T
    exact ⟨_, (Pk.cons Rem.head (Pk.drop Pk.all)), T, t37', t44', rfl, rfl, h37', h44'⟩
end Mine
end
section
open PySem
namespace Mine
def bits3 (r : Int) : List Int := [r % 2, r / 2 % 2, r / 4 % 2]
def padF (e : Nat) (r : Int) : List Int := List.replicate e 0 ++ bits3 r
def tailR (r : Int) : List Int := ((bits3 r).drop ((bits3 r).idxOf 1 + 1)).reverse
def oneOf (t8 : Int) : Str := if 0 < t8 then Str.ofString "b" else Str.ofString "a"
def otherOf (t8 : Int) : Str := if 0 < t8 then Str.ofString "a" else Str.ofString "b"
def absI (t8 : Int) : Int := if 0 < t8 then t8 else -t8
def bitsK (n a : Int) : Int := ((Builtin.Int.intBits a : Int) + n - 1).fdiv n
theorem ans_facts1 : ∀ e : Nat, e < 17 → (Builtin.Int.intBits ((2 : Int) ^ (e + 3)) : Int) = e + 4 ∧ ∀ A : Nat, A < 65 → bitsK (e + 4) ((A : Int) * 2 ^ e) ≤ 2 := by decide +kernel
def ansB (e r : Nat) : Bool :=
  let K := bitsK 1 ((r : Int) * 2 ^ e)
  decide (0 ≤ K) && decide (K ≤ (e : Int) + 3) && (decide (K = 0) == decide (r = 0)) && decide ((List.range K.toNat).map (fun i : Nat => dg 1 ((r : Int) * 2 ^ e) i) ++ List.replicate ((e : Int) + 3 - K).toNat 0 = padF e r)
def ansC (e r : Nat) : Bool :=
  decide (r = 0) || ((padF e r).contains 1 && decide (((padF e r).drop ((padF e r).idxOf 1 + 1)).reverse = tailR r) && PyData.layable0 (.list ((padF e r).map .int)))
theorem ans_facts2 : ∀ e : Nat, e < 17 → ∀ r : Nat, r < 8 → (ansB e r && ansC e r) = true := by decide +kernel
theorem digits_eq {n a K : Int} {ds : List Int} (h : Digits n a K ds) (hK : 0 ≤ K) : ds = (List.range K.toNat).map (fun i : Nat => dg n a i) := by
  refine List.ext_getElem? fun i => ?_
  rw [List.getElem?_map]
  by_cases hi : i < K.toNat
  · rw [List.getElem?_range hi]
    have h2 := h.2 i
    rw [if_pos (by omega)] at h2
    have hl : i < ds.length := by rw [h.1]; exact hi
    rw [List.getElem?_eq_getElem hl]
    rw [List.getD_eq_getElem?_getD, List.getElem?_eq_getElem hl, Option.getD_some] at h2
    rw [h2]; rfl
  · rw [List.getElem?_eq_none (by rw [h.1]; omega), List.getElem?_eq_none (by rw [List.length_range]; omega)]
    rfl
theorem absI_le {t8 : Int} (h : -64 ≤ t8) (h' : t8 ≤ 64) : 0 ≤ absI t8 ∧ absI t8 ≤ 64 := by unfold absI; split <;> omega
theorem scale_div (A : Int) (e : Nat) : A * 2 ^ e / 2 ^ (e + 3) = A / 8 ∧ A * 2 ^ e % 2 ^ (e + 3) = A % 8 * 2 ^ e := by
  have p := two_pow_pos e
  have e8 : (2 : Int) ^ (e + 3) = 8 * 2 ^ e := by rw [Int.pow_add, Int.mul_comm]; rfl
  rw [e8]
  exact ⟨Int.mul_ediv_mul_of_pos_left _ _ p, by rw [Int.mul_comm A, Int.mul_comm 8, Int.mul_emod_mul_of_pos _ _ p, Int.mul_comm]⟩
end Mine
end
section
open PySem PySem.W PyProof.Rows PySem.Calls
set_option maxRecDepth 100000
namespace Mine
def AnsOut (x : Str) (rest : Led) (v : Value) (N' : Led) : Prop := v = .str x 0 ∧ ∃ t37 t44, N' = t37 ++ (t44 ++ rest) ∧ Tab37 t37 ∧ Tab44 t44
def ansOf (t8 : Int) : Str :=
  if absI t8 % 8 = 0 then mulS (oneOf t8) (absI t8 / 8)
  else mulS (oneOf t8) (absI t8 / 8) ++ oneOf t8 ++ otherOf t8 ++ Txt.join (Str.ofString "") ((tailR (absI t8 % 8)).map fun b => if b = 1 then oneOf t8 else otherOf t8)
def lenB (A : Nat) : Bool := [Str.ofString "a", Str.ofString "b"].all fun one => decide ((mulS one ((A : Int) / 8)).length ≤ 8) && [Str.ofString "a", Str.ofString "b"].all fun other => decide (((tailR ((A : Int) % 8)).map fun b => if b = 1 then one else other).length ≤ 3) && decide ((((tailR ((A : Int) % 8)).map fun b => if b = 1 then one else other).map (·.length)).sum ≤ 3) && decide ((Txt.join (Str.ofString "") ((tailR ((A : Int) % 8)).map fun b => if b = 1 then one else other)).length ≤ 3)
theorem len_facts : ∀ A : Nat, A < 65 → lenB A = true := by decide +kernel
theorem oneOf_mem (t8 : Int) : oneOf t8 ∈ [Str.ofString "a", Str.ofString "b"] ∧ otherOf t8 ∈ [Str.ofString "a", Str.ofString "b"] ∧ (oneOf t8).length = 1 ∧ (otherOf t8).length = 1 := by
  unfold oneOf otherOf
  split
  · exact ⟨.tail _ (.head _), .head _, rfl, rfl⟩
  · exact ⟨.head _, .tail _ (.head _), rfl, rfl⟩
theorem perm_blk (A B L R : Led) : (L ++ (A ++ (B ++ R))).Perm (A ++ (B ++ (L ++ R))) := (List.perm_append_comm_assoc L A _).trans (List.Perm.append_left A (List.perm_append_comm_assoc L B R))
def restOf (t8 : Int) (e : Nat) : Int := if 0 < t8 then absI t8 % 8 * 2 ^ e else -(absI t8 % 8 * 2 ^ e)
theorem rest_abs (t8 : Int) (e : Nat) : (if restOf t8 e < 0 then -restOf t8 e else restOf t8 e) = absI t8 % 8 * 2 ^ e := by
  have p := two_pow_pos e
  have h : 0 ≤ absI t8 % 8 * 2 ^ e := Int.mul_nonneg (Int.emod_nonneg _ (by decide)) (Int.le_of_lt p)
  unfold restOf
  split <;> split <;> omega
set_option maxHeartbeats 4000000 in
theorem ans_ctr (w : World) (t8 : Int) (e : Nat) (t37 t44 rest : Led) (h8 : -64 ≤ t8) (h8' : t8 ≤ 64) (he : e < 17) (h37 : Tab37 t37) (h44 : Tab44 t44) :
    Ctr w 480 2500 (.ref 173) [.int (t8 * 2 ^ e) 0, .int (e + 3) 0] (t37 ++ (t44 ++ rest)) (AnsOut (ansOf t8) rest) := by
  show (fun (_ : OpenLaw) (_ : Params → Frag) => Ctr w 480 2500 (.ref 173) [.int (t8 * 2 ^ e) 0, .int (e + 3) 0] (t37 ++ (t44 ++ rest)) (AnsOut (ansOf t8) rest)) Challenge.rw_re0116_01 Mine.hd.heap_1
  k_fill
  show Ctr w 480 2500 (.ref 173) [.int (t8 * 2 ^ e) 0, .int (e + 3) 0] (t37 ++ (t44 ++ rest)) (AnsOut (ansOf t8) rest)
  k_dflt (refine' ctr_defC (binds := [("total", .int (t8 * 2 ^ e) 0), ("width", .int (e + 3) 0)]) ?hk ?hcd ?hkp ?hd ?hu ?hb ?hloc ?hcell ?hco ?hgen ?hkind ?H)
  case hk => k_is
  case hcd => k_is
  case hkp => k_is
  case hd => decide
  case hu => decide
  case hb =>
    intro vals s e
    obtain ⟨v, u, rfl, h1, h2⟩ := map_two e
    exact ⟨_, BindsTo.of_eq rfl, by rw [← h1, ← h2]; rfl⟩
  case hloc => exact rfl
  case hcell => decide +kernel
  case hco => exact rfl
  case hgen => exact rfl
  case hkind => exact rfl
  case H =>
    intro c G hw hcn hcs hccd hcl hdp hun
    show Run c erF (execs _ c.env) [("width", .int ((e : Int) + 3) 0), ("total", .int (t8 * 2 ^ e) 0)] ((c.L + 1 + 1, isCell none) :: (c.L + 1, isCell none) :: (t37 ++ (t44 ++ rest))) _
    have Fc : Fn c _ [("other", c.L + 1 + 1), ("one", c.L + 1)] := ⟨G, congrArg Scope.names hcs, hcl.trans rfl, by decide +kernel⟩
    obtain ⟨A0, A64⟩ := absI_le h8 h8'
    obtain ⟨m1, m2, m3, m4⟩ := oneOf_mem t8
    have p2 := two_pow_pos e
    have eW : ((e : Int) + 3).toNat = e + 3 := by omega
    have hun2 : (2 : Int) ^ (e + 3) ≤ 524288 := by
      have : (2 : Int) ^ (e + 3) ≤ 2 ^ 19 := by exact_mod_cast Nat.pow_le_pow_right (by decide : 0 < 2) (by omega : e + 3 ≤ 19)
      exact this
    have hp3 := two_pow_pos (e + 3)
    have hA1 : absI t8 * 2 ^ e ≤ 64 * 65536 := Int.mul_le_mul A64 (by
      have : (2 : Int) ^ e ≤ 2 ^ 16 := by exact_mod_cast Nat.pow_le_pow_right (by decide : 0 < 2) (by omega : e ≤ 16)
      exact this) (Int.le_of_lt p2) (by decide)
    have hA0 : 0 ≤ absI t8 * 2 ^ e := Int.mul_nonneg A0 (Int.le_of_lt p2)
    obtain ⟨f1, f2⟩ := ans_facts1 e he
    have f3 := f2 (absI t8).toNat (by omega)
    rw [Int.toNat_of_nonneg A0] at f3
    obtain ⟨s1, s2⟩ := scale_div (absI t8) e
    have hsign : (0 < t8 ∧ t8 = absI t8) ∨ (¬ 0 < t8 ∧ t8 = -absI t8) := by unfold absI; split <;> omega
    refine run_stepP Fc 9 (fun m N => Knows m [("unit", .int (if 0 < t8 then 2 ^ (e + 3) else -(2 ^ (e + 3))) 0), ("width", .int ((e : Int) + 3) 0), ("total", .int (t8 * 2 ^ e) 0)] ∧ ∃ x, N = x :: (c.L + 1 + 1, isCell (some (.str (otherOf t8) 0))) :: (c.L + 1, isCell (some (.str (oneOf t8) 0))) :: (t37 ++ (t44 ++ rest))) ?s1 ?s2
    case s1 =>
      refine And.intro rfl ?_
      refine cmp_gt ?_
      refine tru_bool ?_
      refine And.intro ?_ ?_
      · intro z
        have z : 0 < t8 := by
          rw [decide_eq_true_eq] at z
          rcases hsign with h | h
          · exact h.1
          · have := h.2
            rw [this, Int.neg_mul] at z
            omega
        refine run_step Fc 9 ?_
        refine And.intro rfl ?_
        refine And.intro rfl ?_
        refine bin_shl (by omega) (by omega) (by decide) ?_
        refine And.intro rfl ?_
        intro T
        refine ⟨T, _, _, rfl, .head _, rfl, rfl, ?_⟩
        refine Exists.intro _ (Exists.intro _ (And.intro (Pos.tail (Pos.tail Pos.head)) ?_))
        refine Exists.intro _ (Exists.intro _ (And.intro (Pos.tail Pos.head) ?_))
        refine run_nil ⟨⟨?_, rfl, rfl, trivial⟩, ?_⟩
        · rw [if_pos z, ← eW]
          show some (Value.int (1 * 2 ^ ((e : Int) + 3).toNat) 0) = _
          rw [Int.one_mul]
        · unfold otherOf oneOf
          rw [if_pos z, if_pos z]
          exact ⟨_, rfl⟩
      · intro z
        have z : ¬ 0 < t8 := by
          rw [decide_eq_false_iff_not] at z
          rcases hsign with h | h
          · intro h0
            exact z (Int.mul_pos h0 p2)
          · exact h.1
        refine run_step Fc 9 ?_
        refine And.intro rfl ?_
        refine And.intro rfl ?_
        refine bin_shl (by omega) (by omega) (by decide) ?_
        refine un_neg ?_
        refine And.intro rfl ?_
        intro T
        refine ⟨T, _, _, rfl, .head _, rfl, rfl, ?_⟩
        refine Exists.intro _ (Exists.intro _ (And.intro (Pos.tail (Pos.tail Pos.head)) ?_))
        refine Exists.intro _ (Exists.intro _ (And.intro (Pos.tail Pos.head) ?_))
        refine run_nil ⟨⟨?_, rfl, rfl, trivial⟩, ?_⟩
        · rw [if_neg z, ← eW]
          show some (Value.int (-(1 * 2 ^ ((e : Int) + 3).toNat)) 0) = _
          rw [Int.one_mul]
        · unfold otherOf oneOf
          rw [if_neg z, if_neg z]
          exact ⟨_, rfl⟩
    case s2 =>
      rintro m N ⟨kn, x, rfl⟩
      refine Run.knows kn ?_
      have b40 : ((e : Int) + 4) * bitsK (e + 4) (absI t8 * 2 ^ e) ≤ 40 := by
        have hk0 := (bits_fill (n := (e : Int) + 4) (a := absI t8 * 2 ^ e) (K := bitsK (e + 4) (absI t8 * 2 ^ e)) (by omega) hA0 rfl).2.2
        have := Int.mul_le_mul (show (e : Int) + 4 ≤ 20 by omega) f3 hk0 (by decide)
        omega
      refine run_stepP Fc 9 (fun m N => Knows m [("rest", .int (restOf t8 e) 0), ("whole", .int (absI t8 / 8) 0), ("width", .int ((e : Int) + 3) 0)] ∧ ∃ t37 t44, Pk N ((c.L + 1 + 1, isCell (some (.str (otherOf t8) 0))) :: (c.L + 1, isCell (some (.str (oneOf t8) 0))) :: (t37 ++ (t44 ++ rest))) ∧ Tab37 t37 ∧ Tab44 t44) ?t1 ?t2
      case t1 =>
        refine And.intro rfl ?_
        refine And.intro rfl ?_
        refine CalW.pick (N' := t37 ++ (t44 ++ ((c.L + 1 + 1, isCell (some (.str (otherOf t8) 0))) :: (c.L + 1, isCell (some (.str (oneOf t8) 0))) :: rest))) (.drop (.perm (perm_blk t37 t44 [_, _] rest).symm)) ?_
        · rcases hsign with h | h
          · rw [if_pos h.1, show t8 * 2 ^ e = absI t8 * 2 ^ e by rw [← h.2]]
            refine (idm_ctr c.w _ _ (e + 4) _ t37 t44 _ hA0 (by omega) hp3 (by omega) f1 (by omega) (by omega) rfl (Int.le_trans f3 (by decide)) b40 h37 h44).use G rfl (by omega) (by omega) ?_
            rintro v N' ⟨t, t37', t44', rfl, rfl, h37', h44'⟩
            rw [s1, s2]
            refine ⟨t, _, _, rfl, .head _, rfl, rfl, ?_⟩
            refine ⟨⟨?_, rfl, rfl, trivial⟩, ?_⟩
            · unfold restOf; rw [if_pos h.1]; rfl
            · exact ⟨t37', t44', .drop (.perm (perm_blk t37' t44' [_, _] rest)), h37', h44'⟩
          · rw [if_neg h.1, show t8 * 2 ^ e = -(absI t8 * 2 ^ e) by rw [← Int.neg_mul, ← h.2]]
            refine (idn_ctr c.w _ _ (e + 4) _ t37 t44 _ hA0 (by omega) hp3 (by omega) f1 (by omega) (by omega) rfl (Int.le_trans f3 (by decide)) b40 h37 h44).use G rfl (by omega) (by omega) ?_
            rintro v N' ⟨t, t37', t44', rfl, rfl, h37', h44'⟩
            rw [s1, s2]
            refine ⟨t, _, _, rfl, .head _, rfl, rfl, ?_⟩
            refine ⟨⟨?_, rfl, rfl, trivial⟩, ?_⟩
            · unfold restOf; rw [if_neg h.1]; rfl
            · exact ⟨t37', t44', .drop (.perm (perm_blk t37' t44' [_, _] rest)), h37', h44'⟩
      case t2 =>
        clear kn
        rintro m N ⟨kn, t37, t44, pk, h37, h44⟩
        refine Run.pick pk ?_
        refine Run.knows kn ?_
        have r0 : 0 ≤ absI t8 % 8 := Int.emod_nonneg _ (by decide)
        have r1 : absI t8 % 8 < 8 := Int.emod_lt_of_pos _ (by decide)
        have h0 : 0 ≤ absI t8 % 8 * 2 ^ e := Int.mul_nonneg r0 (Int.le_of_lt p2)
        have h1 : absI t8 % 8 * 2 ^ e ≤ 8 * 65536 := Int.mul_le_mul (by omega) (by
          have : (2 : Int) ^ e ≤ 2 ^ 16 := by exact_mod_cast Nat.pow_le_pow_right (by decide : 0 < 2) (by omega : e ≤ 16)
          exact this) (Int.le_of_lt p2) (by decide)
        have fB := ans_facts2 e he (absI t8 % 8).toNat (by omega)
        have lB := len_facts (absI t8).toNat (by omega)
        unfold ansB ansC at fB
        unfold lenB at lB
        rw [Int.toNat_of_nonneg r0] at fB
        rw [Int.toNat_of_nonneg A0] at lB
        simp only [Bool.and_eq_true, decide_eq_true_eq, Bool.or_eq_true, beq_iff_eq, List.contains_iff_mem, decide_eq_decide] at fB
        obtain ⟨⟨⟨⟨g1, g2⟩, g3⟩, g4⟩, g5⟩ := fB
        have lB := List.all_eq_true.mp lB _ m1
        rw [Bool.and_eq_true, decide_eq_true_eq] at lB
        obtain ⟨l1, lB⟩ := lB
        have lB := List.all_eq_true.mp lB _ m2
        simp only [Bool.and_eq_true, decide_eq_true_eq] at lB
        obtain ⟨⟨l2, l3⟩, l4⟩ := lB
        refine run_step Fc 9 ?_
        refine And.intro rfl ?_
        refine And.intro rfl ?_
        refine And.intro rfl ?_
        refine cal_abs ?_
        rw [rest_abs]
        refine CalW.pick (N' := t37 ++ (t44 ++ ((c.L + 1 + 1, isCell (some (.str (otherOf t8) 0))) :: (c.L + 1, isCell (some (.str (oneOf t8) 0))) :: rest))) (.perm (perm_blk t37 t44 [_, _] rest).symm) ?_
        refine (i2d_ctr c.w _ 1 _ t37 _ h0 (by omega) (by decide) (by decide) rfl (by show bitsK 1 _ ≤ 20; omega) h37).use G rfl (by omega) (by omega) ?_
        rintro v N' ⟨D, ds, t37', rfl, rfl, hds, h37'⟩
        have eds := digits_eq hds g1
        refine Run.pick (N' := (D, _) :: (c.L + 1 + 1, isCell (some (.str (otherOf t8) 0))) :: (c.L + 1, isCell (some (.str (oneOf t8) 0))) :: (t37' ++ (t44 ++ rest))) (.perm ((perm_blk t37' t44 [_, _] rest).cons _)) ?_
        have eds : ds = (List.range (bitsK 1 (absI t8 % 8 * 2 ^ e)).toNat).map (fun i : Nat => dg 1 (absI t8 % 8 * 2 ^ e) i) := eds
        have hlen : (ds.length : Int) = bitsK 1 (absI t8 % 8 * 2 ^ e) := by rw [eds, List.length_map, List.length_range]; omega
        rw [← eds, ← hlen] at g4
        refine run_step Fc 9 ?_
        refine And.intro rfl ?_
        refine And.intro rfl ?_
        refine And.intro rfl ?_
        intro E
        refine cmp_eq_ints G (ns := ds) (ms := []) (.tail _ (.head _)) (.head _) ?_
        refine tru_bool ?_
        refine And.intro ?_ ?_
        · intro z
          have z : ds = [] := of_decide_eq_true z
          rw [z] at hlen
          have hr0 : absI t8 % 8 = 0 := by
            have := g3.mp hlen.symm
            omega
          refine run_step Fc 9 ?_
          refine Exists.intro _ (And.intro (.tail _ (.tail _ (.tail _ (.head _)))) ?_)
          refine bin_strmul (by rw [m3]; decide) (by omega) (by omega) ?_
          refine ⟨_, (Pk.drop (Pk.drop (Pk.drop (Pk.drop Pk.all)))), ?_, t37', t44, rfl, h37', h44⟩
          unfold ansOf
          rw [if_pos hr0]
          rfl
        · intro z
          have z : ds ≠ [] := of_decide_eq_false z
          have hr0 : absI t8 % 8 ≠ 0 := fun q => z (List.eq_nil_of_length_eq_zero (by
            have := g3.mpr (by omega)
            omega))
          rcases g5 with g5 | g5
          · exact absurd g5 (by omega)
          obtain ⟨⟨g5, g6⟩, g7⟩ := g5
          refine run_nil ?_
          refine run_step Fc 9 ?_
          refine And.intro rfl ?_
          refine And.intro rfl ?_
          refine And.intro rfl ?_
          intro Z
          refine And.intro rfl ?_
          refine cal_len_list (.tail _ (.tail _ (.head _))) (by rw [ivs_len]; omega) ?_
          rw [ivs_len]
          refine bin_sub ?_
          refine bin_rep (.head _) (by omega) (by omega) ?_
          intro R
          refine bin_addlist (.tail _ (.tail _ (.tail _ (.head _)))) (.head _) (by rw [ivs_len, List.length_replicate]; omega) ?_
          intro F
          rw [show ivs ds ++ List.replicate ((e : Int) + 3 - ds.length).toNat (Value.int 0 0) = ivs (padF e (absI t8 % 8)) by rw [← g4]; unfold ivs; rw [List.map_append, List.map_replicate]]
          refine Run.pick (N' := (F, isL (ivs (padF e (absI t8 % 8)))) :: (c.L + 1 + 1, isCell (some (.str (otherOf t8) 0))) :: (c.L + 1, isCell (some (.str (oneOf t8) 0))) :: (t37' ++ (t44 ++ rest))) (Pk.cons Rem.head (Pk.drop (Pk.drop (Pk.drop (Pk.drop Pk.all))))) ?_
          have hpl : (padF e (absI t8 % 8)).length = e + 3 := by unfold padF bits3; rw [List.length_append, List.length_replicate]; rfl
          refine run_step Fc 9 ?_
          refine And.intro rfl ?_
          refine And.intro rfl ?_
          refine get_list (.head _) PySem.F.slot_list_index PySem.F.type_list_index ?_
          refine cal_index (ns := padF e (absI t8 % 8)) (.head _) g7 g5 ?_
          refine bin_add ?_
          refine subS_list (lo := some _) (hi := none) (st := none) (.head _) (by rw [ivs_len]; omega) (by decide) (fun q => ⟨_, rfl⟩) (fun r => rfl) ?_
          intro B
          have eB : lsl (ivs (padF e (absI t8 % 8))) (some ((((padF e (absI t8 % 8)).idxOf 1 : Nat) : Int) + 1)) none none = ivs (tailR (absI t8 % 8)).reverse := by
            unfold lsl
            rw [show (((padF e (absI t8 % 8)).idxOf 1 : Nat) : Int) + 1 = (((padF e (absI t8 % 8)).idxOf 1 + 1 : Nat) : Int) by omega, slicePick_from', ← g6, List.reverse_reverse]
            unfold ivs
            rw [List.map_drop]
          rw [eB]
          refine run_step Fc 9 ?_
          refine Exists.intro _ (And.intro (.tail _ (.tail _ (.tail _ (.head _)))) ?_)
          refine bin_strmul (by rw [m3]; decide) (by omega) (by omega) ?_
          refine Exists.intro _ (And.intro (.tail _ (.tail _ (.tail _ (.head _)))) ?_)
          refine bin_addstr (by omega) ?_
          refine Exists.intro _ (And.intro (.tail _ (.tail _ (.head _))) ?_)
          have lx1 : (mulS (oneOf t8) (absI t8 / 8) ++ oneOf t8).length ≤ 9 := by
            show ((mulS (oneOf t8) (absI t8 / 8)).cps ++ (oneOf t8).cps).size ≤ 9
            rw [Array.size_append]
            have q1 : (mulS (oneOf t8) (absI t8 / 8)).cps.size ≤ 8 := l1
            have q2 : (oneOf t8).cps.size = 1 := m3
            omega
          refine bin_addstr (by omega) ?_
          have lx2 : (mulS (oneOf t8) (absI t8 / 8) ++ oneOf t8 ++ otherOf t8).length ≤ 10 := by
            show ((mulS (oneOf t8) (absI t8 / 8) ++ oneOf t8).cps ++ (otherOf t8).cps).size ≤ 10
            rw [Array.size_append]
            have q1 : (mulS (oneOf t8) (absI t8 / 8) ++ oneOf t8).cps.size ≤ 9 := lx1
            have q2 : (otherOf t8).cps.size = 1 := m4
            omega
          refine And.intro rfl ?_
          refine get_str PySem.F.slot_str_join PySem.F.type_str_join ?_
          refine run_comp (cl := [("other", c.L + 1 + 1), ("one", c.L + 1)]) ?clos rfl (by decide) rfl ?_
          case clos => (show closureFor _ (envX c.cn c.cs c.L c.a c.ccd c.cl) = _; rw [hcl]; exact rfl)
          refine vE_sound G Fc.ns_ Fc.cl_ Fc.plain 9 _ _ _ _ ?_
          refine un_neg ?_
          refine subS_list (lo := none) (hi := none) (st := some (-1)) (.head _) (by rw [ivs_len, List.length_reverse]; have := congrArg List.length g6; rw [List.length_reverse, List.length_drop] at this; omega) (by decide) (fun q => ⟨_, rfl⟩) (fun r => rfl) ?_
          intro V
          rw [show lsl (ivs (tailR (absI t8 % 8)).reverse) none none (some (-1)) = ivs (tailR (absI t8 % 8)) by
            unfold lsl
            rw [krv_pick]
            unfold ivs
            rw [List.map_reverse]
            exact List.reverse_reverse _]
          have hR : (tailR (absI t8 % 8)).length ≤ 3 := by rw [List.length_map] at l2; exact l2
          refine comp_list (ns := [(".0", .local), ("figure", .local), ("one", .cell), ("other", .cell)]) ?FC .all (svs ((tailR (absI t8 % 8)).map fun b => if b = 1 then oneOf t8 else otherOf t8)) (by unfold svs ivs; rw [List.length_map, List.length_map, List.length_map]) (by rw [ivs_len]; omega) rfl ?turn ?done
          case FC => exact ⟨G, by (show (relabel _ (envX c.cn c.cs c.L c.a c.ccd c.cl)).names = _; rw [hcs]; exact rfl), by (show closureFor _ (envX c.cn c.cs c.L c.a c.ccd c.cl) = _; rw [hcl]; exact rfl), rfl, by decide, rfl⟩
          case turn =>
            intro i u C mm D ys I oI lo hu
            obtain ⟨d, hd, rfl⟩ := ivs_get hu
            refine And.intro rfl ?_
            refine ⟨_, _, .head _, rfl, ?_⟩
            refine cmp_eq ?_
            refine tru_bool ?_
            have hy : ∀ y : Str, (if d = 1 then oneOf t8 else otherOf t8) = y → (svs ((tailR (absI t8 % 8)).map fun b => if b = 1 then oneOf t8 else otherOf t8))[i]? = some (.str y 0) := by
              intro y h
              unfold svs
              rw [List.getElem?_map, List.getElem?_map, hd, ← h]
              rfl
            refine And.intro ?_ ?_
            · intro z
              refine Exists.intro _ (And.intro (.tail _ (.tail _ (.tail _ (.tail _ (.tail _ (.tail _ (.tail _ (.head _)))))))) ?_)
              exact ⟨rfl, hy _ (if_pos (eq_of_beq z)), _, .all⟩
            · intro z
              refine Exists.intro _ (And.intro (.tail _ (.tail _ (.tail _ (.tail _ (.tail _ (.tail _ (.head _))))))) ?_)
              exact ⟨rfl, hy _ (if_neg fun q => by rw [q] at z; cases z), _, .all⟩
          case done =>
            intro J
            refine cal_join (.head _) (by rw [show (Str.ofString "").length = 0 from rfl]; omega) ?_
            refine bin_addstr (by omega) ?_
            refine ⟨_, (Pk.drop (Pk.drop (Pk.drop (Pk.drop (Pk.drop (Pk.drop Pk.all)))))), ?_, t37', t44, rfl, h37', h44⟩
            unfold ansOf
            rw [if_neg hr0]
            rfl
end Mine
end
section
open PySem PySem.W PyProof.Rows PySem.Calls
set_option maxRecDepth 100000
namespace Mine
def WoOut (x : Str) (e : Nat) (rest : Led) (v : Value) (N' : Led) : Prop := v = .int (worth8 x * 2 ^ e) 0 ∧ ∃ t44, N' = t44 ++ rest ∧ Tab44 t44
set_option maxHeartbeats 4000000 in
theorem worth_ctr (w : World) (x : Str) (e : Nat) (t44 rest : Led) (hx : x ∈ fronts) (he : e < 17) (h44 : Tab44 t44) :
    Ctr w 480 2000 (.ref 168) [.str x 0, .int (e + 3) 0] (t44 ++ rest) (WoOut x e rest) := by
  show (fun (_ : OpenLaw) (_ : Params → Frag) => Ctr w 480 2000 (.ref 168) [.str x 0, .int (e + 3) 0] (t44 ++ rest) (WoOut x e rest)) Challenge.rw_re0116_01 Mine.hd.heap_1
  k_fill
  show Ctr w 480 2000 (.ref 168) [.str x 0, .int (e + 3) 0] (t44 ++ rest) (WoOut x e rest)
  have ok := List.all_eq_true.mp fronts_ok x hx
  unfold frontOk stripB at ok
  simp only [Bool.and_eq_true, decide_eq_true_eq, Bool.or_eq_true] at ok
  obtain ⟨⟨⟨h1, h2⟩, h3⟩, h4⟩ := ok
  k_dflt (refine' ctr_def (binds := [("stalk", .str x 0), ("width", .int (e + 3) 0)]) ?hk ?hcd ?hkp ?hd ?hu ?hb ?hloc ?hcell ?hco ?hgen ?hkind ?H)
  case hk => k_is
  case hcd => k_is
  case hkp => k_is
  case hd => decide
  case hu => decide
  case hb =>
    intro vals s e
    obtain ⟨v, u, rfl, h1, h2⟩ := map_two e
    exact ⟨_, BindsTo.of_eq rfl, by rw [← h1, ← h2]; rfl⟩
  case hloc => exact rfl
  case hcell => decide
  case hco => exact rfl
  case hgen => exact rfl
  case hkind => exact rfl
  case H =>
    intro c G hw hcs hcl hdp hun
    have Fc : Fn c _ [] := ⟨G, congrArg Scope.names hcs, hcl, by decide +kernel⟩
    have eW : ((e : Int) + 3).toNat = e + 3 := by omega
    refine run_step Fc 9 ?_
    refine And.intro rfl ?_
    refine sub_item (by omega) (by omega) (by omega) (fun t u => rfl) (fun t r => rfl) ?_
    refine run_asgR Fc rfl ?_
    refine run_replace Fc rfl rfl rfl rfl rfl (by omega) (by decide) (by decide) (by decide) ?_ ?_
    · show (writOf x).length ≤ 2000
      omega
    show vSto _ _ _ (Value.str (writOf x) 0) _ _ _
    refine run_stepP Fc 9 (fun m N => Knows m [("worth", .int (mag8 x * 2 ^ e) 0), ("like", .str (likeOf x) 0)] ∧ ∃ t44, Pk N (t44 ++ rest) ∧ Tab44 t44) ?s1 ?s2
    case s1 =>
      refine And.intro rfl ?_
      refine cmp_in_str ?_
      refine tru_bool ?_
      refine And.intro ?_ ?_
      · intro z
        have hnd : noDot x = false := by
          unfold noDot
          rw [Bool.not_eq_true'] at z
          exact z
        rcases h4 with h4 | h4
        · rw [hnd] at h4; cases h4
        obtain ⟨⟨⟨hs, hb⟩, hf⟩, hb2⟩ := h4
        obtain ⟨⟨⟨⟨hs1, hs2⟩, hs3⟩, hs4⟩, hs5⟩ := hs
        refine run_step Fc 9 ?_
        refine And.intro rfl ?_
        refine And.intro rfl ?_
        refine (strip_ctr c.w (writOf x) _ ⟨hs1, hs2, hs3, hs4, hs5⟩).use G rfl (by omega) (by omega) ?_
        rintro v N' ⟨rfl, rfl⟩
        refine run_step Fc 9 ?_
        refine And.intro rfl ?_
        refine And.intro rfl ?_
        refine And.intro rfl ?_
        intro D
        refine run_step Fc 9 ?_
        refine And.intro rfl ?_
        refine un_neg ?_
        refine sub_rev (by omega) (fun t q => ⟨_, rfl⟩) (fun t r => rfl) ?_
        have hrl : (revOf (stripOf (writOf x))).cps.size ≤ 10 := by
          have q : (revOf (stripOf (writOf x))).length = (stripOf (writOf x)).length := step_rev_len _ _
          have q2 : (revOf (stripOf (writOf x))).cps.size = (revOf (stripOf (writOf x))).length := rfl
          omega
        refine for_str (fun i m N => Knows m [("figures", .ref D), ("behind", .str (stripOf (writOf x)) 0), ("writing", .str (writOf x) 0), ("like", .str (likeOf x) 0), ("width", .int (e + 3) 0)] ∧ N = (D, isL (ivs (1 :: ((revOf (stripOf (writOf x))).cps.toList.take i).map (bitOf (likeOf x))))) :: (t44 ++ rest)) (fun _ _ => rfl) ⟨⟨rfl, rfl, rfl, rfl, rfl, trivial⟩, rfl⟩ ?turn ?done
        case turn =>
          rintro i ch v m N I oI hc ev ⟨kn, rfl⟩
          refine sto_name G Fc.ns_ Fc.cl_ ?_
          rw [ev]
          refine Run.knows (k := [("letter", .str ⟨#[ch]⟩ 0), ("figures", .ref D), ("behind", .str (stripOf (writOf x)) 0), ("writing", .str (writOf x) 0), ("like", .str (likeOf x) 0), ("width", .int (e + 3) 0)]) ⟨rfl, kn⟩ ?_
          have hi : i < (revOf (stripOf (writOf x))).cps.size := (Array.getElem?_eq_some_iff.mp hc).1
          have hlen : (ivs (1 :: ((revOf (stripOf (writOf x))).cps.toList.take i).map (bitOf (likeOf x)))).length ≤ 1000 := by
            rw [ivs_len, List.length_cons, List.length_map, List.length_take]; omega
          have htake : ∀ b, b = bitOf (likeOf x) ch → ivs (1 :: ((revOf (stripOf (writOf x))).cps.toList.take i).map (bitOf (likeOf x))) ++ [.int b 0] = ivs (1 :: ((revOf (stripOf (writOf x))).cps.toList.take (i + 1)).map (bitOf (likeOf x))) := by
            rintro b rfl
            rw [ivs_snoc, List.cons_append, List.take_succ, show (revOf (stripOf (writOf x))).cps.toList[i]? = some ch from by rw [Array.getElem?_toList]; exact hc, List.map_append]
            rfl
          refine run_step Fc 9 ?_
          refine And.intro rfl ?_
          refine And.intro rfl ?_
          refine get_list (.tail _ (.head _)) PySem.F.slot_list_append PySem.F.type_list_append ?_
          refine And.intro rfl ?_
          refine cmp_eq_str ?_
          refine tru_bool ?_
          refine And.intro ?_ ?_
          · intro z
            refine cal_append (Pos.tail Pos.head) hlen ?_
            rw [htake 1 (by unfold bitOf; rw [if_pos z])]
            exact run_nil ⟨[], _, .all, ⟨rfl, rfl, rfl, rfl, rfl, trivial⟩, rfl⟩
          · intro z
            refine cal_append (Pos.tail Pos.head) hlen ?_
            rw [htake 0 (by unfold bitOf; rw [z]; rfl)]
            exact run_nil ⟨[], _, .all, ⟨rfl, rfl, rfl, rfl, rfl, trivial⟩, rfl⟩
        case done =>
          rintro m N ⟨kn, rfl⟩
          rw [show (1 :: ((revOf (stripOf (writOf x))).cps.toList.take (revOf (stripOf (writOf x))).cps.size).map (bitOf (likeOf x))) = figsOf x from by
            rw [← Array.length_toList, List.take_length]; rfl]
          refine Run.knows kn ?_
          refine run_step Fc 9 ?_
          refine And.intro rfl ?_
          refine And.intro rfl ?_
          refine cal_len_str (by omega) ?_
          refine And.intro rfl ?_
          refine cal_len_str (by omega) ?_
          refine bin_sub ?_
          refine bin_sub ?_
          refine bin_shl (by omega) (by omega) (by omega) ?_
          refine run_step Fc 9 ?_
          refine And.intro rfl ?_
          refine And.intro rfl ?_
          refine (d2i_ctr c.w D (figsOf x) 1 t44 rest (by decide) (by omega) (figs_bits x) h44).use G rfl (by omega) (by omega) ?_
          rintro v N' ⟨rfl, t44', rfl, h44'⟩
          refine And.intro rfl ?_
          refine cal_len_list (.head _) (by rw [ivs_len]; omega) ?_
          rw [ivs_len]
          refine bin_sub ?_
          have hdv := dv_bound 1 (figsOf x) (figs_bits x)
          have hdv2 : (2 : Int) ^ (1 * (figsOf x).length) ≤ 2 ^ 3 := by exact_mod_cast Nat.pow_le_pow_right (by decide : 0 < 2) (by omega : 1 * (figsOf x).length ≤ 3)
          have hdv3 : (2 : Int) ^ 3 = 8 := by decide
          refine bin_shl (by omega) (by omega) (show (dv 1 (figsOf x)).natAbs < 1099511627776 by omega) ?_
          refine bin_add ?_
          refine run_nil ⟨⟨?_, rfl, trivial⟩, t44', .drop .all, h44'⟩
          unfold mag8
          rw [hnd, if_neg Bool.false_ne_true, Int.add_mul]
          show some (Value.int (_ * 2 ^ ((e : Int) + 3).toNat + dv 1 (figsOf x) * 2 ^ ((e : Int) + 3 - (figsOf x).length).toNat) 0) = _
          rw [eW, Int.mul_assoc, Int.mul_assoc, show ((e : Int) + 3 - (figsOf x).length).toNat = (3 - (figsOf x).length) + e by omega, Int.pow_add 2 _ e, show (2 : Int) ^ (e + 3) = 8 * 2 ^ e by rw [Int.pow_add, Int.mul_comm]; rfl]
      · intro z
        have hnd : noDot x = true := by
          unfold noDot
          rw [Bool.not_eq_false'] at z
          exact z
        refine run_step Fc 9 ?_
        refine And.intro rfl ?_
        refine And.intro rfl ?_
        refine cal_len_str (by omega) ?_
        refine bin_shl (by omega) (by omega) (by omega) ?_
        refine run_nil ⟨⟨?_, rfl, trivial⟩, t44, .all, h44⟩
        unfold mag8
        rw [hnd, if_pos rfl, Int.mul_assoc]
        show some (Value.int (_ * 2 ^ ((e : Int) + 3).toNat) 0) = _
        rw [eW, show (2 : Int) ^ (e + 3) = 8 * 2 ^ e by rw [Int.pow_add, Int.mul_comm]; rfl]
    case s2 =>
      rintro m N ⟨kn, t44', pk, h44'⟩
      refine Run.pick pk ?_
      refine Run.knows kn ?_
      refine run_step Fc 9 ?_
      refine And.intro rfl ?_
      refine cmp_eq_str ?_
      refine tru_bool ?_
      refine And.intro ?_ ?_
      · intro z
        refine ⟨_, .all, ?_, t44', rfl, h44'⟩
        unfold worth8
        rw [if_neg (by omega), if_pos (show isA x = true from z)]
        rfl
      · intro z
        refine un_neg ?_
        refine ⟨_, .all, ?_, t44', rfl, h44'⟩
        unfold worth8
        rw [if_neg (by omega), if_neg (show ¬ isA x = true from fun q => Bool.false_ne_true (z.symm.trans q)), Int.neg_mul]
        rfl
end Mine
end
section
open PySem PySem.W PyProof.Rows PySem.Calls
set_option maxRecDepth 100000
namespace Mine
set_option maxHeartbeats 4000000 in
theorem ell_ctr (w : World) (x : Str) (N : Led) (hx : x.length ≤ 100) (h0 : 1 ≤ x.length) (e9 : find4 x (Str.ofString "") 1 (x.length : Int) = 1) :
    Ctr w 800 5000 (.ref 70) [.str (Str.ofString "a...") 0, .str x 0] N (fun v N' => v = .bool (Txt.startswith x (Str.ofString "a")) ∧ N' = N) := by
  show (fun (_ : OpenLaw) (_ : Params → Frag) => Ctr w 800 5000 (.ref 70) [.str (Str.ofString "a...") 0, .str x 0] N (fun v N' => v = .bool (Txt.startswith x (Str.ofString "a")) ∧ N' = N)) Challenge.rw_re0116_01 Mine.hd.heap_1
  k_fill
  show Ctr w 800 5000 (.ref 70) [.str (Str.ofString "a...") 0, .str x 0] N (fun v N' => v = .bool (Txt.startswith x (Str.ofString "a")) ∧ N' = N)
  k_dflt (refine' ctr_def (binds := [("want", .str (Str.ofString "a...") 0), ("got", .str x 0)]) ?hk ?hcd ?hkp ?hd ?hu ?hb ?hloc ?hcell ?hco ?hgen ?hkind ?H)
  case hk => k_is
  case hcd => k_is
  case hkp => k_is
  case hd => decide
  case hu => decide
  case hb =>
    intro vals s e
    obtain ⟨v, u, rfl, h1, h2⟩ := map_two e
    exact ⟨_, BindsTo.of_eq rfl, by rw [← h1, ← h2]; rfl⟩
  case hloc => exact rfl
  case hcell => decide
  case hco => exact rfl
  case hgen => exact rfl
  case hkind => exact rfl
  case H =>
    intro c G hw hcs hcl hdp hun
    have Fc : Fn c _ [] := ⟨G, congrArg Scope.names hcs, hcl, by decide +kernel⟩
    refine run_step Fc 9 ?_
    refine And.intro rfl ?_
    refine cmp_notin_str ?_
    refine tru_bool ?_
    refine iteF (by decide +kernel) (run_nil ?_)
    refine run_step Fc 9 ?_
    refine And.intro rfl ?_
    refine And.intro rfl ?_
    refine get_str PySem.F.slot_str_split PySem.F.type_str_split ?_
    refine cal_split (by decide) (by decide) ?_
    intro D
    rw [show svs (Txt.split (Str.ofString "a...") (Str.ofString "...")) = [.str (Str.ofString "a") 0, .str (Str.ofString "") 0] from by rw [show Txt.split (Str.ofString "a...") (Str.ofString "...") = [Str.ofString "a", Str.ofString ""] by decide +kernel]; rfl]
    refine run_step Fc 9 ?_
    refine And.intro rfl ?_
    refine And.intro rfl ?_
    refine cal_len_list (.head _) (by decide) ?_
    refine cmp_ge ?_
    refine tru_bool ?_
    refine And.intro (by decide) ?_
    refine run_step Fc 9 ?_
    refine And.intro rfl ?_
    refine And.intro rfl ?_
    refine And.intro rfl ?_
    refine cal_len_str (by omega) ?_
    refine And.intro rfl ?_
    intro T
    refine ⟨T, _, rfl, .head _, rfl, ?_⟩
    refine run_step Fc 9 ?_
    refine And.intro rfl ?_
    refine sub_list (x := .str (Str.ofString "a") 0) (.tail _ (.head _)) (by decide) (by decide) rfl (fun t => rfl) (fun r => rfl) ?_
    refine run_step Fc 9 ?_
    refine tru_str (by decide) ?_
    refine iteT (by decide) ?_
    refine run_step Fc 9 ?_
    refine And.intro rfl ?_
    refine get_str PySem.F.slot_str_startswith PySem.F.type_str_startswith ?_
    refine cal_startswith ?_
    refine tru_bool ?_
    refine And.intro ?_ ?_
    · intro z
      refine run_step Fc 9 ?_
      refine And.intro rfl ?_
      refine And.intro rfl ?_
      refine cal_len_str (by decide) ?_
      refine run_del Fc rfl rfl (Pos.tail Pos.head) (by decide) (by decide) ?_
      refine run_nil (run_nil ?_)
      refine run_step Fc 9 ?_
      refine And.intro rfl ?_
      refine un_neg ?_
      refine sub_listN (x := .str (Str.ofString "") 0) (.tail _ (.head _)) (by decide) (by decide) (by decide) rfl (fun t => rfl) (fun r => rfl) ?_
      refine run_step Fc 9 ?_
      refine tru_str (by decide) ?_
      refine iteF (by decide) (run_nil ?_)
      refine run_step Fc 9 ?_
      refine And.intro rfl ?_
      refine cmp_gt ?_
      refine tru_bool ?_
      refine iteF (decide_eq_false (by show ¬ (x.length : Int) < 1; omega)) (run_nil ?_)
      refine run_step Fc 9 ?_
      refine And.intro rfl ?_
      refine for_list (vs := [.str (Str.ofString "") 0]) (N0 := N) (Pk.cons (Rem.tail Rem.head) (Pk.drop Pk.all)) (fun i m N' => Knows m [("startpos", .int 1 0), ("endpos", .int x.length 0), ("got", .str x 0)] ∧ N' = N) (.inr fun _ _ => rfl) ⟨⟨rfl, rfl, rfl, trivial⟩, rfl⟩ ?turn ?done
      case turn =>
        rintro i v m N' I oI lo hv ⟨kn, rfl⟩
        have ev : er v = .str (Str.ofString "") 0 := by
          cases i with
          | zero => exact (Option.some.inj hv).symm
          | succ i => cases hv
        refine sto_name G Fc.ns_ Fc.cl_ ?_
        rw [ev]
        refine Run.knows (k := [("w", .str (Str.ofString "") 0), ("startpos", .int 1 0), ("endpos", .int x.length 0), ("got", .str x 0)]) ⟨rfl, kn⟩ ?_
        refine run_step Fc 9 ?_
        refine And.intro rfl ?_
        refine And.intro rfl ?_
        refine get_str PySem.F.slot_str_find PySem.F.type_str_find ?_
        refine cal_find4 ?_
        rw [e9]
        refine run_step Fc 9 ?_
        refine And.intro rfl ?_
        refine cmp_lt ?_
        refine tru_bool ?_
        refine iteF (by decide) (run_nil ?_)
        refine run_step Fc 9 ?_
        refine And.intro rfl ?_
        refine cal_len_str (by decide) ?_
        refine ipl_add ?_
        refine run_nil ⟨[], _, .all, ⟨rfl, rfl, rfl, trivial⟩, rfl⟩
      case done =>
        rintro m N' ⟨kn, rfl⟩
        refine run_step Fc 9 ?_
        exact ⟨_, (Pk.drop Pk.all), by rw [z]; rfl, rfl⟩
    · intro z
      refine run_step Fc 9 ?_
      exact ⟨_, (Pk.drop (Pk.drop Pk.all)), by rw [z]; rfl, rfl⟩
end Mine
end
section
open PySem PySem.W PyProof.Rows PySem.Calls
set_option maxRecDepth 100000
namespace Mine
theorem bin_mod {c : Cx} {m : Loc} {N : Led} {K : Kv} {a b : Int} (hb : 0 < b) (h : K (.int (a % b) 0) m N) : Bin c .Mod (.int a 0) (.int b 0) m N K := ⟨fun v u e1 e2 => by
  obtain ⟨t1, rfl⟩ := er_int e1
  obtain ⟨t2, rfl⟩ := er_int e2
  exact ⟨fun h0 tk g Q E hg at' k => PyProof.Rows.mod_int (by omega) (k _ _ _ g m N hg at' (by rw [Int.fmod_eq_emod_of_nonneg _ (Int.le_of_lt hb)]; exact h))⟩⟩
abbrev KEnt := Str × Addr × Addr × Addr
def kd1 (ks : List KEnt) : Loc := ks.map fun q => (q.1, .ref q.2.1)
def kd2 (e : Nat) (ks : List KEnt) : Loc := ks.map fun q => (q.1, .int (worth8 q.1 * 2 ^ e) 0)
def kfr (ks : List KEnt) : Led := ks.flatMap fun q => [(q.2.1, isT [.ref q.2.2.1, .ref q.2.2.2]), (q.2.2.1, isL (svs (cutsA q.1))), (q.2.2.2, isL (svs (cutsB q.1)))]
def lrn (w : World) (e : Nat) (d1 d2 : Addr) (ks : List KEnt) : Led := (d1, isD w (kd1 ks)) :: (d2, isD w (kd2 e ks)) :: kfr ks
theorem kd1_len (ks : List KEnt) : (kd1 ks).length = ks.length := List.length_map _
theorem kd2_len (e : Nat) (ks : List KEnt) : (kd2 e ks).length = ks.length := List.length_map _
theorem kd1_some (ks : List KEnt) (x : Str) : ((kd1 ks).lookup x).isSome = true ↔ x ∈ ks.map (·.1) := by
  induction ks with
  | nil => constructor <;> (intro h; cases h)
  | cons q ks ih =>
    show (List.lookup x ((q.1, _) :: kd1 ks)).isSome = true ↔ _
    rw [List.lookup_cons, List.map_cons, List.mem_cons]
    by_cases h : x = q.1
    · rw [beq_iff_eq.mpr h]
      exact ⟨fun _ => .inl h, fun _ => rfl⟩
    · rw [beq_eq_false_iff_ne.mpr h]
      exact ⟨fun z => .inr (ih.mp z), fun z => ih.mpr (z.resolve_left h)⟩
theorem kd1_get {ks : List KEnt} {x : Str} (h : x ∈ ks.map (·.1)) : ∃ t la lb, (kd1 ks).lookup x = some (.ref t) ∧ (x, t, la, lb) ∈ ks := by
  induction ks with
  | nil => cases h
  | cons q ks ih =>
    show ∃ t la lb, List.lookup x ((q.1, .ref q.2.1) :: kd1 ks) = some (.ref t) ∧ _
    rw [List.lookup_cons]
    by_cases e : x = q.1
    · rw [beq_iff_eq.mpr e]
      exact ⟨q.2.1, q.2.2.1, q.2.2.2, rfl, by rw [e]; exact .head _⟩
    · rw [beq_eq_false_iff_ne.mpr e]
      obtain ⟨t, la, lb, h1, h2⟩ := ih ((List.mem_cons.mp h).resolve_left e)
      exact ⟨t, la, lb, h1, .tail _ h2⟩
theorem kd2_get {e : Nat} {ks : List KEnt} {x : Str} (h : x ∈ ks.map (·.1)) : (kd2 e ks).lookup x = some (.int (worth8 x * 2 ^ e) 0) := by
  induction ks with
  | nil => cases h
  | cons q ks ih =>
    show List.lookup x ((q.1, _) :: kd2 e ks) = _
    rw [List.lookup_cons]
    by_cases h2 : x = q.1
    · rw [beq_iff_eq.mpr h2, h2]
    · rw [beq_eq_false_iff_ne.mpr h2]
      exact ih ((List.mem_cons.mp h).resolve_left h2)
theorem kfr_mem {ks : List KEnt} {x : Str} {t la lb : Addr} (h : (x, t, la, lb) ∈ ks) : (t, isT [.ref la, .ref lb]) ∈ kfr ks ∧ (la, isL (svs (cutsA x))) ∈ kfr ks ∧ (lb, isL (svs (cutsB x))) ∈ kfr ks :=
  ⟨List.mem_flatMap.mpr ⟨_, h, .head _⟩, List.mem_flatMap.mpr ⟨_, h, .tail _ (.head _)⟩, List.mem_flatMap.mpr ⟨_, h, .tail _ (.tail _ (.head _))⟩⟩
def LearnOut (w : World) (x : Str) (e : Nat) (d1 d2 : Addr) (ks : List KEnt) (rest : Led) (_ : Value) (N' : Led) : Prop :=
  ∃ t44 ks', N' = (126, isTab) :: (t44 ++ (lrn w e d1 d2 (ks' ++ ks) ++ rest)) ∧ Tab44 t44 ∧ ks'.length ≤ x.length ∧ (∀ q ∈ ks', ∃ j, q.1 = pre x j ∧ 1 ≤ j ∧ j ≤ x.length) ∧ ∀ j, 1 ≤ j → j ≤ x.length → pre x j ∈ (ks' ++ ks).map (·.1)
section
variable {x1 x2 x3 x4 x5 x6 x7 : Addr × AO}
theorem permA (P R E S : Led) : (R ++ (x1 :: (P ++ (E ++ S)))).Perm (P ++ (R ++ (E ++ (x1 :: S)))) := by
  classical
  refine List.perm_iff_count.mpr fun a => ?_
  simp only [List.count_append, List.count_cons]
  omega
theorem perm_row (R X T : Led) : (R ++ (x1 :: (X ++ T))).Perm (X ++ (R ++ (x1 :: T))) := by
  classical
  refine List.perm_iff_count.mpr fun a => ?_
  simp only [List.count_append, List.count_cons]
  omega
theorem perm_w (A R Y : Led) : (A ++ (x1 :: (R ++ (x2 :: x3 :: x4 :: Y)))).Perm (x1 :: (R ++ (x2 :: x3 :: x4 :: (A ++ Y)))) := by
  classical
  refine List.perm_iff_count.mpr fun a => ?_
  simp only [List.count_append, List.count_cons]
  omega
theorem perm_end (A R Y : Led) : (R ++ (x2 :: (A ++ (x5 :: x6 :: x1 :: x4 :: x3 :: Y)))).Perm (A ++ (x1 :: (R ++ (x2 :: x3 :: x4 :: x5 :: x6 :: Y)))) := by
  classical
  refine List.perm_iff_count.mpr fun a => ?_
  simp only [List.count_append, List.count_cons]
  omega
end
theorem pk_off : ∀ (A : Led) {N : Led}, Pk (A ++ N) N
  | [], _ => .all
  | _ :: A, _ => .drop (pk_off A)
theorem run_whileR {c : Cx} {t : Expr} {body : List Stmt} {p : PySem.Pos} {m : Loc} {N : Led} {K : Kf} (J : Nat → Loc → Led → Prop)
    (turn : ∀ k m N, J k m N → Run c id (PySem.isTrue t c.env (eval t c.env)) m N fun z m N => (z = true → Run c erF (execs body c.env) m N fun f m N => match f with
        | .ret v => K (.ret v) m N
        | .brk => K .next m N
        | _ => ∃ k', k' < k ∧ J k' m N) ∧ (z = false → K .next m N)) (k : Nat) (h : J k m N) : Run c erF (exec (.While t body [] p) c.env) m N K := by
  refine ⟨fun h0 tk g Q E hg a kk => wpAny_While (codeAny_whileLoop (fun j s' => ∃ h tk g m N, s' = c.st h tk g ∧ AllBare g ∧ At c h m N ∧ J j m N) ?_ k ⟨h0, tk, g, m, N, rfl, hg, a, h⟩)⟩
  rintro j s' ⟨h, tk, g, m, N, rfl, hg, a, hJ⟩
  refine (turn j m N hJ).go h tk g _ _ hg a fun z h' tk' g' m' N' hg' a' q => ?_
  cases z
  · exact wpAny_execs_nil (kk .next _ _ _ _ _ hg' a' (q.2 rfl))
  · refine (q.1 rfl).go h' tk' g' _ _ hg' a' fun f h2 tk2 g2 m2 N2 hg2 a2 q2 => ?_
    cases f with
    | ret v => exact kk (.ret v) _ _ _ _ _ hg2 a2 q2
    | brk => exact kk .next _ _ _ _ _ hg2 a2 q2
    | next =>
      obtain ⟨k', l, hj⟩ := q2
      exact ⟨k', l, _, _, _, _, _, rfl, hg2, a2, hj⟩
    | cont =>
      obtain ⟨k', l, hj⟩ := q2
      exact ⟨k', l, _, _, _, _, _, rfl, hg2, a2, hj⟩
theorem pairs_snoc {es : List Ent} {x : Str} {i : Nat} {t : Addr} {a b : Str} (h : Pairs es (pairsOf x i)) (hp : pairAt x i = (a, b)) : Pairs (es ++ [(t, .str a 0, .str b 0)]) (pairsOf x (i + 1)) := by
  unfold Pairs pairsOf at *
  rw [List.map_append, List.range_succ, List.map_append, List.map_append, h, List.map_cons, List.map_nil, List.map_cons, List.map_nil, hp]
  rfl
theorem svs_snoc (l : List Str) (x : Str) : svs (l ++ [x]) = svs l ++ [.str x 0] := by
  unfold svs
  rw [List.map_append]
  rfl
theorem entV_get {es : List Ent} {j : Nat} {u : Value} (h : (entV es)[j]? = some u) : ∃ e, es[j]? = some e ∧ u = .ref e.1 := by
  unfold entV at h
  rw [List.getElem?_map] at h
  obtain ⟨e, he, rfl⟩ := Option.map_eq_some_iff.mp h
  exact ⟨e, he, rfl⟩
theorem pairs_len {es : List Ent} {x : Str} {i : Nat} (h : Pairs es (pairsOf x i)) : es.length = i := by
  have := congrArg List.length h
  unfold pairsOf at this
  rw [List.length_map, List.length_map, List.length_map, List.length_range] at this
  exact this
theorem pairs_take {es : List Ent} {x : Str} {k i : Nat} (h : Pairs es (pairsOf x k)) (hi : i ≤ k) : Pairs (es.take i) (pairsOf x i) := by
  unfold Pairs pairsOf at *
  rw [List.map_take, h, ← List.map_take, ← List.map_take, List.take_range, Nat.min_eq_left hi]
theorem pairs_short {x : Str} {k : Nat} (h : ∀ p, p < x.length → (letAt x p).length = 1) (hk : k ≤ x.length) : ∀ q ∈ pairsOf x k, q.1.length + q.2.length ≤ 10 := by
  intro q hq
  obtain ⟨p, hp, rfl⟩ := List.mem_map.mp hq
  have := h p (Nat.lt_of_lt_of_le (List.mem_range.mp hp) hk)
  have e : (Str.ofString "").length = 0 := rfl
  unfold pairAt
  split
  · show (Str.ofString "").length + (letAt x p).length ≤ 10; omega
  · show (letAt x p).length + (Str.ofString "").length ≤ 10; omega
end Mine
end
section
open PySem PySem.W PyProof.Rows PySem.Calls
set_option maxRecDepth 100000
namespace Mine
set_option maxHeartbeats 4000000 in
theorem learn_ctr (w : World) (x : Str) (e : Nat) (d1 d2 : Addr) (ks : List KEnt) (t44 rest : Led) (hx : frontE x) (he : e < 17) (h44 : Tab44 t44) (hd1 : (d1 == sysModules) = false) (hks : ks.length ≤ 500) :
    Ctr w 470 1900 (.ref 178) [.str x 0, .int (e + 3) 0, .ref d1, .ref d2] ((126, isTab) :: (t44 ++ (lrn w e d1 d2 ks ++ rest))) (LearnOut w x e d1 d2 ks rest) := by
  show (fun (_ : OpenLaw) (_ : Params → Frag) => Ctr w 470 1900 (.ref 178) [.str x 0, .int (e + 3) 0, .ref d1, .ref d2] ((126, isTab) :: (t44 ++ (lrn w e d1 d2 ks ++ rest))) (LearnOut w x e d1 d2 ks rest)) Challenge.rw_re0116_01 Mine.hd.heap_1
  k_fill
  show Ctr w 470 1900 (.ref 178) [.str x 0, .int (e + 3) 0, .ref d1, .ref d2] ((126, isTab) :: (t44 ++ (lrn w e d1 d2 ks ++ rest))) (LearnOut w x e d1 d2 ks rest)
  obtain ⟨hl10, hK, hL1⟩ := learn_facts hx
  k_dflt (refine' ctr_def (binds := [("stalk", .str x 0), ("width", .int (e + 3) 0), ("cuts", .ref d1), ("worths", .ref d2)]) ?hk ?hcd ?hkp ?hd ?hu ?hb ?hloc ?hcell ?hco ?hgen ?hkind ?H)
  case hk => k_is
  case hcd => k_is
  case hkp => k_is
  case hd => decide
  case hu => decide
  case hb =>
    intro vals s e
    obtain ⟨v, u, z, y, rfl, h1, h2, h3, h4⟩ := map_four e
    exact ⟨_, BindsTo.of_eq rfl, by rw [← h1, ← h2, ← h3, ← h4]; rfl⟩
  case hloc => exact rfl
  case hcell => decide
  case hco => exact rfl
  case hgen => exact rfl
  case hkind => exact rfl
  case H =>
    intro c G hw hcs hcl hdp hun
    subst hw
    have Fc : Fn c _ [] := ⟨G, congrArg Scope.names hcs, hcl, by decide +kernel⟩
    refine run_step Fc 9 ?_
    refine And.intro rfl ?_
    refine And.intro rfl ?_
    refine cal_acc G (by omega) (by omega) ?_
    intro r dx
    refine run_step Fc 9 ?_
    refine And.intro rfl ?_
    refine And.intro rfl ?_
    refine And.intro rfl ?_
    refine cal_len_str (by omega) ?_
    refine cal_range ?_
    intro R
    refine for_range (n := x.length) (N0 := rowL r dx [] ++ ((126, isTab) :: (t44 ++ (lrn c.w e d1 d2 ks ++ rest)))) .all (by omega) (fun i m N => Knows m [("row", .ref r), ("stalk", .str x 0), ("width", .int (e + 3) 0), ("cuts", .ref d1), ("worths", .ref d2)] ∧ ∃ es, N = rowL r dx es ++ ((126, isTab) :: (t44 ++ (lrn c.w e d1 d2 ks ++ rest))) ∧ Pairs es (pairsOf x i)) (fun _ _ => rfl) ⟨⟨rfl, rfl, rfl, rfl, rfl, trivial⟩, [], rfl, rfl⟩ ?turn1 ?done1
    case turn1 =>
      rintro i v m N I oI hi ev ⟨kn, es, rfl, hP⟩
      refine sto_name G Fc.ns_ Fc.cl_ ?_
      rw [ev]
      refine Run.knows (k := [("place", .int i 0), ("row", .ref r), ("stalk", .str x 0), ("width", .int (e + 3) 0), ("cuts", .ref d1), ("worths", .ref d2)]) ⟨rfl, kn⟩ ?_
      have hpl := pairs_len hP
      refine run_step Fc 9 ?_
      refine And.intro rfl ?_
      refine bin_mod (by decide) ?_
      refine cmp_eq ?_
      refine tru_bool ?_
      refine And.intro ?_ ?_
      · intro z
        have z : i % 2 = 0 := by have := eq_of_beq z; omega
        refine run_step Fc 9 ?_
        refine And.intro rfl ?_
        refine And.intro rfl ?_
        refine get_accF G (.tail _ (.head _)) (.tail _ (.tail _ (.head _))) (by decide) (.head _) ?_
        refine sub_item (by omega) (by omega) (by omega) (fun t u => rfl) (fun t r => rfl) ?_
        refine CalW.pick (N' := rowL r dx es ++ ((I, isRaw oI) :: ((126, isTab) :: (t44 ++ (lrn c.w e d1 d2 ks ++ rest))))) (.perm List.perm_middle) ?_
        refine (push_ctr c.w r dx es _ _ _ (by omega)).use G rfl (by omega) (by omega) ?_
        rintro v N' ⟨rfl, t, rfl⟩
        refine run_nil (run_nil ⟨rowL r dx _, _, .all, ?_⟩)
        exact ⟨⟨rfl, rfl, rfl, rfl, rfl, trivial⟩, _, rfl, pairs_snoc hP (if_pos z)⟩
      · intro z
        have z : ¬ i % 2 = 0 := fun q => by rw [beq_eq_false_iff_ne] at z; omega
        refine run_step Fc 9 ?_
        refine And.intro rfl ?_
        refine And.intro rfl ?_
        refine get_accF G (.tail _ (.head _)) (.tail _ (.tail _ (.head _))) (by decide) (.head _) ?_
        refine sub_item (by omega) (by omega) (by omega) (fun t u => rfl) (fun t r => rfl) ?_
        refine CalW.pick (N' := rowL r dx es ++ ((I, isRaw oI) :: ((126, isTab) :: (t44 ++ (lrn c.w e d1 d2 ks ++ rest))))) (.perm List.perm_middle) ?_
        refine (push_ctr c.w r dx es _ _ _ (by omega)).use G rfl (by omega) (by omega) ?_
        rintro v N' ⟨rfl, t, rfl⟩
        refine run_nil (run_nil ⟨rowL r dx _, _, .all, ?_⟩)
        exact ⟨⟨rfl, rfl, rfl, rfl, rfl, trivial⟩, _, rfl, pairs_snoc hP (if_neg z)⟩
    case done1 =>
      rintro m N ⟨kn, es, rfl, hP⟩
      refine Run.knows kn ?_
      refine run_step Fc 9 ?_
      refine run_whileR (fun k m N => Knows m [("row", .ref r), ("width", .int (e + 3) 0), ("cuts", .ref d1), ("worths", .ref d2)] ∧ k ≤ x.length ∧ ∃ es t44 ks', N = rowL r dx es ++ ((126, isTab) :: (t44 ++ (lrn c.w e d1 d2 (ks' ++ ks) ++ rest))) ∧ Tab44 t44 ∧ Pairs es (pairsOf x k) ∧ ks'.length + k ≤ x.length ∧ (∀ q ∈ ks', ∃ j, q.1 = pre x j ∧ 1 ≤ j ∧ j ≤ x.length) ∧ ∀ j, k < j → j ≤ x.length → pre x j ∈ (ks' ++ ks).map (·.1)) ?turn2 x.length ⟨⟨rfl, rfl, rfl, rfl, trivial⟩, Nat.le_refl _, es, t44, [], rfl, h44, hP, Nat.le_of_eq (Nat.zero_add _), (fun q hq => nomatch hq), fun j h1 h2 => absurd h1 (Nat.not_lt.mpr h2)⟩
      clear kn hP
      rintro k m N ⟨kn, hk, es, t44, ks', rfl, h44, hP, hlen, hq, hcov⟩
      obtain ⟨hrow, hfr, hcA, hcB, hfall⟩ := hK k hk
      have hpl := pairs_len hP
      have hsh := pairs_short hL1 hk
      refine Run.knows kn (vTest_sound (vE_sound Fc.G Fc.ns_ Fc.cl_ Fc.plain 9) ?_)
      refine And.intro rfl ?_
      refine And.intro rfl ?_
      refine get_accF G (.head _) (.tail _ (.head _)) (by decide) (.tail _ (.tail _ (.tail _ (.head _)))) ?_
      refine (pc_ctr c.w r dx es _ (by omega)).use G rfl (by omega) (by omega) ?_
      rintro v N' ⟨rfl, rfl⟩
      refine cmp_gt ?_
      refine tru_bool ?_
      rw [hpl]
      refine And.intro ?_ ?_
      · intro z
        have z : 0 < k := by have := of_decide_eq_true z; omega
        refine run_step Fc 9 ?_
        refine And.intro rfl ?_
        refine And.intro rfl ?_
        refine cal_str G (by omega) (by omega) hP (by omega) hsh ?_
        rw [hrow]
        refine run_stepP Fc 9 (fun m N => Knows m [("row", .ref r), ("width", .int (e + 3) 0), ("cuts", .ref d1), ("worths", .ref d2)] ∧ ∃ es t44 ks'', Pk N (rowL r dx es ++ ((126, isTab) :: (t44 ++ (lrn c.w e d1 d2 (ks'' ++ ks) ++ rest)))) ∧ Tab44 t44 ∧ Pairs es (pairsOf x k) ∧ ks''.length + k ≤ x.length + 1 ∧ (∀ q ∈ ks'', ∃ j, q.1 = pre x j ∧ 1 ≤ j ∧ j ≤ x.length) ∧ ∀ j, k ≤ j → j ≤ x.length → pre x j ∈ (ks'' ++ ks).map (·.1)) ?if1 ?if2
        case if1 =>
          refine And.intro rfl ?_
          refine cmp_notin_dict (kvs := kd1 (ks' ++ ks)) (List.mem_append_right _ (.tail _ (List.mem_append_right _ (.head _)))) hd1 ?_
          refine tru_bool ?_
          refine And.intro ?_ ?_
          · intro z2
            refine run_step Fc 9 ?_
            refine And.intro rfl ?_
            refine And.intro rfl ?_
            refine And.intro rfl ?_
            intro la
            refine run_step Fc 9 ?_
            refine And.intro rfl ?_
            refine And.intro rfl ?_
            refine And.intro rfl ?_
            intro lb
            refine Run.pick (N' := rowL r dx es ++ ((126, isTab) :: ([(lb, isL (svs (cutsNB x 0))), (la, isL (svs (cutsTo (Str.ofString "a") x 0)))] ++ (t44 ++ (lrn c.w e d1 d2 (ks' ++ ks) ++ rest))))) (.perm (perm_row _ [_, _] _)) ?_
            generalize hT : t44 ++ (lrn c.w e d1 d2 (ks' ++ ks) ++ rest) = T
            refine run_step Fc 9 ?_
            refine And.intro rfl ?_
            refine And.intro rfl ?_
            refine And.intro rfl ?_
            refine get_accF G (.head _) (.tail _ (.head _)) (by decide) (.tail _ (.tail _ (.tail _ (.head _)))) ?_
            refine (pc_ctr c.w r dx es _ (by omega)).use G rfl (by omega) (by omega) ?_
            rintro v N' ⟨rfl, rfl⟩
            rw [hpl]
            refine cal_range ?_
            intro R2
            refine for_range (n := k) .all (by omega) (fun i m N => Knows m [("front", .str (pre x k) 0), ("by_a", .ref la), ("by_b", .ref lb), ("row", .ref r), ("width", .int (e + 3) 0), ("cuts", .ref d1), ("worths", .ref d2)] ∧ ∃ es, N = rowL r dx es ++ ((126, isTab) :: (lb, isL (svs (cutsNB x i))) :: (la, isL (svs (cutsTo (Str.ofString "a") x i))) :: T) ∧ Pairs es (pairsOf x k)) (fun _ _ => rfl) ⟨⟨rfl, rfl, rfl, rfl, rfl, rfl, rfl, trivial⟩, es, rfl, hP⟩ ?turn3 ?done3
            case turn3 =>
              clear kn hP hpl
              rintro i v m N I oI hi ev ⟨kn, es, rfl, hP⟩
              have hpl := pairs_len hP
              refine sto_name G Fc.ns_ Fc.cl_ ?_
              rw [ev]
              refine Run.knows (k := [("place", .int i 0), ("front", .str (pre x k) 0), ("by_a", .ref la), ("by_b", .ref lb), ("row", .ref r), ("width", .int (e + 3) 0), ("cuts", .ref d1), ("worths", .ref d2)]) ⟨rfl, kn⟩ ?_
              obtain ⟨f1, f2, f3, f4⟩ := hfall i hi
              refine run_step Fc 9 ?_
              refine And.intro rfl ?_
              refine And.intro rfl ?_
              refine get_accF G (.tail _ (.head _)) (.tail _ (.tail _ (.head _))) (by decide) (.tail _ (.head _)) ?_
              refine CalW.pick (N' := rowL r dx es ++ ((I, isRaw oI) :: ((126, isTab) :: (lb, isL (svs (cutsNB x i))) :: (la, isL (svs (cutsTo (Str.ofString "a") x i))) :: T))) (.perm List.perm_middle) ?_
              refine (popf_ctr c.w r dx es i _ (by omega) (by omega)).use G rfl (by omega) (by omega) ?_
              rintro v N' ⟨D, rfl, rfl⟩
              have eE : entL (es.drop i) ++ ((I, isRaw oI) :: ((126, isTab) :: (lb, isL (svs (cutsNB x i))) :: (la, isL (svs (cutsTo (Str.ofString "a") x i))) :: T)) = (entL (es.drop i) ++ [(I, isRaw oI)]) ++ ((126, isTab) :: (lb, isL (svs (cutsNB x i))) :: (la, isL (svs (cutsTo (Str.ofString "a") x i))) :: T) := by rw [List.append_assoc]; rfl
              rw [eE]
              have hEm : ∀ q ∈ entL (es.drop i), q ∈ entL (es.drop i) ++ [(I, isRaw oI)] := fun q hq => List.mem_append_left _ hq
              generalize hE : entL (es.drop i) ++ [(I, isRaw oI)] = E at hEm
              refine run_stepP Fc 9 (fun m N => Knows m [("fallen", .ref D), ("front", .str (pre x k) 0), ("by_a", .ref la), ("by_b", .ref lb), ("row", .ref r), ("width", .int (e + 3) 0), ("cuts", .ref d1), ("worths", .ref d2)] ∧ Pk N ((D, isL (entV (es.drop i))) :: (rowL r dx (es.take i) ++ (E ++ ((126, isTab) :: (lb, isL (svs (cutsNB x (i + 1)))) :: (la, isL (svs (cutsTo (Str.ofString "a") x (i + 1)))) :: T))))) ?if3 ?if4
              case if3 =>
                refine And.intro rfl ?_
                refine And.intro rfl ?_
                refine get_str PySem.F.slot_str_join PySem.F.type_str_join ?_
                refine run_comp (cl := []) ?clos rfl (by decide) rfl ?_
                case clos => (show closureFor _ (envX c.cn c.cs c.L c.a c.ccd c.cl) = _; rw [hcl]; exact rfl)
                refine vE_sound G Fc.ns_ Fc.cl_ Fc.plain 9 _ _ _ _ ?_
                refine comp_pairs (ns := [(".0", .local), ("one", .local), ("two", .local)]) ?FC .all (svs (((pairsOf x k).drop i).map fun q => q.1 ++ q.2)) ?hout ?hn rfl rfl ?turn4 ?done4
                case FC => exact ⟨G, by (show (relabel _ (envX c.cn c.cs c.L c.a c.ccd c.cl)).names = _; rw [hcs]; exact rfl), by (show closureFor _ (envX c.cn c.cs c.L c.a c.ccd c.cl) = _; rw [hcl]; exact rfl), rfl, by decide, rfl⟩
                case hout =>
                  unfold svs entV pairsOf
                  rw [List.length_map, List.length_map, List.length_map, List.length_drop, List.length_drop, List.length_map, List.length_range, hpl]
                case hn =>
                  unfold entV
                  rw [List.length_map, List.length_drop]
                  omega
                case turn4 =>
                  intro j u C mm D2 ys I2 oI2 lo hu
                  obtain ⟨e0, he0, rfl⟩ := entV_get hu
                  have he1 := he0
                  rw [List.getElem?_drop] at he1
                  obtain ⟨p, hp, q1, q2⟩ := hP.get he1
                  refine ⟨e0.1, .str p.1 0, .str p.2 0, rfl, List.mem_append_right _ (List.mem_append_left _ (hEm _ (List.mem_map.mpr ⟨e0, List.mem_of_getElem? he0, by rw [q1, q2]⟩))), ?_⟩
                  refine ⟨_, _, .head _, rfl, ?_⟩
                  refine ⟨_, _, .head _, rfl, ?_⟩
                  refine bin_addstr (Nat.le_trans (hsh p (List.mem_of_getElem? hp)) (by decide)) ?_
                  refine ⟨rfl, ?_, _, .all⟩
                  unfold svs
                  rw [List.getElem?_map, List.getElem?_map, List.getElem?_drop, hp]
                  rfl
                case done4 =>
                  intro J
                  refine cal_join (.head _) ?_ ?_
                  · rw [show (Str.ofString "").length = 0 from rfl, Nat.mul_zero, Nat.add_zero]
                    refine Nat.le_trans (sum_short _ 10 fun y hy => ?_) (by rw [List.length_map, List.length_drop]; unfold pairsOf; rw [List.length_map, List.length_range]; omega)
                    obtain ⟨q, hq, rfl⟩ := List.mem_map.mp hy
                    have := hsh q (List.mem_of_mem_drop hq)
                    rw [← lst_len, lst_append, List.length_append, lst_len, lst_len]
                    exact this
                  show CalW c (.ref 70) [.str (Str.ofString "a...") 0, .str (fallOf x k i) 0] _ _ _
                  refine (ell_ctr c.w (fallOf x k i) _ f2 f1 f3).use G rfl (by omega) (by omega) ?_
                  rintro v N' ⟨rfl, rfl⟩
                  rw [f4]
                  refine tru_bool ?_
                  refine And.intro ?_ ?_
                  · intro z3
                    have eA : cutsTo (Str.ofString "a") x (i + 1) = cutsTo (Str.ofString "a") x i ++ [pre x i] := by rw [cutsTo_succ, z3]; rfl
                    have eB : cutsNB x (i + 1) = cutsNB x i := by rw [cutsNB_succ, z3]; exact List.append_nil _
                    refine run_step Fc 9 ?_
                    refine And.intro rfl ?_
                    refine And.intro rfl ?_
                    refine get_list (vs := svs (cutsTo (Str.ofString "a") x i)) (.tail _ (.tail _ (List.mem_append_right _ (List.mem_append_right _ (.tail _ (.tail _ (.head _))))))) PySem.F.slot_list_append PySem.F.type_list_append ?_
                    refine And.intro rfl ?_
                    refine CalW.pick (N' := rowL r dx (es.take i) ++ ((126, isTab) :: ([_, _] ++ (E ++ ((lb, isL (svs (cutsNB x i))) :: (la, isL (svs (cutsTo (Str.ofString "a") x i))) :: T))))) (.perm (permA [_, _] _ E _)) ?_
                    refine cal_str G (by omega) (by omega) (pairs_take hP (Nat.le_of_lt hi)) (by rw [List.length_take]; omega) (pairs_short hL1 (Nat.le_trans (Nat.le_of_lt hi) hk)) ?_
                    rw [(hK i (Nat.le_trans (Nat.le_of_lt hi) hk)).1]
                    refine cal_append (vs := svs (cutsTo (Str.ofString "a") x i)) (Pos.app (.tail (.tail (.tail (Pos.app (.tail .head) E)))) _) ?_ ?_
                    · unfold svs cutsTo
                      rw [List.length_map, List.length_map]
                      exact Nat.le_trans (List.length_filter_le _ _) (by rw [List.length_range]; omega)
                    refine run_nil ⟨⟨rfl, rfl, rfl, rfl, rfl, rfl, rfl, rfl, trivial⟩, ?_⟩
                    rw [eA, eB, svs_snoc]
                    exact .trans (.perm (permA [_, _] _ E _).symm) (.drop .all)
                  · intro z3
                    have eA : cutsTo (Str.ofString "a") x (i + 1) = cutsTo (Str.ofString "a") x i := by rw [cutsTo_succ, z3]; exact List.append_nil _
                    have eB : cutsNB x (i + 1) = cutsNB x i ++ [pre x i] := by rw [cutsNB_succ, z3]; rfl
                    refine run_step Fc 9 ?_
                    refine And.intro rfl ?_
                    refine And.intro rfl ?_
                    refine get_list (vs := svs (cutsNB x i)) (.tail _ (.tail _ (List.mem_append_right _ (List.mem_append_right _ (.tail _ (.head _)))))) PySem.F.slot_list_append PySem.F.type_list_append ?_
                    refine And.intro rfl ?_
                    refine CalW.pick (N' := rowL r dx (es.take i) ++ ((126, isTab) :: ([_, _] ++ (E ++ ((lb, isL (svs (cutsNB x i))) :: (la, isL (svs (cutsTo (Str.ofString "a") x i))) :: T))))) (.perm (permA [_, _] _ E _)) ?_
                    refine cal_str G (by omega) (by omega) (pairs_take hP (Nat.le_of_lt hi)) (by rw [List.length_take]; omega) (pairs_short hL1 (Nat.le_trans (Nat.le_of_lt hi) hk)) ?_
                    rw [(hK i (Nat.le_trans (Nat.le_of_lt hi) hk)).1]
                    refine cal_append (vs := svs (cutsNB x i)) (Pos.app (.tail (.tail (.tail (Pos.app (.head) E)))) _) ?_ ?_
                    · unfold svs cutsNB
                      rw [List.length_map, List.length_map]
                      exact Nat.le_trans (List.length_filter_le _ _) (by rw [List.length_range]; omega)
                    refine run_nil ⟨⟨rfl, rfl, rfl, rfl, rfl, rfl, rfl, rfl, trivial⟩, ?_⟩
                    rw [eA, eB, svs_snoc]
                    exact .trans (.perm (permA [_, _] _ E _).symm) (.drop .all)
              case if4 =>
                clear kn
                rintro m N ⟨kn, pk⟩
                refine Run.pick pk (Run.knows kn ?_)
                refine run_step Fc 9 ?_
                refine And.intro rfl ?_
                refine for_list (vs := entV (es.drop i)) .all (fun j m N => Knows m [("fallen", .ref D), ("front", .str (pre x k) 0), ("by_a", .ref la), ("by_b", .ref lb), ("row", .ref r), ("width", .int (e + 3) 0), ("cuts", .ref d1), ("worths", .ref d2)] ∧ ∃ es', N = rowL r dx es' ++ (E ++ ((126, isTab) :: (lb, isL (svs (cutsNB x (i + 1)))) :: (la, isL (svs (cutsTo (Str.ofString "a") x (i + 1)))) :: T)) ∧ Pairs es' (pairsOf x (i + j))) (.inl ⟨_, _, _, rfl⟩) ⟨⟨rfl, rfl, rfl, rfl, rfl, rfl, rfl, rfl, trivial⟩, es.take i, rfl, pairs_take hP (Nat.le_of_lt hi)⟩ ?turn5 ?done5
                case turn5 =>
                  clear kn pk
                  rintro j v m N I3 oI3 lo hv ⟨kn, es', rfl, hP'⟩
                  obtain ⟨e0, he0, ev3⟩ := entV_get hv
                  have he1 := he0
                  rw [List.getElem?_drop] at he1
                  obtain ⟨p, hp, q1, q2⟩ := hP.get he1
                  have hij : i + j < k := by rw [← hpl]; exact (List.getElem?_eq_some_iff.mp he1).1
                  have hpp : pairAt x (i + j) = (p.1, p.2) := by
                    unfold pairsOf at hp
                    rw [List.getElem?_map, List.getElem?_range hij] at hp
                    exact Option.some.inj hp
                  have hpl' := pairs_len hP'
                  rw [er_ref ev3]
                  refine asg_names (t := e0.1) (vs := [.str p.1 0, .str p.2 0]) G Fc.ns_ Fc.cl_ (.tail _ (.tail _ (List.mem_append_right _ (List.mem_append_left _ (hEm _ (List.mem_map.mpr ⟨e0, List.mem_of_getElem? he0, by rw [q1, q2]⟩)))))) rfl rfl ?_
                  refine Run.knows (k := [("two", .str p.2 0), ("one", .str p.1 0), ("fallen", .ref D), ("front", .str (pre x k) 0), ("by_a", .ref la), ("by_b", .ref lb), ("row", .ref r), ("width", .int (e + 3) 0), ("cuts", .ref d1), ("worths", .ref d2)]) ⟨rfl, rfl, kn⟩ ?_
                  refine run_step Fc 9 ?_
                  refine And.intro rfl ?_
                  refine And.intro rfl ?_
                  refine get_accF G (.tail _ (.tail _ (.head _))) (.tail _ (.tail _ (.tail _ (.head _)))) (by decide) (.head _) ?_
                  refine CalW.pick (N' := rowL r dx es' ++ ([(I3, isRaw oI3), (D, isRaw lo)] ++ (E ++ ((126, isTab) :: (lb, isL (svs (cutsNB x (i + 1)))) :: (la, isL (svs (cutsTo (Str.ofString "a") x (i + 1)))) :: T)))) (.perm (List.perm_append_comm_assoc _ _ _)) ?_
                  refine (push_ctr c.w r dx es' _ _ _ (by omega)).use G rfl (by omega) (by omega) ?_
                  rintro v N' ⟨rfl, t, rfl⟩
                  refine run_nil ⟨rowL r dx _, _, .all, ⟨rfl, rfl, rfl, rfl, rfl, rfl, rfl, rfl, trivial⟩, _, rfl, ?_⟩
                  exact pairs_snoc hP' hpp
                case done5 =>
                  clear kn pk
                  rintro m N ⟨kn, es', rfl, hP'⟩
                  refine Run.knows kn ?_
                  have ek : i + (entV (es.drop i)).length = k := by
                    unfold entV
                    rw [List.length_map, List.length_drop]
                    omega
                  rw [ek] at hP'
                  refine run_nil ⟨rowL r dx es', _, .drop (.app ?_), ⟨rfl, rfl, rfl, rfl, rfl, rfl, rfl, trivial⟩, es', rfl, hP'⟩
                  rw [← hE, List.append_assoc]
                  exact pk_off _
            case done3 =>
              clear kn
              rintro m N ⟨kn, es', rfl, hP'⟩
              refine Run.knows kn ?_
              subst hT
              have hks' : (kd1 (ks' ++ ks)).length ≤ 1000 := by rw [kd1_len, List.length_append]; omega
              have hks2 : (kd2 e (ks' ++ ks)).length ≤ 1000 := by rw [kd2_len, List.length_append]; omega
              refine run_step Fc 9 ?_
              refine And.intro rfl ?_
              refine And.intro rfl ?_
              refine And.intro rfl ?_
              intro t
              refine set_dict (kvs := kd1 (ks' ++ ks)) (.tail (Pos.app (.tail (.tail (.tail (Pos.app .head t44)))) _)) hks' ?_
              refine run_step Fc 9 ?_
              refine And.intro rfl ?_
              refine And.intro rfl ?_
              refine CalW.pick (N' := t44 ++ ((t, isT [.ref la, .ref lb]) :: (rowL r dx es' ++ ((126, isTab) :: (lb, isL (svs (cutsNB x k))) :: (la, isL (svs (cutsTo (Str.ofString "a") x k))) :: ((d1, isD c.w ((pre x k, .ref t) :: kd1 (ks' ++ ks))) :: (d2, isD c.w (kd2 e (ks' ++ ks))) :: (kfr (ks' ++ ks) ++ rest)))))) (.perm (perm_w _ _ _)) ?_
              refine (worth_ctr c.w (pre x k) e t44 _ (hfr (by omega)) he h44).use G rfl (by omega) (by omega) ?_
              rintro v N' ⟨rfl, t44', rfl, h44'⟩
              refine set_dict (kvs := kd2 e (ks' ++ ks)) (Pos.app (.tail (Pos.app (.tail (.tail (.tail (.tail .head)))) _)) t44') hks2 ?_
              refine run_nil ⟨⟨rfl, rfl, rfl, rfl, trivial⟩, es', t44', (pre x k, t, la, lb) :: ks', .perm ?_, h44', hP', ?_, ?_, ?_⟩
              · have e1 : lrn c.w e d1 d2 ((pre x k, t, la, lb) :: ks' ++ ks) ++ rest = (d1, isD c.w ((pre x k, .ref t) :: kd1 (ks' ++ ks))) :: (d2, isD c.w ((pre x k, .int (worth8 (pre x k) * 2 ^ e) 0) :: kd2 e (ks' ++ ks))) :: (t, isT [.ref la, .ref lb]) :: (la, isL (svs (cutsTo (Str.ofString "a") x k))) :: (lb, isL (svs (cutsNB x k))) :: (kfr (ks' ++ ks) ++ rest) := by
                  show (_ :: _ :: (([_, _, _] ++ kfr (ks' ++ ks)))) ++ rest = _
                  rw [← hcA, ← hcB]
                  rfl
                rw [e1]
                exact perm_end _ _ _
              · rw [List.length_cons]; omega
              · intro q hq'
                rcases List.mem_cons.mp hq' with rfl | hq'
                · exact ⟨k, rfl, z, hk⟩
                · exact hq q hq'
              · intro j h1 h2
                rcases Nat.lt_or_ge k j with h3 | h3
                · exact .tail _ (hcov j h3 h2)
                · rw [show j = k by omega]; exact .head _
          · intro z2
            have z2 : ((kd1 (ks' ++ ks)).lookup (pre x k)).isSome = true := by
              rw [Bool.not_eq_false'] at z2
              exact z2
            have hin := (kd1_some _ _).mp z2
            refine run_nil ⟨⟨rfl, rfl, rfl, rfl, trivial⟩, es, t44, ks', .all, h44, hP, by omega, hq, fun j h1 h2 => ?_⟩
            rcases Nat.lt_or_ge k j with h3 | h3
            · exact hcov j h3 h2
            · rw [show j = k by omega]; exact hin
        case if2 =>
          clear kn h44 hP hpl
          rintro m N ⟨kn, es, t44, ks'', pk, h44, hP, hlen2, hq2, hcov2⟩
          refine Run.pick pk (Run.knows kn ?_)
          have hpl := pairs_len hP
          obtain ⟨es0, e0, rfl⟩ : ∃ es0 e0, es = es0 ++ [e0] := by
            cases h : es.getLast? with
            | none => rw [List.getLast?_eq_none_iff] at h; rw [h] at hpl; exact absurd hpl (by show ¬ 0 = k; omega)
            | some e0 => exact ⟨es.dropLast, e0, by rw [List.getLast?_eq_some_iff] at h; obtain ⟨ys, rfl⟩ := h; rw [List.dropLast_concat]⟩
          have hpl0 : es0.length = k - 1 := by rw [List.length_append] at hpl; have : es0.length + 1 = k := hpl; omega
          refine run_step Fc 9 ?_
          refine And.intro rfl ?_
          refine And.intro rfl ?_
          refine get_accF G (.head _) (.tail _ (.head _)) (by decide) (.tail _ (.tail _ (.head _))) ?_
          refine (pop_ctr c.w r dx es0 e0 _ (by omega)).use G rfl (by omega) (by omega) ?_
          rintro v N' ⟨rfl, rfl⟩
          refine Run.pick (N' := rowL r dx es0 ++ ((126, isTab) :: (t44 ++ (lrn c.w e d1 d2 (ks'' ++ ks) ++ rest)))) (.app (.drop .all)) ?_
          refine run_nil ⟨k - 1, by omega, ⟨rfl, rfl, rfl, rfl, trivial⟩, by omega, es0, t44, ks'', rfl, h44, ?_, by omega, hq2, fun j h1 h2 => hcov2 j (by omega) h2⟩
          have := pairs_take (i := k - 1) hP (by omega)
          rw [List.take_append_of_le_length (by omega), List.take_of_length_le (by omega)] at this
          exact this
      · intro z
        have z : k = 0 := by have := of_decide_eq_false z; omega
        subst z
        refine run_nil ⟨_, pk_off _, t44, ks', rfl, h44, by omega, hq, fun j h1 h2 => hcov j (by omega) h2⟩
end Mine
end
section
open PySem PySem.W PyProof.Rows PySem.Calls
set_option maxRecDepth 100000
namespace Mine
section
variable {c : Cx} {m : Loc} {N : Led} {K : Kv}
theorem subS_base {v i : Expr} {l : Addr} {us : List Value} {lo hi st : Option Int} (hl : c.h₀.IsList l us.toArray) (hb : us.length ≤ 1000) (h0 : st ≠ some 0) (hs : ∀ q, ∃ ops, subscripted i false (.ref l) (.ref q) = operate ops (getItem (.ref l) (.ref q))) (hv : ∀ r, letTemporaryGo v (.ref l) r = pure ())
    (h : ∀ D, K (.ref D) m ((D, isL (lsl (us.map er) lo hi st)) :: N)) : SubS c v i (.ref l) (pval lo) (pval hi) (pval st) m N K :=
  ⟨fun o' l' u' st' h0' tk g Q E e1 e2 e3 e4 hg a k => by
    rw [er_ref e1]
    obtain ⟨μ, C, F, lk, Nw, d, nd⟩ := a.ex
    obtain ⟨ops, hs⟩ := hs h0'.objs.size
    refine slice_list3 (ops := ops) (s := c.st h0' tk g) (items := us.toArray) F Nw (F.lst hl) (pval_part e2) (pval_part e3) (pval_part e4) h0 (fun h' F' N' => ?_) hs hv (by rw [List.size_toArray, sizeLine_eq]; omega)
    refine k _ h' _ g m ((_, isL (lsl (us.map er) lo hi st)) :: N) hg ⟨μ, _, F', lk, N', ⟨rfl, ⟨(slicePick us.toArray lo hi st).toList, 0, by rw [Array.toArray_toList], lsl_map us lo hi st⟩, d⟩, ?_⟩ (h _)
    rw [List.map_cons, List.nodup_cons]
    refine ⟨fun hm => ?_, nd⟩
    obtain ⟨q, hq, e⟩ := List.mem_map.mp hm
    exact absurd (Heap.lt_size (Nw q hq).1) (by rw [show q.1 = _ from e]; exact Nat.not_lt.mpr (Nat.le_succ _))⟩
end
def tabs3 : List (Addr × Addr) := [(130, 126), (48, 44), (41, 37)]
def tabLed : Led := [(126, isTab), (44, isRaw (tabObj #[])), (37, isRaw (tabObj #[]))]
def anyTab : AO := fun o => ∃ ps : Array Value, o = tabObj ps
theorem law_enter {w : World} {s₁ : Shared} {mg mb : Str → Option Value} {p : Program} {loose : List Str} {mean : ExcName → Option Value} {name : Str} {params : Arguments} {body : List Stmt} {scope : Scope}
    {pm cd doc : Value} {fa : Addr} {o : Obj} {args : List Value} {binds : Loc} {R : Result → Shared → Prop}
    (X : (Mine.hd.heap_1 w.params).In s₁.heap) (hK : noTabs (Mine.hd.heap_1 w.params) = true) (hT : TabsAt tabs3 s₁.heap) (T : Top p loose mean mg mb s₁.heap) (hg : s₁.gens = #[])
    (ho : s₁.heap.get? fa = some o) (hdata : o.data = .func (Calls.docDef name params body scope pm cd doc)) (hcd : s₁.heap.CodeRec cd name)
    (hbind : bindArgs (Calls.docDef name params body scope pm cd doc) ⟨args, []⟩ = pure binds)
    (hkind : (binds.all fun y => scope.names.lookup y.1 == some .local || scope.names.lookup y.1 == some .cell) = true)
    (hnd : ((cellsFrom 0 scope.names []).map (·.1)).Nodup) (hco : scope.isCoroutine = false) (hgen : scope.isGenerator = false) (hk : scope.kind = .function)
    (good : ∀ h tk g, OldK s₁.heap h → AllBare g → R (.ok (.ret (.bool true))) { s₁ with heap := h, toks := tk, gens := g })
    (H : ∀ c : Cx, Good c → c.w = w → c.cn = name → c.cs = scope → c.cl = cellsFrom (c.L + 1) scope.names [] → c.dp ≤ 310 → c.un ≤ 20 → c.h₀ = ghostOf s₁.heap tabs3 →
      Run c erF (execs body c.env) (lbOf scope.names (binds.map fun y => (y.1, er y.2))) (cellLed (cbOf scope.names (binds.map fun y => (y.1, er y.2))) (cellsFrom (c.L + 1) scope.names []) ++ tabLed)
        fun fl _ N' => fl = .ret (.bool true) ∧ ∃ P1 P2 P3 : AO, Pk N' [(126, P1), (44, P2), (37, P3)] ∧ (∀ o, P1 o → anyTab o) ∧ (∀ o, P2 o → anyTab o) ∧ ∀ o, P3 o → anyTab o) :
    codeAny (model PG w) callerA (.call (.ref fa) ⟨args, []⟩) R s₁ := by
  refine call_cellsN (by decide) ho hdata T.nolimit hcd hbind (fun x hx => kindsX hkind _ x hx) hnd (fun h₁ tk₁ cells F N0 Y => ?_) hco hgen hk
  have C' := ghost_code hT
  have l0 := ghost_lt hT F
  let c' : Cx := { w := w, dp := callerA.depth + 1, un := callerA.units + 3, gd := callerA.guards, cn := name, cs := scope, L := s₁.heap.objs.size, a := fa, ccd := cd, cl := cellsFrom (s₁.heap.objs.size + 1) scope.names [], outer := [], A₀ := callerA, base := ghostOf s₁.heap tabs3, h₀ := ghostOf s₁.heap tabs3, p := topProg, loose := loose ++ (recsOf p).map (·.name) ++ (litsOf p).map (·.1) ++ (clssOf p loose).map (·.name), mean := mean, mg := mg, mb := mb, s := s₁ }
  have G' : Good c' := ⟨ghost_below hT, ghost_K hT X hK, ghost_top hT T, hk, (by decide : callerA.depth + 1 ≤ 900), (by decide : callerA.units + 3 ≤ 6000), C'.2.1, C'.2.2.1, C'.1⟩
  have hp : ∀ x, (scope.names.lookup x == some .local) = true ↔ (envOfC name scope s₁.heap.objs.size fa cd).kindOf x = some .local := fun x => beq_iff_eq
  have ca := cells_addr scope.names (s₁.heap.objs.size + 1) (s₁.heap.objs.size + 1) [] (Nat.le_refl _) (fun _ h => nomatch h) List.nodup_nil
  have dc := cells_den (cb := cbOf scope.names (binds.map fun y => (y.1, er y.2))) (fun x => by rw [bindC_er _ _ hp binds _ [] (fun _ => rfl) x, List.append_nil]; rfl) Y
  have a' : At c' h₁ (lbOf scope.names (binds.map fun y => (y.1, er y.2))) (cellLed (cbOf scope.names (binds.map fun y => (y.1, er y.2))) (cellsFrom (s₁.heap.objs.size + 1) scope.names []) ++ tabLed) := by
    refine ⟨_, cells ++ tabNews tabs3, ghost_fr hT F, fun x => ?_, ghost_news hT F N0, dc.append ⟨rfl, ⟨#[], rfl, trivial⟩, rfl, rfl, rfl, rfl, trivial⟩, ?_⟩
    · rw [bindL_er _ _ hp binds _ [] (fun _ => rfl) x, List.append_nil]; rfl
    · have ea : cells.map (·.1) = (cellsFrom (s₁.heap.objs.size + 1) scope.names []).map (·.2) := by
        rw [dc.addrs]; unfold cellLed; rw [List.map_map]; rfl
      rw [List.map_append, List.nodup_append]
      refine ⟨by rw [ea]; exact ca.1, by decide, fun x hx y hy e => ?_⟩
      rw [ea] at hx
      obtain ⟨p, hp, e1⟩ := List.mem_map.mp hx
      obtain ⟨q, hq, e2⟩ := List.mem_map.mp hy
      have h1 := ca.2 p hp
      have h2 := l0 q hq
      rw [show p.2 = x from e1] at h1
      rw [show q.1 = y from e2, ← e] at h2
      exact absurd (Nat.lt_of_lt_of_le h2 (Nat.le_of_succ_le h1)) (Nat.lt_irrefl _)
  refine (H c' G' rfl rfl rfl rfl (by decide : callerA.depth + 1 ≤ 310) (by decide : callerA.units + 3 ≤ 20) rfl).go h₁ tk₁ s₁.gens _ _ (.of_eq hg) a' fun fl h' tk' g2 m' N1 hg2 a1 ⟨efl, P1, P2, P3, pk, q1, q2, q3⟩ => ?_
  obtain rfl : fl = .ret (.bool true) := by
    cases fl <;> simp only [erF, reduceCtorEq, Flow.ret.injEq] at efl
    rw [er_bool efl]
  refine good h' tk' g2 ?_ hg2
  have a2 := a1.pick pk
  have tab : ∀ q ∈ tabs3, ∃ ps, h'.get? q.2 = some (tabObj ps) := by
    intro q hq
    rcases hq with _ | ⟨_, _ | ⟨_, _ | ⟨_, hq⟩⟩⟩
    · obtain ⟨o, e, h⟩ := a2.get (.head _)
      obtain ⟨ps, rfl⟩ := q1 o h
      exact ⟨ps, e⟩
    · obtain ⟨o, e, h⟩ := a2.get (.tail _ (.head _))
      obtain ⟨ps, rfl⟩ := q2 o h
      exact ⟨ps, e⟩
    · obtain ⟨o, e, h⟩ := a2.get (.tail _ (.tail _ (.head _)))
      obtain ⟨ps, rfl⟩ := q3 o h
      exact ⟨ps, e⟩
    · cases hq
  obtain ⟨μ2, C2, F2, _⟩ := a2.ex
  have keep : ∀ b o, b ∉ tabs3.map (·.2) → s₁.heap.get? b = some o → h'.get? b = some o := fun b o hb e => F2.keep b o (ghost_ne e hb)
  refine ⟨fun b o e => ?_, fun b o e => ?_⟩
  · by_cases hb : b ∈ tabs3.map (·.2)
    · obtain ⟨q, hq, rfl⟩ := List.mem_map.mp hb
      have e2 := (hT q hq).2
      rw [e] at e2
      obtain ⟨ps, hP⟩ := tab q hq
      rw [Option.some.inj e2]
      exact .inr (.inl ⟨((hT q hq).1.tab (hT q hq).2).isCodeTable, rfl, #[], ps, rfl, by rw [Array.empty_append]; exact hP⟩)
    · exact .inl (keep b o hb e)
  · by_cases hb : b ∈ tabs3.map (·.2)
    · obtain ⟨q, hq, rfl⟩ := List.mem_map.mp hb
      obtain ⟨ps, hP⟩ := tab q hq
      exact ⟨_, hP⟩
    · exact ⟨o, keep b o hb e⟩
end Mine
end
section
open PySem PySem.W PyProof.Rows PySem.Calls
set_option maxRecDepth 100000
namespace Mine
section
variable {c : Cx} {m : Loc} {N : Led} {K : Kv}
theorem sub_tup {v i : Expr} {l : Addr} {vs : List Value} {k : Int} {x : Value} (hl : (l, isT vs) ∈ N) (h0 : 0 ≤ k) (hfit : k < 1000) (hx : vs[k.toNat]? = some x) (hs : ∀ t, subscripted i false (.ref l) (.int k t) = operate [.ref l, .int k t] (getItem (.ref l) (.int k t))) (hv : ∀ r, letTemporaryGo v (.ref l) r = pure ()) (h : K x m N) : Sub c v i (.ref l) (.int k 0) m N K := ⟨fun o j e1 e2 => by
  rw [er_ref e1]
  obtain ⟨t2, rfl⟩ := er_int e2
  refine ⟨fun h0' tk g Q E hg a kk => ?_⟩
  obtain ⟨o, ho, us, ep, rfl, rfl⟩ := a.get hl
  rw [List.getElem?_map] at hx
  obtain ⟨y, hy, rfl⟩ := Option.map_eq_some_iff.mp hx
  have hlen : k.toNat < us.length := (List.getElem?_eq_some_iff.mp hy).1
  exact item_tupleL (s := c.st h0' tk g) (l := us) (j := k.toNat) ⟨_, ho, rfl, ep, rfl⟩ (by omega) (by omega) (seqIndex_of h0 (by omega)) hy (kk _ _ _ g m N hg a h) (hs _) hv⟩
theorem cal_sum {l : Addr} {ns : List Int} (hl : (l, isL (ns.map fun i => .int i 0)) ∈ N) (h : K (.int ns.sum 0) m N) : CalW c (.builtin "sum") [.ref l] m N K := ⟨kep_builtin, fun f' vs e1 e2 => by
  obtain ⟨v, rfl, h1⟩ := map_one e2
  rw [er_builtin e1, er_ref h1]
  refine ⟨fun h0 tk g Q E hg a k => ?_⟩
  obtain ⟨μ, C, F, lk, Nw, d, nd⟩ := a.ex
  obtain ⟨o, mo, us, ep, rfl, q1⟩ := d.mem hl
  exact PyProof.Rows.LSm.sum_ints (s := c.st h0 tk g) F Nw (cx_handled c) ⟨_, (Nw _ mo).1, rfl, ep, rfl⟩ (ints_are q1) fun h' tk' t' F' N' => k _ h' tk' g m N hg ⟨μ, C, F', lk, N', d, nd⟩ h⟩
theorem cmp_ne {a b : Int} (h : K (.bool (!(a == b))) m N) : Cmp c .NotEq (.int a 0) (.int b 0) m N K := ⟨fun v u e1 e2 => by
  obtain ⟨t1, rfl⟩ := er_int e1
  obtain ⟨t2, rfl⟩ := er_int e2
  exact ⟨fun h0 tk g Q E hg a k => SeqAt.RcNeAt.int_int _ _ _ _ _ _ _ _ (k _ _ _ g m N hg a h)⟩⟩
theorem bools_er : ∀ {us : List Value} {bs : List Bool}, us.map er = bs.map Value.bool → us = bs.map Value.bool
  | [], [], _ => rfl
  | [], _ :: _, h => by cases h
  | _ :: _, [], h => by cases h
  | u :: us, b :: bs, h => by
    rw [List.map_cons, List.map_cons] at h
    injection h with h1 h2
    rw [List.map_cons, er_bool h1, bools_er h2]
theorem cmp_in_bools {l : Addr} {bs : List Bool} {b : Bool} (hl : (l, isL (bs.map Value.bool)) ∈ N) (h : K (.bool (bs.contains b)) m N) : Cmp c .In (.bool b) (.ref l) m N K := ⟨fun v u e1 e2 => by
  rw [er_bool e1, er_ref e2]
  refine ⟨fun h0 tk g Q E hg a k => ?_⟩
  obtain ⟨o, ho, us, ep, rfl, q1⟩ := a.get hl
  have q1 := bools_er q1
  subst q1
  refine SeqAt.in_listAt (s := c.st h0 tk g) (fun v => v == .bool b) ⟨_, ho, rfl, ep, rfl⟩ (fun y hy => ?_) (k _ _ _ g m N hg a ?_)
  · obtain ⟨x, _, rfl⟩ := List.mem_map.mp (List.mem_toArray.mp hy)
    have e : ((Value.bool x == Value.bool b) : Bool) = (x == b) := by cases x <;> cases b <;> rfl
    rw [e]
    exact SeqAt.EqAt.bool_bool x b
  · have e : ((bs.map Value.bool).toArray.any fun v => v == .bool b) = bs.contains b := by
      rw [List.any_toArray, List.any_map, List.contains_eq_any_beq]
      refine congrArg (fun f => List.any bs f) (funext fun x => ?_)
      show (Value.bool x == Value.bool b) = (b == x)
      cases x <;> cases b <;> rfl
    rw [e]; exact h⟩
theorem cmp_ne_bools (G : Good c) {l r : Addr} {a b x y : Bool} (hl : (l, isT [.bool a, .bool b]) ∈ N) (hr : (r, isT [.bool x, .bool y]) ∈ N) (h : K (.bool (!(a == x && b == y))) m N) : Cmp c .NotEq (.ref l) (.ref r) m N K := ⟨fun v u e1 e2 => by
  rw [er_ref e1, er_ref e2]
  refine ⟨fun h0 tk g Q E hg at' k => ?_⟩
  obtain ⟨o1, ho1, us1, ep1, rfl, q1⟩ := at'.get hl
  obtain ⟨o2, ho2, us2, ep2, rfl, q2⟩ := at'.get hr
  have q1 := bools_er (bs := [a, b]) q1
  have q2 := bools_er (bs := [x, y]) q2
  subst q1 q2
  refine SeqAt.RcNeAt.tuples (s := c.st h0 tk g) (items := ([a, b].map Value.bool).toArray) (items2 := ([x, y].map Value.bool).toArray) (e := fun j => if j = 0 then a == x else b == y) ⟨_, ho1, rfl, ep1, rfl⟩ ⟨_, ho2, rfl, ep2, rfl⟩ (by show c.un < cLine; have := G.u; unfold cLine; omega) (fun j h1 h2 => ?_) _ _ _ _ (k _ _ _ g m N hg at' ?_)
  · match j, h1 with
    | 0, _ => exact SeqAt.EqAt.bool_bool a x
    | 1, _ => exact SeqAt.EqAt.bool_bool b y
  · have e : (!((List.range (min ([a, b].map Value.bool).toArray.size ([x, y].map Value.bool).toArray.size)).all (fun j => if j = 0 then a == x else b == y) && ([a, b].map Value.bool).toArray.size == ([x, y].map Value.bool).toArray.size)) = !(a == x && b == y) := by
      cases a <;> cases b <;> cases x <;> cases y <;> rfl
    rw [e]; exact h⟩
end
noncomputable def isDT (w : World) (xs : List (List Str × Addr × Value)) : AO := fun o => ∃ (es : Array DictEntry) (ep : Nat), o.ExactDict ∧ o.data = .dict es ep ∧ es.toList = xs.map (entryOfKey (tupleKind (strKind PG w))) ∧ (xs.map (·.1)).Nodup
theorem items_svs {w : World} : ∀ {us : List Value} {ks : List Str}, us.map er = svs ks → ItemsAre (strKind PG w) ks us
  | [], [], _ => .nil
  | [], _ :: _, h => by cases h
  | _ :: _, [], h => by cases h
  | u :: us, y :: ys, h => by
    unfold svs at h
    rw [List.map_cons, List.map_cons] at h
    injection h with h1 h2
    obtain ⟨t, rfl⟩ := er_str h1
    exact .cons (strKind_is PG w y t) (items_svs h2)
section
variable {c : Cx} {m : Loc} {N : Led} {K : Kv}
theorem at_key {h : Heap} {a : Addr} {ks : List Str} (x : At c h m N) (hm : (a, isT (svs ks)) ∈ N) : (tupleKind (strKind PG c.w)).is h ks a := by
  obtain ⟨o, ho, us, ep, rfl, e⟩ := x.get hm
  exact ⟨_, us.toArray, ep, ho, rfl, rfl, items_svs e⟩
theorem at_dictT {h : Heap} {d : Addr} {xs : List (List Str × Addr × Value)} (x : At c h m N) (hm : (d, isDT c.w xs) ∈ N) (hk : ∀ q ∈ xs, (q.2.1, isT (svs q.1)) ∈ N) : h.DictOfH (tupleKind (strKind PG c.w)) d xs := by
  obtain ⟨o, ho, es, ep, h1, h2, h3, h4⟩ := x.get hm
  exact ⟨o, es, ep, ho, h1, h2, h3, fun q hq => at_key x (hk q hq), h4⟩
theorem sub_dictT (G : Good c) {v i : Expr} {d a : Addr} {xs : List (List Str × Addr × Value)} {ks : List Str} {p : Addr × Value} (hd : (d, isDT c.w xs) ∈ N) (hk : ∀ q ∈ xs, (q.2.1, isT (svs q.1)) ∈ N) (ha : (a, isT (svs ks)) ∈ N) (hx : atKey xs ks = some p)
    (hs : subscripted i false (.ref d) (.ref a) = operate [.ref d, .ref a] (getItem (.ref d) (.ref a))) (hv : ∀ r, letTemporaryGo v (.ref d) r = pure ()) (h : K (er p.2) m N) : Sub c v i (.ref d) (.ref a) m N K := ⟨fun o j e1 e2 => by
  rw [er_ref e1, er_ref e2]
  refine ⟨fun h0' tk g Q E hg at' kk => ?_⟩
  have D := at_dictT at' hd hk
  refine subscriptTail_builtin (s := c.st h0' tk g) D.typeIs slot_dict_getitem.lookup (wpAny_getItem_heap (knd := tupleKind (strKind PG c.w)) (tupleKind_room_in1 (by show c.un + 1 < cLine; have := G.u; unfold cLine; omega)) (at_key at' ha) D hx (kk _ h0' _ g m N hg at' h)) hs hv⟩
theorem set_dictT (G : Good c) {d a : Addr} {xs : List (List Str × Addr × Value)} {ks : List Str} {v : Addr} {g : AO → Led} {K : Loc → Led → Prop} (hp : Pos d (isDT c.w xs) N g) (hk : ∀ q ∈ xs, (q.2.1, isT (svs q.1)) ∈ N) (ha : (a, isT (svs ks)) ∈ N) (hn : atKey xs ks = none) (hz : xs.length ≤ 2000)
    (h : K m (g (isDT c.w (xs ++ [(ks, a, .ref v)])))) : SetI c (.ref d) (.ref a) (.ref v) m N K := ⟨fun o i v' e1 e2 e3 => by
  rw [er_ref e1, er_ref e2, er_ref e3]
  refine ⟨fun h0' tk gg Q E hg at' kk => ?_⟩
  have hm : (d, isDT c.w xs) ∈ N := by
    obtain ⟨pre, post, rfl, _⟩ := hp.split
    exact List.mem_append_right _ (.head _)
  have D := at_dictT at' hm hk
  refine wpAny_setItem_heap (s := c.st h0' tk gg) (knd := tupleKind (strKind PG c.w)) (v := .ref v) (tupleKind_room_in1 (by show c.un + 1 < cLine; have := G.u; unfold cLine; omega)) (at_key at' ha) D (fun h' D' hs' => ?_) (by rw [sizeLine_eq]; omega)
  rw [storedH_new hn] at D'
  refine kk () h' _ gg m _ hg (at'.upd hp (fun o _ _ => ?_) fun b o hb e => (hs'.2 b hb).trans e) h
  obtain ⟨o', es, ep, ho, h1, h2, h3, _, h5⟩ := D'
  exact ⟨o', ho, es, ep, h1, h2, h3, h5⟩⟩
theorem run_dictE {p : PySem.Pos} (h : ∀ d, (d == sysModules) = false → K (.ref d) m ((d, isDT c.w []) :: N)) (hb : ∀ h, At c h m N → (h.objs.size == sysModules) = false) : Run c er (eval (.Dict [] [] p) c.env) m N K :=
  ⟨fun h0 tk g Q E hg a k => wpAny_Dict_empty (s := c.st h0 tk g) (k _ _ _ g m ((h0.objs.size, isDT c.w []) :: N) hg (a.push ⟨#[], 0, ⟨rfl, rfl, rfl⟩, rfl, rfl, List.nodup_nil⟩) (h _ (hb _ a)))⟩
end
end Mine
end
section
open PySem PySem.W PyProof.Rows PySem.Calls
set_option maxRecDepth 100000
namespace Mine
section
variable {c : Cx} {m : Loc} {N : Led} {K : Kv}
theorem isD_nil {w : World} : ∃ (kv : Loc) (es : Array DictEntry) (ep : Nat), ({ cls := .type "dict", data := .dict #[] } : Obj).ExactDict ∧ ({ cls := .type "dict", data := .dict #[] } : Obj).data = .dict es ep ∧ KeysOf (strKind PG w) es ∧ _root_.PySem.Pairs (strKind PG w) es.toList kv ∧ (kv.map (·.1)).Nodup ∧ (∀ k, (valueAt kv k).map er = List.lookup k ([] : Loc)) ∧ kv.length ≤ ([] : Loc).length := by
  obtain ⟨o, es, ep, ho, h1, h2, h3, h4, h5⟩ := Heap.DictOf.new (knd := strKind PG w) { objs := #[] }
  rw [Heap.get?_push_size _ rfl] at ho
  cases ho
  exact ⟨[], es, ep, h1, h2, h3, h4, h5, fun _ => rfl, Nat.le_refl _⟩
theorem run_dict1 {x : Str} {kk : Nat} {p1 p : PySem.Pos} {v : Expr} (hb : ∀ h, At c h m N → (h.objs.size == sysModules) = false)
    (H : ∀ D, (D == sysModules) = false → Run c er (eval v c.env) m ((D, isD c.w []) :: N) fun u m' N' => ∃ g, Pos D (isD c.w []) N' g ∧ K (.ref D) m' (g (isD c.w [(x, u)]))) :
    Run c er (eval (.Dict [some (.Constant (.str x) kk p1)] [v] p) c.env) m N K := by
  refine ⟨fun h0 tk gg Q E hg a k => ?_⟩
  refine wpAny_Dict_walk (s := c.st h0 tk gg) (knd := strKind PG c.w) rfl rfl (by nofun) (by show 1 ≤ 15; decide) ?_
  have a1 : At c (h0.push { cls := .type "dict", data := .dict #[] }) m ((h0.objs.size, isD c.w []) :: N) := a.push isD_nil
  refine pairTrees_cons_walk (Calls.Constant_str ?_)
  refine (H _ (hb _ a)).go _ _ gg _ E hg a1 fun u h2 tk2 g2 m2 N2 hg2 a2 ⟨g, hp, q⟩ => ?_
  refine pairTrees_nil_walk ?_
  have hm : (h0.objs.size, isD c.w []) ∈ N2 := by
    obtain ⟨pre, post, rfl, _⟩ := hp.split
    exact List.mem_append_right _ (.head _)
  obtain ⟨kv, D, hl, hz⟩ := at_dict a2 hm
  have e0 : kv = [] := List.eq_nil_of_length_eq_zero (Nat.le_zero.mp hz)
  subst e0
  refine ⟨[(x, u)], ⟨strKind_is PG c.w x _, rfl, trivial⟩, D, fun h' D' hs => k _ h' _ g2 m2 _ hg2 (a2.upd hp (fun o _ _ => of_dict (kvs := [(x, er u)]) D' (fun y => ?_) (Nat.le_refl _)) fun b o hb e => (hs.2 b hb).trans e) q⟩
  rw [merged_nil_of_nodup _ (by simp), List.lookup_cons, valueAt_cons]
  by_cases h : x = y
  · rw [if_pos h, beq_iff_eq.mpr h.symm]; rfl
  · rw [if_neg h, beq_eq_false_iff_ne.mpr (fun e => h e.symm)]; rfl
theorem run_asgC {ns : List (Str × NameKind)} {cl clc : List (Str × Addr)} (Fc : Fn c ns cl) {x : Str} {px q pos : PySem.Pos} {elt t iter : Expr} {scope : Scope} {rest : List Stmt} {K : Kf}
    (hsw : swapsWith (.ListComp elt [⟨t, iter, [], 0⟩] scope pos) (some (.Name x px)) q.line c.env = pure true) (hclos : closureFor scope c.env = pure clc) (hkind : scope.kind = .function) (hnames : (scope.names.all fun x => !(x.2 == .local) || scope.names.lookup x.1 == some .local) = true) (hs : notSet iter = true)
    (H : Run c er (eval iter c.env) m N fun v m N => CompI c elt t iter scope pos clc v m N fun a m N => ∀ C mm, vSto ns cl x a m ((C, isNs mm) :: N) fun m N' => ∃ N2, N' = (C, isNs mm) :: N2 ∧ Run c erF (execs rest c.env) m N2 K) :
    Run c erF (execs (.Assign [.Name x px] (.ListComp elt [⟨t, iter, [], 0⟩] scope pos) q :: rest) c.env) m N K := by
  refine ⟨fun h0 tk g Q E hg a k => wpAny_execs_cons ?_⟩
  rw [exec_Assign_Name_used _ _ _ _ hsw]
  refine wpAny_bind (wpAny_standAt (wpAny_bind ?_))
  refine wpAny_bind (wpAny_comprehension_free (use := some (assign (.Name x px) c.env)) rfl (fun x => notSet_eq hs x) hclos hkind (fun x hx e => ?_) (H.go h0 tk g _ E hg a fun v h' tk' g' m' N' hg' a' q => q.go v h' tk' g' _ _ E rfl hg' a' fun D C mm h2 tk2 g2 m2 N2 hg2 a2 q2 => ?_))
  · have := List.all_eq_true.mp hnames x hx
    rw [e] at this
    simpa using this
  · refine (sto_name Fc.G Fc.ns_ Fc.cl_ (p := px) (v := .ref D) (q2 C mm)).go h2 tk2 g2 _ E hg2 a2 fun _ h3 tk3 g3 m3 N3 hg3 a3 ⟨N4, e, r⟩ => ?_
    subst e
    obtain ⟨μ, n, f⟩ := ns_off a3
    exact ⟨μ, n, fun h4 hs4 => wpAny_pure (wpAny_pure (r.go h4 tk3 g3 Q E hg3 (f h4 hs4) k))⟩
end
end Mine
end
section
open PySem
set_option maxRecDepth 100000
namespace Mine
def goV (p : Nat) : Int → Bool → List Nat → Int
  | _, _, [] => 0
  | st, ch, c :: r => let ch' := ch || c != p; let st' := if ch' then st / 2 else st; (if c == 97 then st' else -st') + goV p st' ch' r
def valL (l : List Nat) : Int := match l with
  | [] => 0
  | p :: r => goV p 8 false (p :: r)
def stepOf (v : Int) : Int := if v % 8 = 0 then 8 else if v % 4 = 0 then 4 else if v % 2 = 0 then 2 else 1
def okL (l : List Nat) : Bool :=
  ((List.range l.length).all fun p => if l.getD p 0 == 97 then decide (valL (l.take p) < valL l) else decide (valL l < valL (l.take p))) &&
  (!(valL l % 8 != 0 || decide (0 < valL l)) || (List.range l.length).any fun p => l.getD p 0 == 97 && valL (l.take p) == valL l - stepOf (valL l)) &&
  (!(valL l % 8 != 0 || decide (valL l < 0)) || (List.range l.length).any fun p => !(l.getD p 0 == 97) && valL (l.take p) == valL l + stepOf (valL l))
theorem ok_all : (FL.all okL) = true := by decide +kernel
theorem val_all : (FL.all fun l => worth8 ⟨l.toArray⟩ == valL l) = true := by decide +kernel
theorem worth_val {x : Str} (h : frontE x) : worth8 x = valL (lst x) := by
  rcases h with h | rfl
  · exact eq_of_beq (List.all_eq_true.mp val_all _ (fronts_iff.mp h))
  · rfl
theorem pre_frontE {x : Str} (h : frontE x) {k : Nat} (hk : k ≤ x.length) : frontE (pre x k) := by
  by_cases k0 : k = 0
  · subst k0
    exact .inr (lst_inj (by rw [lst_pre hk]; rfl))
  · rcases h with h | rfl
    · exact .inl (pre_front h k0 hk)
    · exact absurd (Nat.le_zero.mp hk) k0
theorem let_isA {x : Str} {p : Nat} (h : p < x.length) : (letAt x p == Str.ofString "a") = ((lst x).getD p 0 == 97) := by
  rw [lst_let h]
  by_cases e : (lst x).getD p 0 = 97
  · rw [e]; rfl
  · rw [beq_eq_false_iff_ne.mpr e, beq_eq_false_iff_ne]
    intro q
    have := congrArg (fun s : Str => s.cps.toList) q
    injection this with z
    exact e z
theorem not_t {b : Bool} (h : (!b) = true) : b = false := by
  cases b
  · rfl
  · cases h
structure CutFacts (x : Str) : Prop where
  a : ∀ q ∈ cutsA x, worth8 q < worth8 x
  b : ∀ q ∈ cutsB x, worth8 x < worth8 q
  ba : worth8 x % 8 ≠ 0 ∨ 0 < worth8 x → ∃ q ∈ cutsA x, worth8 q = worth8 x - stepOf (worth8 x)
  bb : worth8 x % 8 ≠ 0 ∨ worth8 x < 0 → ∃ q ∈ cutsB x, worth8 q = worth8 x + stepOf (worth8 x)
theorem okL_of {x : Str} (h : frontE x) : okL (lst x) = true := by
  rcases h with h | rfl
  · exact List.all_eq_true.mp ok_all _ (fronts_iff.mp h)
  · decide +kernel
theorem cut_facts {x : Str} (h : frontE x) : CutFacts x := by
  have ok := okL_of h
  unfold okL at ok
  rw [Bool.and_eq_true, Bool.and_eq_true, lst_len] at ok
  obtain ⟨⟨o1, o2⟩, o3⟩ := ok
  have hp : ∀ p, p < x.length → worth8 (pre x p) = valL ((lst x).take p) := fun p hp => by
    rw [worth_val (pre_frontE h (Nat.le_of_lt hp)), lst_pre (Nat.le_of_lt hp)]
  refine ⟨fun q hq => ?_, fun q hq => ?_, fun hv => ?_, fun hv => ?_⟩
  · obtain ⟨p, hp2, rfl⟩ := List.mem_map.mp hq
    obtain ⟨hr, hl⟩ := List.mem_filter.mp hp2
    have hr' := List.mem_range.mp hr
    have := List.all_eq_true.mp o1 p hr
    rw [← let_isA hr', hl, if_pos rfl] at this
    rw [hp p hr', worth_val h]
    exact of_decide_eq_true this
  · obtain ⟨p, hp2, rfl⟩ := List.mem_map.mp hq
    obtain ⟨hr, hl⟩ := List.mem_filter.mp hp2
    have hr' := List.mem_range.mp hr
    have := List.all_eq_true.mp o1 p hr
    rw [← let_isA hr', not_t hl, if_neg Bool.false_ne_true] at this
    rw [hp p hr', worth_val h]
    exact of_decide_eq_true this
  · rw [worth_val h] at hv
    rcases Bool.or_eq_true_iff.mp o2 with o2 | o2
    · exfalso
      rw [Bool.not_eq_true', Bool.or_eq_false_iff] at o2
      rcases hv with hv | hv
      · exact hv (by simpa using o2.1)
      · exact of_decide_eq_false o2.2 hv
    · obtain ⟨p, hr, e⟩ := List.any_eq_true.mp o2
      have hr' := List.mem_range.mp hr
      rw [Bool.and_eq_true] at e
      refine ⟨pre x p, List.mem_map.mpr ⟨p, List.mem_filter.mpr ⟨hr, ?_⟩, rfl⟩, ?_⟩
      · rw [let_isA hr']; exact e.1
      · rw [hp p hr', worth_val h]; exact eq_of_beq e.2
  · rw [worth_val h] at hv
    rcases Bool.or_eq_true_iff.mp o3 with o2 | o2
    · exfalso
      rw [Bool.not_eq_true', Bool.or_eq_false_iff] at o2
      rcases hv with hv | hv
      · exact hv (by simpa using o2.1)
      · exact of_decide_eq_false o2.2 hv
    · obtain ⟨p, hr, e⟩ := List.any_eq_true.mp o2
      have hr' := List.mem_range.mp hr
      rw [Bool.and_eq_true] at e
      refine ⟨pre x p, List.mem_map.mpr ⟨p, List.mem_filter.mpr ⟨hr, ?_⟩, rfl⟩, ?_⟩
      · rw [let_isA hr']; exact e.1
      · rw [hp p hr', worth_val h]; exact eq_of_beq e.2
def pos8 (v : Int) : Prop := v % 8 ≠ 0 ∨ 0 < v
theorem step_odd {v : Int} (h : v % 2 ≠ 0) : stepOf v = 1 := by
  unfold stepOf
  rw [if_neg (by omega), if_neg (by omega), if_neg h]
theorem step_two {v : Int} (h2 : v % 2 = 0) (h : v % 4 ≠ 0) : stepOf v = 2 := by
  unfold stepOf
  rw [if_neg (by omega), if_neg h, if_pos h2]
theorem step_four {v : Int} (h4 : v % 4 = 0) (h : v % 8 ≠ 0) : stepOf v = 4 := by
  unfold stepOf
  rw [if_neg h, if_pos h4]
theorem step_eight {v : Int} (h : v % 8 = 0) : stepOf v = 8 := by
  unfold stepOf
  rw [if_pos h]
theorem step_neg (v : Int) : stepOf (-v) = stepOf v := by
  by_cases h8 : v % 8 = 0
  · rw [step_eight h8, step_eight (by omega)]
  · by_cases h4 : v % 4 = 0
    · rw [step_four h4 h8, step_four (by omega) (by omega)]
    · by_cases h2 : v % 2 = 0
      · rw [step_two h2 h4, step_two (by omega) (by omega)]
      · rw [step_odd h2, step_odd (by omega)]
theorem pick3 {x y z : Int} (h : 0 < x + y + z) : (pos8 x ∧ stepOf x ≤ x + y + z) ∨ (pos8 y ∧ stepOf y ≤ x + y + z) ∨ (pos8 z ∧ stepOf z ≤ x + y + z) := by
  by_cases x2 : x % 2 = 0
  · by_cases y2 : y % 2 = 0
    · by_cases z2 : z % 2 = 0
      · by_cases x4 : x % 4 = 0
        · by_cases y4 : y % 4 = 0
          · by_cases z4 : z % 4 = 0
            · by_cases x8 : x % 8 = 0
              · by_cases y8 : y % 8 = 0
                · by_cases z8 : z % 8 = 0
                  · rw [step_eight x8, step_eight y8, step_eight z8]
                    by_cases hx : 0 < x
                    · exact .inl ⟨.inr hx, by omega⟩
                    · by_cases hy : 0 < y
                      · exact .inr (.inl ⟨.inr hy, by omega⟩)
                      · exact .inr (.inr ⟨.inr (by omega), by omega⟩)
                  · exact .inr (.inr ⟨.inl z8, by rw [step_four z4 z8]; omega⟩)
                · exact .inr (.inl ⟨.inl y8, by rw [step_four y4 y8]; omega⟩)
              · exact .inl ⟨.inl x8, by rw [step_four x4 x8]; omega⟩
            · exact .inr (.inr ⟨.inl (by omega), by rw [step_two z2 z4]; omega⟩)
          · exact .inr (.inl ⟨.inl (by omega), by rw [step_two y2 y4]; omega⟩)
        · exact .inl ⟨.inl (by omega), by rw [step_two x2 x4]; omega⟩
      · exact .inr (.inr ⟨.inl (by omega), by rw [step_odd z2]; omega⟩)
    · exact .inr (.inl ⟨.inl (by omega), by rw [step_odd y2]; omega⟩)
  · exact .inl ⟨.inl (by omega), by rw [step_odd x2]; omega⟩
def bitsA (x y z : Str) : List Bool := ((cutsA x).map fun q => decide (worth8 q + worth8 y + worth8 z < 0)) ++ ((cutsA y).map fun q => decide (worth8 x + worth8 q + worth8 z < 0)) ++ (cutsA z).map fun q => decide (worth8 x + worth8 y + worth8 q < 0)
def bitsB (x y z : Str) : List Bool := ((cutsB x).map fun q => decide (0 < worth8 q + worth8 y + worth8 z)) ++ ((cutsB y).map fun q => decide (0 < worth8 x + worth8 q + worth8 z)) ++ (cutsB z).map fun q => decide (0 < worth8 x + worth8 y + worth8 q)
theorem contains_app {l r : List Bool} {b : Bool} : (l ++ r).contains b = (l.contains b || r.contains b) := by
  rw [List.contains_eq_any_beq, List.contains_eq_any_beq, List.contains_eq_any_beq, List.any_append]
theorem contains_false {α : Type} {f : α → Bool} {l : List α} : (l.map f).contains false = true ↔ ∃ q ∈ l, f q = false := by
  rw [List.contains_iff_mem, List.mem_map]
theorem game_a {x y z : Str} (hx : frontE x) (hy : frontE y) (hz : frontE z) : (bitsA x y z).contains false = decide (0 < worth8 x + worth8 y + worth8 z) := by
  have cx := cut_facts hx
  have cy := cut_facts hy
  have cz := cut_facts hz
  rw [Bool.eq_iff_iff, decide_eq_true_eq]
  unfold bitsA
  rw [contains_app, contains_app, Bool.or_eq_true, Bool.or_eq_true, contains_false, contains_false, contains_false]
  constructor
  · rintro ((⟨q, hq, e⟩ | ⟨q, hq, e⟩) | ⟨q, hq, e⟩)
    · have := cx.a q hq; have := of_decide_eq_false e; omega
    · have := cy.a q hq; have := of_decide_eq_false e; omega
    · have := cz.a q hq; have := of_decide_eq_false e; omega
  · intro h
    rcases pick3 h with ⟨p, s⟩ | ⟨p, s⟩ | ⟨p, s⟩
    · obtain ⟨q, hq, e⟩ := cx.ba p
      exact .inl (.inl ⟨q, hq, decide_eq_false (by omega)⟩)
    · obtain ⟨q, hq, e⟩ := cy.ba p
      exact .inl (.inr ⟨q, hq, decide_eq_false (by omega)⟩)
    · obtain ⟨q, hq, e⟩ := cz.ba p
      exact .inr ⟨q, hq, decide_eq_false (by omega)⟩
theorem pos_neg {v : Int} (p : pos8 (-v)) : v % 8 ≠ 0 ∨ v < 0 := by
  rcases p with p | p
  · exact .inl (by omega)
  · exact .inr (by omega)
theorem game_b {x y z : Str} (hx : frontE x) (hy : frontE y) (hz : frontE z) : (bitsB x y z).contains false = decide (worth8 x + worth8 y + worth8 z < 0) := by
  have cx := cut_facts hx
  have cy := cut_facts hy
  have cz := cut_facts hz
  rw [Bool.eq_iff_iff, decide_eq_true_eq]
  unfold bitsB
  rw [contains_app, contains_app, Bool.or_eq_true, Bool.or_eq_true, contains_false, contains_false, contains_false]
  constructor
  · rintro ((⟨q, hq, e⟩ | ⟨q, hq, e⟩) | ⟨q, hq, e⟩)
    · have := cx.b q hq; have := of_decide_eq_false e; omega
    · have := cy.b q hq; have := of_decide_eq_false e; omega
    · have := cz.b q hq; have := of_decide_eq_false e; omega
  · intro h
    have h' : 0 < -worth8 x + -worth8 y + -worth8 z := by omega
    rcases pick3 h' with ⟨p, s⟩ | ⟨p, s⟩ | ⟨p, s⟩ <;> rw [step_neg] at s
    · obtain ⟨q, hq, e⟩ := cx.bb (pos_neg p)
      exact .inl (.inl ⟨q, hq, decide_eq_false (by omega)⟩)
    · obtain ⟨q, hq, e⟩ := cy.bb (pos_neg p)
      exact .inl (.inr ⟨q, hq, decide_eq_false (by omega)⟩)
    · obtain ⟨q, hq, e⟩ := cz.bb (pos_neg p)
      exact .inr ⟨q, hq, decide_eq_false (by omega)⟩
theorem ans_all : ((List.range 113).all fun n => let t : Int := (n : Int) - 56; (t == 0 && ansOf t == Str.ofString "" || FL.contains (lst (ansOf t)) && valL (lst (ansOf t)) == -t)) = true := by decide +kernel
theorem ans_worth {t : Int} (h : -56 ≤ t) (h' : t ≤ 56) : frontE (ansOf t) ∧ worth8 (ansOf t) = -t := by
  have := List.all_eq_true.mp ans_all (t + 56).toNat (List.mem_range.mpr (by omega))
  have e : (((t + 56).toNat : Nat) : Int) - 56 = t := by omega
  dsimp only at this
  rw [e] at this
  rcases Bool.or_eq_true_iff.mp this with q | q
  · rw [Bool.and_eq_true] at q
    have q1 := eq_of_beq q.1
    have q2 := eq_of_beq q.2
    rw [q2, q1]
    exact ⟨.inr rfl, rfl⟩
  · rw [Bool.and_eq_true] at q
    have hf : ansOf t ∈ fronts := fronts_iff.mpr (List.contains_iff_mem.mp q.1)
    exact ⟨.inl hf, (worth_val (.inl hf)).trans (eq_of_beq q.2)⟩
def headL (n : Int) : Str := Txt.item (Str.ofString "ab") (n % 2)
def letL (n : Int) : Str := if n % 3 = 0 then Str.ofString "a" else if n % 3 = 1 then Str.ofString "b" else Str.ofString ""
def stalkL (n : Int) (ns : List Int) : Str := headL n ++ Txt.join (Str.ofString "") (ns.map letL)
def words : Nat → List (List Str)
  | 0 => [[]]
  | n + 1 => [Str.ofString "a", Str.ofString "b", Str.ofString ""].flatMap fun y => (words n).map (y :: ·)
def stalkOk (b : Int) (x : Str) : Bool := FL.contains (lst x) && decide (-b ≤ valL (lst x)) && decide (valL (lst x) ≤ b)
theorem stalk_all : ([Str.ofString "a", Str.ofString "b"].all fun h => ((words 3).all fun ys => stalkOk 32 (h ++ Txt.join (Str.ofString "") ys)) && (words 2).all fun ys => stalkOk 24 (h ++ Txt.join (Str.ofString "") ys)) = true := by decide +kernel
theorem headL_mem (n : Int) : headL n ∈ [Str.ofString "a", Str.ofString "b"] := by
  unfold headL
  have h0 := Int.emod_nonneg n (show (2 : Int) ≠ 0 by decide)
  have h1 := Int.emod_lt_of_pos n (show (0 : Int) < 2 by decide)
  rcases (show n % 2 = 0 ∨ n % 2 = 1 by omega) with h | h <;> rw [h]
  · exact .head _
  · exact .tail _ (.head _)
theorem letL_mem (n : Int) : letL n ∈ [Str.ofString "a", Str.ofString "b", Str.ofString ""] := by
  unfold letL
  split
  · exact .head _
  · split
    · exact .tail _ (.head _)
    · exact .tail _ (.tail _ (.head _))
theorem words_mem : ∀ ns : List Int, ns.map letL ∈ words ns.length
  | [] => .head _
  | n :: ns => List.mem_flatMap.mpr ⟨letL n, letL_mem n, List.mem_map.mpr ⟨_, words_mem ns, rfl⟩⟩
theorem stalkOk_facts {b : Int} {x : Str} (h : stalkOk b x = true) : x ∈ fronts ∧ -b ≤ worth8 x ∧ worth8 x ≤ b := by
  unfold stalkOk at h
  rw [Bool.and_eq_true, Bool.and_eq_true] at h
  have hf : x ∈ fronts := fronts_iff.mpr (List.contains_iff_mem.mp h.1.1)
  rw [worth_val (.inl hf)]
  exact ⟨hf, of_decide_eq_true h.1.2, of_decide_eq_true h.2⟩
theorem stalk3 (n : Int) {ns : List Int} (h : ns.length = 3) : stalkL n ns ∈ fronts ∧ -32 ≤ worth8 (stalkL n ns) ∧ worth8 (stalkL n ns) ≤ 32 := by
  have a := List.all_eq_true.mp stalk_all _ (headL_mem n)
  rw [Bool.and_eq_true] at a
  exact stalkOk_facts (List.all_eq_true.mp a.1 _ (h ▸ words_mem ns))
theorem stalk2 (n : Int) {ns : List Int} (h : ns.length = 2) : stalkL n ns ∈ fronts ∧ -24 ≤ worth8 (stalkL n ns) ∧ worth8 (stalkL n ns) ≤ 24 := by
  have a := List.all_eq_true.mp stalk_all _ (headL_mem n)
  rw [Bool.and_eq_true] at a
  exact stalkOk_facts (List.all_eq_true.mp a.2 _ (h ▸ words_mem ns))
end Mine
end
section
open PySem PySem.W PyProof.Rows PySem.Calls
set_option maxRecDepth 100000
namespace Mine
abbrev WEnt := (Nat × Nat × Nat) × Addr × Addr
section
variable (X Y Z : Str)
def keyW (t : Nat × Nat × Nat) : List Str := [pre X t.1, pre Y t.2.1, pre Z t.2.2]
def sumW (t : Nat × Nat × Nat) : Int := worth8 (pre X t.1) + worth8 (pre Y t.2.1) + worth8 (pre Z t.2.2)
def inW (t : Nat × Nat × Nat) : Prop := t.1 ≤ X.length ∧ t.2.1 ≤ Y.length ∧ t.2.2 ≤ Z.length
def dtW (W : List WEnt) : List (List Str × Addr × Value) := W.map fun q => (keyW X Y Z q.1, q.2.1, Value.ref q.2.2)
def frW (W : List WEnt) : Led := W.flatMap fun q => [(q.2.1, isT (svs (keyW X Y Z q.1))), (q.2.2, isT [.bool (decide (0 < sumW X Y Z q.1)), .bool (decide (sumW X Y Z q.1 < 0))])]
noncomputable def winL (w : World) (d : Addr) (W : List WEnt) : Led := (d, isDT w (dtW X Y Z W)) :: frW X Y Z W
end
section
variable {X Y Z : Str}
theorem keyW_inj {s t : Nat × Nat × Nat} (hs : inW X Y Z s) (ht : inW X Y Z t) (h : keyW X Y Z s = keyW X Y Z t) : s = t := by
  unfold keyW at h
  injection h with h1 h
  injection h with h2 h
  injection h with h3 _
  have e1 := congrArg Str.length h1
  have e2 := congrArg Str.length h2
  have e3 := congrArg Str.length h3
  rw [pre_len hs.1, pre_len ht.1] at e1
  rw [pre_len hs.2.1, pre_len ht.2.1] at e2
  rw [pre_len hs.2.2, pre_len ht.2.2] at e3
  exact Prod.ext e1 (Prod.ext e2 e3)
theorem atW_some {t : Nat × Nat × Nat} (ht : inW X Y Z t) : ∀ {W : List WEnt}, (∀ q ∈ W, inW X Y Z q.1) → (∃ q ∈ W, q.1 = t) → ∃ q ∈ W, q.1 = t ∧ atKey (dtW X Y Z W) (keyW X Y Z t) = some (q.2.1, .ref q.2.2)
  | [], _, h => by obtain ⟨q, hq, _⟩ := h; cases hq
  | p :: W, hW, h => by
    by_cases e : p.1 = t
    · refine ⟨p, .head _, e, ?_⟩
      unfold atKey dtW
      rw [List.map_cons, List.find?_cons, e, decide_eq_true rfl]
      rfl
    · obtain ⟨q, hq, eq⟩ := h
      have hq : q ∈ W := by
        rcases List.mem_cons.mp hq with h | h
        · exact absurd (h ▸ eq) e
        · exact h
      obtain ⟨r, hr, er, h⟩ := atW_some ht (W := W) (fun q hq => hW q (.tail _ hq)) ⟨q, hq, eq⟩
      refine ⟨r, .tail _ hr, er, ?_⟩
      unfold atKey dtW at h ⊢
      rw [List.map_cons, List.find?_cons, decide_eq_false fun q => e (keyW_inj (hW p (.head _)) ht q)]
      exact h
theorem atW_none {t : Nat × Nat × Nat} (ht : inW X Y Z t) {W : List WEnt} (hW : ∀ q ∈ W, inW X Y Z q.1 ∧ q.1 ≠ t) : atKey (dtW X Y Z W) (keyW X Y Z t) = none := by
  unfold atKey
  rw [Option.map_eq_none_iff, List.find?_eq_none]
  intro x hx e
  obtain ⟨q, hq, rfl⟩ := List.mem_map.mp hx
  exact (hW q hq).2 (keyW_inj (hW q hq).1 ht (of_decide_eq_true e))
theorem frW_mem {W : List WEnt} {q : WEnt} (h : q ∈ W) : (q.2.1, isT (svs (keyW X Y Z q.1))) ∈ frW X Y Z W ∧ (q.2.2, isT [.bool (decide (0 < sumW X Y Z q.1)), .bool (decide (sumW X Y Z q.1 < 0))]) ∈ frW X Y Z W :=
  ⟨List.mem_flatMap.mpr ⟨q, h, .head _⟩, List.mem_flatMap.mpr ⟨q, h, .tail _ (.head _)⟩⟩
end
end Mine
end
section
open PySem PySem.W PyProof.Rows PySem.Calls
set_option maxRecDepth 100000
namespace Mine
section
variable {c : Cx} {m : Loc} {N : Led} {K : Kv}
theorem subS_any {v i : Expr} {o l u st : Value} (h : SubS c (.Name (Str.ofString "t") default) i o l u st m N K) : SubS c v i o l u st m N K :=
  ⟨fun o' l' u' st' h0 tk g Q E e1 e2 e3 e4 hg a k => kba_turn (value' := .Name (Str.ofString "t") default) (fun _ => rfl) (h.go o' l' u' st' h0 tk g Q E e1 e2 e3 e4 hg a k)⟩
theorem sub_any {v i : Expr} {o j : Value} (h : Sub c (.Name (Str.ofString "t") default) i o j m N K) : Sub c v i o j m N K :=
  ⟨fun o' j' e1 e2 => ⟨fun h0 tk g Q E hg a k => kba_turn (value' := .Name (Str.ofString "t") default) (fun _ => rfl) ((h.go o' j' e1 e2).go h0 tk g Q E hg a k)⟩⟩
end
theorem CompI.post {c : Cx} {m : Loc} {N : Led} {K : Kv} {elt t iter : Expr} {scope : Scope} {pos : PySem.Pos} {cl : List (Str × Addr)} {x : Value} (H : CompI c elt t iter scope pos cl x m N fun v m N => ∃ N', Pk N N' ∧ K v m N') : CompI c elt t iter scope pos cl x m N K :=
  ⟨fun x' h tk g use Q E e hg a k => H.go x' h tk g use Q E e hg a fun D C mm h' tk' g' m' _ hg' a' ⟨N2, pk, q⟩ => k D C mm h' tk' g' m' N2 hg' (a'.pick (.cons .head pk)) q⟩
theorem cutsA_mem {x q : Str} {i : Nat} (h : i ≤ x.length) (hq : q ∈ cutsA (pre x i)) : ∃ p, p < i ∧ q = pre x p := by
  obtain ⟨p, hp, rfl⟩ := List.mem_map.mp hq
  have := List.mem_range.mp (List.mem_filter.mp hp).1
  rw [pre_len h] at this
  exact ⟨p, this, pre_pre h (Nat.le_of_lt this)⟩
theorem cutsB_mem {x q : Str} {i : Nat} (h : i ≤ x.length) (hq : q ∈ cutsB (pre x i)) : ∃ p, p < i ∧ q = pre x p := by
  obtain ⟨p, hp, rfl⟩ := List.mem_map.mp hq
  have := List.mem_range.mp (List.mem_filter.mp hp).1
  rw [pre_len h] at this
  exact ⟨p, this, pre_pre h (Nat.le_of_lt this)⟩
theorem cutsA_len (x : Str) : (cutsA x).length ≤ x.length := by
  unfold cutsA cutsTo
  rw [List.length_map]
  exact Nat.le_trans (List.length_filter_le _ _) (Nat.le_of_eq List.length_range)
theorem cutsB_len (x : Str) : (cutsB x).length ≤ x.length := by
  unfold cutsB
  rw [List.length_map]
  exact Nat.le_trans (List.length_filter_le _ _) (Nat.le_of_eq List.length_range)
theorem at_snoc {xs : List (List Str × Addr × Value)} {ks : List Str} {a : Addr} {v : Value} (h : atKey xs ks = none) : atKey (xs ++ [(ks, a, v)]) ks = some (a, v) := by
  unfold atKey at h ⊢
  rw [Option.map_eq_none_iff] at h
  rw [List.find?_append, h, List.find?_cons, decide_eq_true rfl]
  rfl
theorem sgn_gt (a b d : Int) (e : Nat) : decide (0 < a * 2 ^ e + b * 2 ^ e + d * 2 ^ e) = decide (0 < a + b + d) := by
  have h : (0 : Int) < 2 ^ e := Int.pow_pos (by decide)
  rw [← Int.add_mul, ← Int.add_mul, decide_eq_decide]
  exact ⟨fun q => Int.not_le.mp fun z => absurd (Int.mul_nonpos_of_nonpos_of_nonneg z (Int.le_of_lt h)) (Int.not_le.mpr q), fun q => Int.mul_pos q h⟩
theorem sgn_lt (a b d : Int) (e : Nat) : decide (a * 2 ^ e + b * 2 ^ e + d * 2 ^ e < 0) = decide (a + b + d < 0) := by
  have h : (0 : Int) < 2 ^ e := Int.pow_pos (by decide)
  rw [← Int.add_mul, ← Int.add_mul, decide_eq_decide]
  exact ⟨fun q => Int.not_le.mp fun z => absurd (Int.mul_nonneg z (Int.le_of_lt h)) (Int.not_le.mpr q), fun q => Int.mul_neg_of_neg_of_pos q h⟩
structure Cel (c : Cx) (x y z : Str) (d3 : Addr) (R : Led) : Prop where
  x : (c.L + 1, isCell (some (.str x 0))) ∈ R
  y : (c.L + 1 + 1 + 1 + 1 + 1 + 1, isCell (some (.str y 0))) ∈ R
  z : (c.L + 1 + 1 + 1 + 1 + 1 + 1 + 1, isCell (some (.str z 0))) ∈ R
  wins : (c.L + 1 + 1 + 1 + 1 + 1, isCell (some (.ref d3))) ∈ R
structure InL (c : Cx) (X Y Z : Str) (W : List WEnt) (x y z : Str) (d3 : Addr) (R : Led) : Prop where
  cel : Cel c x y z d3 R
  dt : (d3, isDT c.w (dtW X Y Z W)) ∈ R
  fr : ∀ q ∈ frW X Y Z W, q ∈ R
theorem Cel.mono {c : Cx} {x y z : Str} {d3 : Addr} {R R' : Led} (h : Cel c x y z d3 R) (s : ∀ q ∈ R, q ∈ R') : Cel c x y z d3 R' := ⟨s _ h.x, s _ h.y, s _ h.z, s _ h.wins⟩
theorem InL.mono {c : Cx} {X Y Z : Str} {W : List WEnt} {x y z : Str} {d3 : Addr} {R R' : Led} (h : InL c X Y Z W x y z d3 R) (s : ∀ q ∈ R, q ∈ R') : InL c X Y Z W x y z d3 R' := ⟨h.cel.mono s, s _ h.dt, fun q hq => s _ (h.fr q hq)⟩
theorem dtW_keys {X Y Z : Str} {W : List WEnt} {R : Led} (h : ∀ q ∈ frW X Y Z W, q ∈ R) : ∀ q ∈ dtW X Y Z W, (q.2.1, isT (svs q.1)) ∈ R := fun q hq => by
  obtain ⟨p, hp, rfl⟩ := List.mem_map.mp hq
  exact h _ (frW_mem hp).1
section
variable {c : Cx} {m : Loc} {K : Kv}
theorem vG_wins {env : Env} {V : Str → Loc → Led → Kv → Prop} {n : Nat} {N : Led} {x : Str} {e1 e2 e3 : Expr} {kt kc : Nat} {b : Int} {p1 p2 p3 p4 p5 : PySem.Pos}
    (h : V x m N fun o m N => noStar [e1, e2, e3] = true ∧ vG c env V n e1 m N fun v1 m N => vG c env V n e2 m N fun v2 m N => vG c env V n e3 m N fun v3 m N => Nat.ble [v1, v2, v3].length 1000 = true ∧ ∀ a, Sub c (.Name x p1) (.Tuple [e1, e2, e3] kt p2) o (.ref a) m ((a, isT [v1, v2, v3]) :: N) fun r m N => Sub c (.Subscript (.Name x p1) (.Tuple [e1, e2, e3] kt p2) p3) (.Constant (.int b) kc p4) r (.int b 0) m N K) :
    vG c env V (n + 3) (.Subscript (.Subscript (.Name x p1) (.Tuple [e1, e2, e3] kt p2) p3) (.Constant (.int b) kc p4) p5) m N K := h
theorem comp_wins (G : Good c) {X Y Z : Str} {W : List WEnt} {cx cy cz x : Str} {d3 l : Addr} {e1 e2 e3 iter : Expr} {kt kc : Nat} {p1 p2 p3 p4 p5 px pos : PySem.Pos} {b : Int} {scope : Scope} {ns : List (Str × NameKind)} {clc : List (Str × Addr)} {qs : List Str} {T L0 R0 : Led} {v1 v2 v3 : Value → Value} (f : Str → Bool)
    (Fc : FnC c scope ns clc) (hx : ns.lookup x = some .local) (hz : qs.length ≤ 1000) (hp : ((l, isL (svs qs)) :: R0).Perm L0) (hR : InL c X Y Z W cx cy cz d3 R0) (hW : ∀ q ∈ W, inW X Y Z q.1) (hb0 : 0 ≤ b) (hb : b < 1000)
    (hst : noStar [e1, e2, e3] = true) (hs : ∀ r i : Value, subscripted (.Tuple [e1, e2, e3] kt p2) false r i = operate [r, i] (getItem r i))
    (E0 : ∀ C N K, Cel c cx cy cz d3 N → K (.ref d3) m N → vNameC ns C clc (Str.ofString "wins") m N K)
    (E1 : ∀ C mm u N K, (C, isNs ((x, u) :: mm)) ∈ N → Cel c cx cy cz d3 N → K (v1 u) m N → vG c (compEnvC scope clc C c.env) (vNameC ns C clc) 6 e1 m N K)
    (E2 : ∀ C mm u N K, (C, isNs ((x, u) :: mm)) ∈ N → Cel c cx cy cz d3 N → K (v2 u) m N → vG c (compEnvC scope clc C c.env) (vNameC ns C clc) 6 e2 m N K)
    (E3 : ∀ C mm u N K, (C, isNs ((x, u) :: mm)) ∈ N → Cel c cx cy cz d3 N → K (v3 u) m N → vG c (compEnvC scope clc C c.env) (vNameC ns C clc) 6 e3 m N K)
    (hq : ∀ q ∈ qs, ∃ t, inW X Y Z t ∧ (∃ p ∈ W, p.1 = t) ∧ [v1 (.str q 0), v2 (.str q 0), v3 (.str q 0)] = svs (keyW X Y Z t) ∧ [Value.bool (decide (0 < sumW X Y Z t)), .bool (decide (sumW X Y Z t < 0))][b.toNat]? = some (.bool (f q)))
    (done : ∀ D, K (.ref D) m ((D, isL ((qs.map f).map Value.bool)) :: (T ++ L0))) :
    CompI c (.Subscript (.Subscript (.Name (Str.ofString "wins") p1) (.Tuple [e1, e2, e3] kt p2) p3) (.Constant (.int b) kc p4) p5) (.Name x px) iter scope pos clc (.ref l) m (T ++ L0) K := by
  refine CompI.post (comp_list Fc (l := l) (vs := svs qs) (N0 := T ++ R0) (.perm ?_) ((qs.map f).map Value.bool) ?_ ?_ hx ?_ ?_)
  · exact List.perm_middle.symm.trans (hp.append_left T)
  · unfold svs
    rw [List.length_map, List.length_map, List.length_map]
  · unfold svs
    rw [List.length_map]
    exact hz
  · intro i u C mm D ys I oI lo hu
    unfold svs at hu
    rw [List.getElem?_map] at hu
    obtain ⟨q, hi, rfl⟩ := Option.map_eq_some_iff.mp hu
    obtain ⟨t, ht, hin, hk, hbit⟩ := hq q (List.mem_of_getElem? hi)
    have sub : ∀ r ∈ R0, r ∈ (C, isNs ((x, .str q 0) :: mm)) :: (D, isL ys) :: (I, isRaw oI) :: (l, isRaw lo) :: (T ++ R0) := fun r hr => .tail _ (.tail _ (.tail _ (.tail _ (List.mem_append_right _ hr))))
    have hR' := hR.mono sub
    clear sub hu
    generalize hN : (D, isL ys) :: (I, isRaw oI) :: (l, isRaw lo) :: (T ++ R0) = N at hR' ⊢
    refine vG_wins (n := 6) ?_
    refine E0 C ((C, isNs ((x, .str q 0) :: mm)) :: N) _ hR'.cel ?_
    refine And.intro hst ?_
    refine E1 C mm (.str q 0) _ _ (.head _) hR'.cel ?_
    refine E2 C mm (.str q 0) _ _ (.head _) hR'.cel ?_
    refine E3 C mm (.str q 0) _ _ (.head _) hR'.cel ?_
    refine And.intro rfl fun a => ?_
    rw [hk]
    obtain ⟨p, hp, rfl, hat⟩ := atW_some ht hW hin
    refine sub_dictT G (xs := dtW X Y Z W) (.tail _ hR'.dt) (dtW_keys fun r hr => .tail _ (hR'.fr r hr)) (.head _) hat (hs _ _) (fun r => rfl) ?_
    refine sub_any (sub_tup (.tail _ (hR'.fr _ (frW_mem hp).2)) hb0 hb hbit (fun t => rfl) (fun r => rfl) ?_)
    subst hN
    refine ⟨rfl, ?_, _, .drop .all⟩
    rw [List.getElem?_map, List.getElem?_map, hi]
    rfl
  · intro D
    exact ⟨_, .perm (.cons _ ((hp.symm.append_left T).trans List.perm_middle)), done D⟩
theorem cmp_in_is {l : Addr} {bs : List Bool} {b r : Bool} {N : Led} (hl : (l, isL (bs.map Value.bool)) ∈ N) (e : bs.contains b = r) (h : K (.bool r) m N) : Cmp c .In (.bool b) (.ref l) m N K := cmp_in_bools hl (by rw [e]; exact h)
end
def InEnd (d1 d2 : Addr) (FIN : Addr → Addr → Led) (f : Flow) (m : Loc) (N : Led) : Prop := f = .next ∧ Knows m [("worths", .ref d2), ("cuts", .ref d1)] ∧ ∃ ka va, Pk N (FIN ka va)
structure Inner (c : Cx) (X Y Z : Str) (W : List WEnt) (t : Nat × Nat × Nat) (e : Nat) (d1 d2 d3 : Addr) (K3 : List KEnt) (L0 : Led) (g : AO → Led) (FIN : Addr → Addr → Led) : Prop where
  inl : InL c X Y Z W (pre X t.1) (pre Y t.2.1) (pre Z t.2.2) d3 L0
  d1m : (d1, isD c.w (kd1 K3)) ∈ L0
  d2m : (d2, isD c.w (kd2 e K3)) ∈ L0
  tup : ∀ q ∈ K3, (q.2.1, isT [.ref q.2.2.1, .ref q.2.2.2]) ∈ L0
  cutA : ∀ q ∈ K3, ∃ R, ((q.2.2.1, isL (svs (cutsA q.1))) :: R).Perm L0 ∧ InL c X Y Z W (pre X t.1) (pre Y t.2.1) (pre Z t.2.2) d3 R
  cutB : ∀ q ∈ K3, ∃ R, ((q.2.2.2, isL (svs (cutsB q.1))) :: R).Perm L0 ∧ InL c X Y Z W (pre X t.1) (pre Y t.2.1) (pre Z t.2.2) d3 R
  pos : Pos d3 (isDT c.w (dtW X Y Z W)) L0 g
  cel : ∀ P, Cel c (pre X t.1) (pre Y t.2.1) (pre Z t.2.2) d3 (g P)
  d2g : ∀ P, (d2, isD c.w (kd2 e K3)) ∈ g P
  dt : ∀ P, (d3, P) ∈ g P
  fr : ∀ P, ∀ q ∈ frW X Y Z W, q ∈ g P
  fin : ∀ ka va, Pk ((ka, isT (svs (keyW X Y Z t))) :: (va, isT [.bool (decide (0 < sumW X Y Z t)), .bool (decide (sumW X Y Z t < 0))]) :: g (isDT c.w (dtW X Y Z (W ++ [(t, ka, va)])))) (FIN ka va)
theorem cut_of {A F B : Led} {P : Led → Prop} (mono : ∀ {R R' : Led}, P R → (∀ q ∈ R, q ∈ R') → P R') (h : P (A ++ B)) {q : Addr × AO} (hq : q ∈ F) : ∃ R, (q :: R).Perm (A ++ (F ++ B)) ∧ P R := by
  obtain ⟨s, r, rfl⟩ := List.append_of_mem hq
  refine ⟨A ++ (s ++ (r ++ B)), ?_, mono h fun q hq => ?_⟩
  · rw [List.append_assoc]
    exact List.perm_middle.symm.trans ((List.perm_middle.symm).append_left A)
  · rcases List.mem_append.mp hq with h | h
    · exact List.mem_append_left _ h
    · exact List.mem_append_right _ (List.mem_append_right _ (List.mem_append_right _ h))
theorem fin_perm (M F : Led) (a b : Addr × AO) : (M ++ (F ++ [a, b])).Perm (a :: b :: (M ++ F)) := by
  rw [← List.append_assoc]
  exact List.perm_append_comm
noncomputable def led1 (c : Cx) (vz vy vx vt vs vf : Option Value) (d3 : Addr) : Led := [(c.L + 1 + 1 + 1 + 1 + 1 + 1 + 1, isCell vz), (c.L + 1 + 1 + 1 + 1 + 1 + 1, isCell vy), (c.L + 1 + 1 + 1 + 1 + 1, isCell (some (.ref d3))), (c.L + 1 + 1 + 1 + 1, isCell vt), (c.L + 1 + 1 + 1, isCell vs), (c.L + 1 + 1, isCell vf), (c.L + 1, isCell vx)]
noncomputable def led2 (c : Cx) (vz vy vx vt vs vf : Option Value) (e : Nat) (d1 d2 d3 : Addr) (K3 : List KEnt) (T1 T2 Q : Led) : Led := led1 c vz vy vx vt vs vf d3 ++ ((126, isTab) :: (T1 ++ (lrn c.w e d1 d2 K3 ++ (T2 ++ Q))))
theorem inner_of (c : Cx) (X Y Z : Str) (W : List WEnt) (t : Nat × Nat × Nat) (e : Nat) (d1 d2 d3 : Addr) (K3 : List KEnt) (O T1 T2 : Led) (vt vs vf : Option Value) :
    Inner c X Y Z W t e d1 d2 d3 K3 (O ++ led2 c (some (.str (pre Z t.2.2) 0)) (some (.str (pre Y t.2.1) 0)) (some (.str (pre X t.1) 0)) vt vs vf e d1 d2 d3 K3 T1 T2 (winL X Y Z c.w d3 W))
      (fun P => O ++ led2 c (some (.str (pre Z t.2.2) 0)) (some (.str (pre Y t.2.1) 0)) (some (.str (pre X t.1) 0)) vt vs vf e d1 d2 d3 K3 T1 T2 ((d3, P) :: frW X Y Z W))
      (fun ka va => O ++ led2 c (some (.str (pre Z t.2.2) 0)) (some (.str (pre Y t.2.1) 0)) (some (.str (pre X t.1) 0)) vt vs vf e d1 d2 d3 K3 T1 T2 (winL X Y Z c.w d3 (W ++ [(t, ka, va)]))) := by
  unfold led2
  generalize hC : led1 c (some (.str (pre Z t.2.2) 0)) (some (.str (pre Y t.2.1) 0)) (some (.str (pre X t.1) 0)) vt vs vf d3 = C
  have cC : Cel c (pre X t.1) (pre Y t.2.1) (pre Z t.2.2) d3 C := by
    subst hC
    exact ⟨(.tail _ (.tail _ (.tail _ (.tail _ (.tail _ (.tail _ (.head _))))))), (.tail _ (.head _)), .head _, (.tail _ (.tail _ (.head _)))⟩
  have inQ : ∀ (Q : Led), ∀ q ∈ Q, q ∈ O ++ (C ++ ((126, isTab) :: (T1 ++ (lrn c.w e d1 d2 K3 ++ (T2 ++ Q))))) := fun Q q h => List.mem_append_right _ (List.mem_append_right _ (.tail _ (List.mem_append_right _ (List.mem_append_right _ (List.mem_append_right _ h)))))
  have inL : ∀ (Q : Led), ∀ q ∈ lrn c.w e d1 d2 K3, q ∈ O ++ (C ++ ((126, isTab) :: (T1 ++ (lrn c.w e d1 d2 K3 ++ (T2 ++ Q))))) := fun Q q h => List.mem_append_right _ (List.mem_append_right _ (.tail _ (List.mem_append_right _ (List.mem_append_left _ h))))
  have inC : ∀ (R : Led), ∀ q ∈ C, q ∈ O ++ (C ++ R) := fun R q h => List.mem_append_right _ (List.mem_append_left _ h)
  have cut : ∀ q ∈ kfr K3, ∃ R, (q :: R).Perm (O ++ (C ++ ((126, isTab) :: (T1 ++ (lrn c.w e d1 d2 K3 ++ (T2 ++ winL X Y Z c.w d3 W)))))) ∧ InL c X Y Z W (pre X t.1) (pre Y t.2.1) (pre Z t.2.2) d3 R := fun q hq => by
    have := cut_of (A := O ++ (C ++ ((126, isTab) :: (T1 ++ [(d1, isD c.w (kd1 K3)), (d2, isD c.w (kd2 e K3))])))) (B := T2 ++ winL X Y Z c.w d3 W) (P := InL c X Y Z W (pre X t.1) (pre Y t.2.1) (pre Z t.2.2) d3) (fun h s => h.mono s) ⟨cC.mono fun q h => List.mem_append_left _ (List.mem_append_right _ (List.mem_append_left _ h)), List.mem_append_right _ (List.mem_append_right _ (.head _)), fun q h => List.mem_append_right _ (List.mem_append_right _ (.tail _ h))⟩ hq
    rw [List.append_assoc, List.append_assoc, List.cons_append, List.append_assoc] at this
    exact this
  refine ⟨⟨cC.mono (inC _), inQ _ _ (.head _), fun q h => inQ _ _ (.tail _ h)⟩, inL _ _ (.head _), inL _ _ (.tail _ (.head _)), fun q hq => inL _ _ (.tail _ (.tail _ (kfr_mem hq).1)), fun q hq => cut _ (kfr_mem hq).2.1, fun q hq => cut _ (kfr_mem hq).2.2, ?_, fun P => cC.mono (inC _), fun P => inL _ _ (.tail _ (.head _)), fun P => inQ _ _ (.head _), fun P q h => inQ _ _ (.tail _ h), fun ka va => .perm ?_⟩
  · exact Pos.app (Pos.app (.tail (Pos.app (Pos.app (Pos.app .head _) _) _)) _) _
  · have eq : frW X Y Z (W ++ [(t, ka, va)]) = frW X Y Z W ++ [(ka, isT (svs (keyW X Y Z t))), (va, isT [.bool (decide (0 < sumW X Y Z t)), .bool (decide (sumW X Y Z t < 0))])] := by
      unfold frW
      rw [List.flatMap_append]
      rfl
    unfold winL
    rw [eq]
    have := fin_perm (O ++ (C ++ ((126, isTab) :: (T1 ++ (lrn c.w e d1 d2 K3 ++ (T2 ++ [(d3, isDT c.w (dtW X Y Z (W ++ [(t, ka, va)])))])))))) (frW X Y Z W) (ka, isT (svs (keyW X Y Z t))) (va, isT [.bool (decide (0 < sumW X Y Z t)), .bool (decide (sumW X Y Z t < 0))])
    simpa only [List.append_assoc, List.cons_append, List.nil_append] using this
theorem inner_go {c : Cx} {X Y Z : Str} {W : List WEnt} {t : Nat × Nat × Nat} {e : Nat} {d1 d2 d3 : Addr} {K3 : List KEnt} {L : Led} {g : AO → Led} {FIN : Addr → Addr → Led} {tr : Sem Flow} {m : Loc} (h : ∀ L0 g FIN, Inner c X Y Z W t e d1 d2 d3 K3 L0 g FIN → Run c erF tr m L0 (InEnd d1 d2 FIN)) (hI : Inner c X Y Z W t e d1 d2 d3 K3 L g FIN) : Run c erF tr m L (InEnd d1 d2 FIN) := h _ _ _ hI
end Mine
end
section
open PySem PySem.W PyProof.Rows PySem.Calls
set_option maxRecDepth 100000
namespace Mine
theorem big_heap {c : Cx} {m : Loc} {N : Led} {P : AO} (hm : ((126 : Addr), P) ∈ N) : ∀ h, At c h m N → (h.objs.size == sysModules) = false := fun h a => by
  obtain ⟨o, e, _⟩ := a.get hm
  have := Heap.lt_size e
  refine beq_eq_false_iff_ne.mpr fun q => ?_
  rw [q] at this
  exact absurd this (by decide)
theorem perm_cells (C T L : Led) (a b : Addr × AO) : (a :: (T ++ (L ++ (b :: C)))).Perm (C ++ (a :: (T ++ (L ++ [b])))) := by
  have h := List.perm_append_comm (l₁ := a :: (T ++ (L ++ [b]))) (l₂ := C)
  rwa [List.cons_append, List.append_assoc, List.append_assoc, List.singleton_append] at h
theorem key_pre {x : Str} {K : List KEnt} (h : ∀ j, 1 ≤ j → j ≤ x.length → pre x j ∈ K.map (·.1)) (h0 : Str.ofString "" ∈ K.map (·.1)) (j : Nat) (hj : j ≤ x.length) : pre x j ∈ K.map (·.1) := by
  by_cases e : j = 0
  · subst e
    rwa [show pre x 0 = Str.ofString "" from lst_inj (by rw [lst_pre hj]; rfl)]
  · exact h j (by omega) hj
theorem pre_self (x : Str) : pre x x.length = x := lst_inj (by rw [lst_pre (Nat.le_refl _), ← lst_len, List.take_length])
theorem mem_mid {α : Type} {A B C D : List α} {x y : α} (h : x ∈ C) : x ∈ A ++ (y :: (B ++ (C ++ D))) := List.mem_append_right _ (.tail _ (List.mem_append_right _ (List.mem_append_left _ h)))
theorem perm_ans (C T L B : Led) (a : Addr × AO) : (B ++ (T ++ (C ++ (a :: L)))).Perm (C ++ (a :: (T ++ (L ++ B)))) := by
  classical
  refine List.perm_iff_count.mpr fun q => ?_
  simp only [List.count_append, List.count_cons]
  omega
theorem perm_cellsB (C T L B : Led) (a : Addr × AO) : (a :: (T ++ (L ++ (B ++ C)))).Perm (C ++ (a :: (T ++ (L ++ B)))) := by
  classical
  refine List.perm_iff_count.mpr fun q => ?_
  simp only [List.count_append, List.count_cons]
  omega
def prefs (x : Str) : List Value := svs ((List.range (x.length + 1)).map (pre x))
theorem prefs_len (x : Str) : (prefs x).length = x.length + 1 := by unfold prefs svs; rw [List.length_map, List.length_map, List.length_range]
theorem prefs_get {x : Str} {i : Nat} (h : i < x.length + 1) : (prefs x)[i]? = some (.str (pre x i) 0) := by
  unfold prefs svs
  rw [List.getElem?_map, List.getElem?_map, List.getElem?_range h]
  rfl
theorem perm_wins (C T L B : Led) (a d : Addr × AO) : (C ++ (a :: (T ++ (L ++ (B ++ [d]))))).Perm (d :: (C ++ (a :: (T ++ (L ++ B))))) := by
  classical
  refine List.perm_iff_count.mpr fun q => ?_
  simp only [List.count_append, List.count_cons, List.count_nil]
  omega
def LawEnd (fl : Flow) (_ : Loc) (N' : Led) : Prop := fl = .ret (.bool true) ∧ ∃ P1 P2 P3 : AO, Pk N' [(126, P1), (44, P2), (37, P3)] ∧ (∀ o, P1 o → anyTab o) ∧ (∀ o, P2 o → anyTab o) ∧ ∀ o, P3 o → anyTab o
def LawGoal (w : World) (body : List Stmt) (scope : Scope) : Prop := ∀ (la : Addr) (us : List Value) (ns : List Int) (c : Cx), Good c → c.w = w → c.cs = scope → c.cl = cellsFrom (c.L + 1) scope.names [] → c.dp ≤ 310 → c.un ≤ 20 → c.h₀.IsList la us.toArray → us.map er = ivs ns → ns.length ≤ 63 →
  Run c erF (execs body c.env) (lbOf scope.names [("script", .ref la)]) (cellLed (cbOf scope.names [("script", .ref la)]) (cellsFrom (c.L + 1) scope.names []) ++ tabLed) LawEnd
def lawAt (o : Option Obj) : List Stmt × Scope := match o with
  | some ⟨_, _, .func fd, _⟩ => (match fd.body with
    | .stmts b => b
    | _ => [], fd.scope)
  | _ => ([], default)
theorem law_of {w : World} {name qual : Str} {params : Arguments} {body : List Stmt} {scope : Scope} {dV kV doc pm cdv ct oc : Value} {an od : Option Addr} {osl : Array (Option Value)}
    (hk : (Mine.hd.heap_1 w.params).lookup 183 = some ⟨oc, od, .func (fnOf name qual params body scope dV kV doc pm an cdv ct), osl⟩) (H : LawGoal w body scope) : LawGoal w (lawAt ((Mine.hd.heap_1 w.params).lookup 183)).1 (lawAt ((Mine.hd.heap_1 w.params).lookup 183)).2 := by
  rw [hk]; exact H
def numsL (ns : List Int) : List Int := ns.take 7 ++ [0, 1, 1, 0, 1, 0, 2].drop (ns.take 7).length
theorem nums_len (ns : List Int) : (numsL ns).length = 7 := by
  unfold numsL
  rw [List.length_append, List.length_drop, List.length_take]
  show _ + (7 - _) = 7
  omega
theorem lsl_to (vs : List Value) (k : Nat) : lsl vs none (some (k : Int)) none = vs.take k := by
  unfold lsl
  rw [slicePick_upto']
theorem lsl_from (vs : List Value) (k : Nat) : lsl vs (some (k : Int)) none none = vs.drop k := by
  unfold lsl
  rw [slicePick_from']
def widL (ns : List Int) : Int := ((ns.take 20).map fun x => x % 17).sum % 17
theorem let_get (d : Int) : [Value.str (Str.ofString "a") 0, .str (Str.ofString "b") 0, .str (Str.ofString "") 0][(d % 3).toNat]? = some (.str (letL d) 0) := by
  have h0 := Int.emod_nonneg d (show (3 : Int) ≠ 0 by decide)
  have h1 := Int.emod_lt_of_pos d (show (0 : Int) < 3 by decide)
  unfold letL
  rcases (show d % 3 = 0 ∨ d % 3 = 1 ∨ d % 3 = 2 by omega) with h | h | h <;> rw [h] <;> rfl
theorem letL_len (d : Int) : (letL d).length ≤ 1 := by
  rcases List.mem_cons.mp (letL_mem d) with h | h
  · rw [h]; decide
  · rcases List.mem_cons.mp h with h | h
    · rw [h]; decide
    · rw [List.mem_singleton.mp h]; decide
theorem seven {l : List Int} (h : l.length = 7) : ∃ a b c d e f g, l = [a, b, c, d, e, f, g] := by
  match l, h with
  | [a, b, c, d, e, f, g], _ => exact ⟨a, b, c, d, e, f, g, rfl⟩
set_option maxHeartbeats 4000000 in
theorem law_walk (w : World) : LawGoal w (lawAt ((Mine.hd.heap_1 w.params).lookup 183)).1 (lawAt ((Mine.hd.heap_1 w.params).lookup 183)).2 := by
  show (fun (_ : OpenLaw) (_ : Params → Frag) => LawGoal w (lawAt ((Mine.hd.heap_1 w.params).lookup 183)).1 (lawAt ((Mine.hd.heap_1 w.params).lookup 183)).2) Challenge.rw_re0116_01 Mine.hd.heap_1
  k_fill
  show LawGoal w (lawAt ((Mine.hd.heap_1 w.params).lookup 183)).1 (lawAt ((Mine.hd.heap_1 w.params).lookup 183)).2
  k_dflt (refine' law_of ?hk ?H)
  case hk => k_is
  case H =>
    intro la us ns c G hw hcs hcl hdp hun hS hus hns
    show Run c erF (execs _ c.env) [("script", .ref la)] ((c.L + 1 + 1 + 1 + 1 + 1 + 1 + 1, isCell none) :: (c.L + 1 + 1 + 1 + 1 + 1 + 1, isCell none) :: (c.L + 1 + 1 + 1 + 1 + 1, isCell none) :: (c.L + 1 + 1 + 1 + 1, isCell none) :: (c.L + 1 + 1 + 1, isCell none) :: (c.L + 1 + 1, isCell none) :: (c.L + 1, isCell none) :: tabLed) _
    have Fc : Fn c _ [("z", c.L + 1 + 1 + 1 + 1 + 1 + 1 + 1), ("y", c.L + 1 + 1 + 1 + 1 + 1 + 1), ("wins", c.L + 1 + 1 + 1 + 1 + 1), ("third", c.L + 1 + 1 + 1 + 1), ("second", c.L + 1 + 1 + 1), ("first", c.L + 1 + 1), ("x", c.L + 1)] := ⟨G, congrArg Scope.names hcs, hcl.trans rfl, by decide +kernel⟩
    have hlen : us.length = ns.length := by have := congrArg List.length hus; rw [List.length_map, ivs_len] at this; exact this
    have e7 : lsl (us.map er) none (some 7) none = ivs (ns.take 7) := by
      rw [hus]
      refine (lsl_to _ 7).trans ?_
      unfold ivs
      rw [List.map_take]
    refine run_step Fc 9 ?_
    refine And.intro rfl ?_
    refine subS_base (lo := none) (hi := some _) (st := none) hS (by omega) (by decide) (fun q => ⟨_, rfl⟩) (fun r => rfl) ?_
    intro A
    rw [e7]
    refine And.intro rfl ?_
    refine And.intro rfl ?_
    intro B
    refine And.intro rfl ?_
    refine subS_base (lo := none) (hi := some _) (st := none) hS (by omega) (by decide) (fun q => ⟨_, rfl⟩) (fun r => rfl) ?_
    intro A2
    rw [e7]
    refine cal_len_list (.head _) (by rw [ivs_len, List.length_take]; omega) ?_
    refine subS_any ?_
    refine subS_list (lo := some _) (hi := none) (st := none) (.tail _ (.head _)) (by decide) (by decide) (fun q => ⟨_, rfl⟩) (fun r => rfl) ?_
    intro D
    rw [lsl_from]
    refine bin_addlist (.tail _ (.tail _ (.tail _ (.head _)))) (.head _) (by rw [ivs_len, List.length_take, List.length_drop]; show _ + (7 - _) ≤ 1000; omega) ?_
    intro E
    rw [show ivs (ns.take 7) ++ List.drop (ivs (ns.take 7)).length [Value.int 0 0, Value.int 1 0, Value.int 1 0, Value.int 0 0, Value.int 1 0, Value.int 0 0, Value.int 2 0] = ivs (numsL ns) by
      unfold numsL ivs
      rw [List.map_append, List.map_drop, List.length_map]
      rfl]
    refine Run.pick (N' := (E, isL (ivs (numsL ns))) :: _) (.cons .head (.drop (.drop (.drop (.drop .all))))) ?_
    have e20 : lsl (us.map er) none (some 20) none = ivs (ns.take 20) := by
      rw [hus]
      refine (lsl_to _ 20).trans ?_
      unfold ivs
      rw [List.map_take]
    refine run_step Fc 9 ?_
    refine And.intro rfl ?_
    refine And.intro rfl ?_
    refine run_comp (cl := []) ?clos rfl (by decide) rfl ?_
    case clos => (show closureFor _ (envX c.cn c.cs c.L c.a c.ccd c.cl) = _; exact rfl)
    refine vE_sound G Fc.ns_ Fc.cl_ Fc.plain 9 _ _ _ _ ?_
    refine subS_base (lo := none) (hi := some _) (st := none) hS (by omega) (by decide) (fun q => ⟨_, rfl⟩) (fun r => rfl) ?_
    intro V
    rw [e20]
    refine comp_list (ns := [(".0", .local), ("x", .local)]) ?FC .all (ivs ((ns.take 20).map fun x => x % 17)) (by rw [ivs_len, ivs_len, List.length_map]) (by rw [ivs_len, List.length_take]; omega) rfl ?turn ?done
    case FC => exact ⟨G, by (show (relabel _ (envX c.cn c.cs c.L c.a c.ccd c.cl)).names = _; exact rfl), by (show closureFor _ (envX c.cn c.cs c.L c.a c.ccd c.cl) = _; exact rfl), rfl, by decide, rfl⟩
    case turn =>
      intro i u C mm D ys I oI lo hu
      obtain ⟨d, hd, rfl⟩ := ivs_get hu
      refine ⟨_, _, .head _, rfl, ?_⟩
      refine bin_mod (by decide) ?_
      refine ⟨rfl, ?_, _, .all⟩
      unfold ivs
      rw [List.getElem?_map, List.getElem?_map, hd]
      rfl
    case done =>
    intro J
    refine cal_sum (ns := (ns.take 20).map fun x => x % 17) (.head _) ?_
    refine bin_mod (by decide) ?_
    refine bin_add ?_
    obtain ⟨e, he, ew⟩ : ∃ e : Nat, e < 17 ∧ 3 + ((ns.take 20).map fun x => x % 17).sum % 17 = (e : Int) + 3 := by
      have h0 := Int.emod_nonneg ((ns.take 20).map fun x => x % 17).sum (show (17 : Int) ≠ 0 by decide)
      have h1 := Int.emod_lt_of_pos ((ns.take 20).map fun x => x % 17).sum (show (0 : Int) < 17 by decide)
      exact ⟨(((ns.take 20).map fun x => x % 17).sum % 17).toNat, by omega, by omega⟩
    rw [ew]
    obtain ⟨n0, n1, n2, n3, n4, n5, n6, en⟩ := seven (nums_len ns)
    rw [en]
    clear e7 e20 ew en hus hlen hns hS
    refine Run.pick (N' := (E, isL [.int n0 0, .int n1 0, .int n2 0, .int n3 0, .int n4 0, .int n5 0, .int n6 0]) :: _) (.drop (.drop .all)) ?_
    obtain ⟨s1, s2, s3⟩ := stalk3 n0 (ns := [n1, n2, n3]) rfl
    have l1 := front_len s1
    refine run_step Fc 9 ?_
    refine And.intro rfl ?_
    refine sub_list (.head _) (by decide) (by decide) rfl (fun t => rfl) (fun r => rfl) ?_
    refine bin_mod (by decide) ?_
    have h0 := Int.emod_nonneg n0 (show (2 : Int) ≠ 0 by decide)
    have h1 := Int.emod_lt_of_pos n0 (show (0 : Int) < 2 by decide)
    refine sub_item (by decide) (by show -(2 : Int) ≤ _; omega) (by show _ < (2 : Int); omega) (fun t u => rfl) (fun t r => rfl) ?_
    refine And.intro rfl ?_
    refine get_str PySem.F.slot_str_join PySem.F.type_str_join ?_
    refine run_comp (cl := []) ?clos2 rfl (by decide) rfl ?_
    case clos2 => (show closureFor _ (envX c.cn c.cs c.L c.a c.ccd c.cl) = _; exact rfl)
    refine vE_sound G Fc.ns_ Fc.cl_ Fc.plain 9 _ _ _ _ ?_
    refine subS_list (lo := some _) (hi := some _) (st := none) (.head _) (by show 7 ≤ 1000; decide) (by decide) (fun q => ⟨_, rfl⟩) (fun r => rfl) ?_
    intro V2
    rw [show lsl [Value.int n0 0, .int n1 0, .int n2 0, .int n3 0, .int n4 0, .int n5 0, .int n6 0] (some 1) (some 4) none = ivs [n1, n2, n3] from rfl]
    refine comp_list (ns := [(".0", .local), ("x", .local)]) ?FC2 .all (svs ([n1, n2, n3].map letL)) rfl (by show 3 ≤ 1000; decide) rfl ?turn2 ?done2
    case FC2 => exact ⟨G, by (show (relabel _ (envX c.cn c.cs c.L c.a c.ccd c.cl)).names = _; exact rfl), by (show closureFor _ (envX c.cn c.cs c.L c.a c.ccd c.cl) = _; exact rfl), rfl, by decide, rfl⟩
    case turn2 =>
      intro i u C mm D ys I oI lo hu
      obtain ⟨d, hd, rfl⟩ := ivs_get hu
      refine And.intro rfl ?_
      refine And.intro rfl ?_
      intro T
      refine ⟨_, _, .tail _ (.head _), rfl, ?_⟩
      refine bin_mod (by decide) ?_
      have h0 := Int.emod_nonneg d (show (3 : Int) ≠ 0 by decide)
      have h1 := Int.emod_lt_of_pos d (show (0 : Int) < 3 by decide)
      refine sub_any (sub_tup (.head _) h0 (by omega) (let_get d) (fun t => rfl) (fun r => rfl) ?_)
      refine ⟨rfl, ?_, _, .drop .all⟩
      unfold svs
      rw [List.getElem?_map, List.getElem?_map, hd]
      rfl
    case done2 =>
    intro J2
    have q1 := letL_len n1
    have q2 := letL_len n2
    have q3 := letL_len n3
    refine cal_join (ys := [n1, n2, n3].map letL) (.head _) (by show (letL n1).length + ((letL n2).length + ((letL n3).length + 0)) + 3 * 0 ≤ 16777216; omega) ?_
    refine bin_addstr (by
      have z : (headL n0 ++ Txt.join (Str.ofString "") ([n1, n2, n3].map letL)).cps.size ≤ 10 := l1.2
      have z2 : ((headL n0).cps ++ (Txt.join (Str.ofString "") ([n1, n2, n3].map letL)).cps).size ≤ 10 := z
      rw [Array.size_append] at z2
      show (headL n0).cps.size + (Txt.join (Str.ofString "") ([n1, n2, n3].map letL)).cps.size ≤ 1000
      omega) ?_
    refine Exists.intro _ (Exists.intro _ (And.intro (Pos.tail (Pos.tail (Pos.tail (Pos.tail (Pos.tail (Pos.tail (Pos.tail (Pos.tail Pos.head)))))))) ?_))
    refine Run.pick (N' := (E, isL [.int n0 0, .int n1 0, .int n2 0, .int n3 0, .int n4 0, .int n5 0, .int n6 0]) :: _) (.drop (.drop .all)) ?_
    obtain ⟨z1, z2, z3⟩ := stalk2 n4 (ns := [n5, n6]) rfl
    have l2 := front_len z1
    refine run_step Fc 9 ?_
    refine And.intro rfl ?_
    refine sub_list (.head _) (by decide) (by decide) rfl (fun t => rfl) (fun r => rfl) ?_
    refine bin_mod (by decide) ?_
    have h2 := Int.emod_nonneg n4 (show (2 : Int) ≠ 0 by decide)
    have h3 := Int.emod_lt_of_pos n4 (show (0 : Int) < 2 by decide)
    refine sub_item (by decide) (by show -(2 : Int) ≤ _; omega) (by show _ < (2 : Int); omega) (fun t u => rfl) (fun t r => rfl) ?_
    refine And.intro rfl ?_
    refine get_str PySem.F.slot_str_join PySem.F.type_str_join ?_
    refine run_comp (cl := []) ?clos3 rfl (by decide) rfl ?_
    case clos3 => (show closureFor _ (envX c.cn c.cs c.L c.a c.ccd c.cl) = _; exact rfl)
    refine vE_sound G Fc.ns_ Fc.cl_ Fc.plain 9 _ _ _ _ ?_
    refine subS_list (lo := some _) (hi := none) (st := none) (.head _) (by show 7 ≤ 1000; decide) (by decide) (fun q => ⟨_, rfl⟩) (fun r => rfl) ?_
    intro V3
    rw [show lsl [Value.int n0 0, .int n1 0, .int n2 0, .int n3 0, .int n4 0, .int n5 0, .int n6 0] (some 5) none none = ivs [n5, n6] from (lsl_from _ 5).trans rfl]
    refine comp_list (ns := [(".0", .local), ("x", .local)]) ?FC3 .all (svs ([n5, n6].map letL)) rfl (by show 2 ≤ 1000; decide) rfl ?turn3 ?done3
    case FC3 => exact ⟨G, by (show (relabel _ (envX c.cn c.cs c.L c.a c.ccd c.cl)).names = _; exact rfl), by (show closureFor _ (envX c.cn c.cs c.L c.a c.ccd c.cl) = _; exact rfl), rfl, by decide, rfl⟩
    case turn3 =>
      intro i u C mm D ys I oI lo hu
      obtain ⟨d, hd, rfl⟩ := ivs_get hu
      refine And.intro rfl ?_
      refine And.intro rfl ?_
      intro T
      refine ⟨_, _, .tail _ (.head _), rfl, ?_⟩
      refine bin_mod (by decide) ?_
      have h0 := Int.emod_nonneg d (show (3 : Int) ≠ 0 by decide)
      have h1 := Int.emod_lt_of_pos d (show (0 : Int) < 3 by decide)
      refine sub_any (sub_tup (.head _) h0 (by omega) (let_get d) (fun t => rfl) (fun r => rfl) ?_)
      refine ⟨rfl, ?_, _, .drop .all⟩
      unfold svs
      rw [List.getElem?_map, List.getElem?_map, hd]
      rfl
    case done3 =>
    intro J3
    have q5 := letL_len n5
    have q6 := letL_len n6
    refine cal_join (ys := [n5, n6].map letL) (.head _) (by show (letL n5).length + ((letL n6).length + 0) + 2 * 0 ≤ 16777216; omega) ?_
    refine bin_addstr (by
      have z : (headL n4 ++ Txt.join (Str.ofString "") ([n5, n6].map letL)).cps.size ≤ 10 := l2.2
      have z2 : ((headL n4).cps ++ (Txt.join (Str.ofString "") ([n5, n6].map letL)).cps).size ≤ 10 := z
      rw [Array.size_append] at z2
      show (headL n4).cps.size + (Txt.join (Str.ofString "") ([n5, n6].map letL)).cps.size ≤ 1000
      omega) ?_
    refine Exists.intro _ (Exists.intro _ (And.intro (Pos.tail (Pos.tail (Pos.tail (Pos.tail (Pos.tail (Pos.tail (Pos.tail Pos.head))))))) ?_))
    refine Run.pick (N' := (c.L + 1 + 1 + 1 + 1 + 1 + 1 + 1, isCell none) :: (c.L + 1 + 1 + 1 + 1 + 1 + 1, isCell none) :: (c.L + 1 + 1 + 1 + 1 + 1, isCell none) :: (c.L + 1 + 1 + 1 + 1, isCell none) :: (c.L + 1 + 1 + 1, isCell (some (.str (stalkL n4 [n5, n6]) 0))) :: (c.L + 1 + 1, isCell (some (.str (stalkL n0 [n1, n2, n3]) 0))) :: (c.L + 1, isCell none) :: tabLed) (.drop (.drop (.drop .all))) ?_
    generalize stalkL n0 [n1, n2, n3] = X at s1 s2 s3 l1 ⊢
    generalize stalkL n4 [n5, n6] = Y at z1 z2 z3 l2 ⊢
    refine Run.knows (k := [("width", .int ((e : Int) + 3) 0), ("script", .ref la)]) ⟨rfl, rfl, trivial⟩ ?_
    refine run_asgR Fc rfl ?_
    refine run_dict1 (big_heap (.tail _ (.tail _ (.tail _ (.tail _ (.tail _ (.tail _ (.tail _ (.head _))))))))) ?_
    intro d1 hd1
    refine vE_sound G Fc.ns_ Fc.cl_ Fc.plain 9 _ _ _ _ ?_
    refine And.intro rfl ?_
    refine And.intro rfl ?_
    refine And.intro rfl ?_
    intro la0
    refine And.intro rfl ?_
    refine And.intro rfl ?_
    intro lb0
    refine And.intro rfl ?_
    intro t0
    refine ⟨_, (Pos.tail (Pos.tail (Pos.tail Pos.head))), ?_⟩
    refine run_asgR Fc rfl ?_
    refine run_dict1 (big_heap (.tail _ (.tail _ (.tail _ (.tail _ (.tail _ (.tail _ (.tail _ (.tail _ (.tail _ (.tail _ (.tail _ (.head _))))))))))))) ?_
    intro d2 hd2
    refine vE_sound G Fc.ns_ Fc.cl_ Fc.plain 9 _ _ _ _ ?_
    refine ⟨_, Pos.head, ?_⟩
    refine Run.pick (N' := [(c.L + 1 + 1 + 1 + 1 + 1 + 1 + 1, isCell none), (c.L + 1 + 1 + 1 + 1 + 1 + 1, isCell none), (c.L + 1 + 1 + 1 + 1 + 1, isCell none), (c.L + 1 + 1 + 1 + 1, isCell none), (c.L + 1 + 1 + 1, isCell (some (.str Y 0))), (c.L + 1 + 1, isCell (some (.str X 0))), (c.L + 1, isCell none)] ++ ((126, isTab) :: ([(44, isRaw (tabObj #[]))] ++ (lrn c.w e d1 d2 [(Str.ofString "", t0, la0, lb0)] ++ [(37, isRaw (tabObj #[]))])))) ?pk1 ?_
    case pk1 =>
      unfold lrn kd1 kd2 kfr
      rw [List.map_cons, List.map_nil, List.map_cons, List.map_nil, show worth8 (Str.ofString "") * 2 ^ e = 0 from Int.zero_mul _]
      exact .perm (by
        classical
        refine List.perm_iff_count.mpr fun q => ?_
        unfold tabLed
        simp only [List.count_append, List.count_cons, List.flatMap_cons, List.flatMap_nil, List.count_nil]
        have ea : svs (cutsA (Str.ofString "")) = [] := rfl
        have eb : svs (cutsB (Str.ofString "")) = [] := rfl
        simp only [ea, eb]
        omega)
    refine run_step Fc 9 ?_
    refine And.intro rfl ?_
    refine And.intro rfl ?_
    refine Exists.intro _ (And.intro (.tail _ (.tail _ (.tail _ (.tail _ (.tail _ (.head _)))))) ?_)
    refine CalW.pick (.perm (perm_cells _ _ _ _ _)) ?_
    refine (learn_ctr c.w X e d1 d2 _ _ _ (.inl s1) he .empty hd1 (Nat.le_of_ble_eq_true rfl)).use G rfl (by omega) (by omega) ?_
    rintro v N' ⟨t44, ks1, rfl, h44, k1, k2, k3⟩
    have kX : X ∈ (ks1 ++ [(Str.ofString "", t0, la0, lb0)]).map (·.1) := by have := k3 X.length l1.1 (Nat.le_refl _); rwa [pre_self] at this
    refine Run.pick (.perm (perm_cells _ _ _ _ _).symm) ?_
    generalize hks1 : ks1 ++ [(Str.ofString "", t0, la0, lb0)] = K1 at k3 kX ⊢
    have n1' : K1.length ≤ 11 := by rw [← hks1, List.length_append]; show _ + 1 ≤ 11; omega
    refine run_step Fc 9 ?_
    refine And.intro rfl ?_
    refine And.intro rfl ?_
    refine Exists.intro _ (And.intro (.tail _ (.tail _ (.tail _ (.tail _ (.head _))))) ?_)
    refine CalW.pick (.perm (perm_cells _ _ _ _ _)) ?_
    refine (learn_ctr c.w Y e d1 d2 _ _ _ (.inl z1) he h44 hd1 (by omega)).use G rfl (by omega) (by omega) ?_
    rintro v N' ⟨t44b, ks2, rfl, h44b, j1, j2, j3⟩
    have kY : Y ∈ (ks2 ++ K1).map (·.1) := by have := j3 Y.length l2.1 (Nat.le_refl _); rwa [pre_self] at this
    have kX2 : X ∈ (ks2 ++ K1).map (·.1) := by rw [List.map_append]; exact List.mem_append_right _ kX
    refine Run.pick (.perm (perm_cells _ _ _ _ _).symm) ?_
    refine run_step Fc 9 ?_
    refine And.intro rfl ?_
    refine And.intro rfl ?_
    refine Exists.intro _ (And.intro (.tail _ (.tail _ (.tail _ (.tail _ (.tail _ (.head _)))))) ?_)
    refine sub_dict (mem_mid (.tail _ (.head _))) (kd2_get kX2) (fun t => rfl) (fun r => rfl) ?_
    refine Exists.intro _ (And.intro (.tail _ (.tail _ (.tail _ (.tail _ (.head _))))) ?_)
    refine sub_dict (mem_mid (.tail _ (.head _))) (kd2_get kY) (fun t => rfl) (fun r => rfl) ?_
    refine bin_add ?_
    rw [← Int.add_mul]
    refine CalW.pick (.perm (perm_ans _ _ _ [_] _)) ?_
    refine (ans_ctr c.w (worth8 X + worth8 Y) e _ _ _ (by omega) (by omega) he .empty h44b).use G rfl (by omega) (by omega) ?_
    rintro v N' ⟨rfl, t37c, t44c, rfl, h37c, h44c⟩
    obtain ⟨aw1, aw2⟩ := ans_worth (t := worth8 X + worth8 Y) (by omega) (by omega)
    generalize ansOf (worth8 X + worth8 Y) = Z at aw1 aw2 ⊢
    refine ⟨_, _, Pos.app (Pos.app (Pos.tail (Pos.tail (Pos.tail Pos.head))) _) _, ?_⟩
    refine Run.pick (N' := [(c.L + 1 + 1 + 1 + 1 + 1 + 1 + 1, isCell none), (c.L + 1 + 1 + 1 + 1 + 1 + 1, isCell none), (c.L + 1 + 1 + 1 + 1 + 1, isCell none), (c.L + 1 + 1 + 1 + 1, isCell (some (.str Z 0))), (c.L + 1 + 1 + 1, isCell (some (.str Y 0))), (c.L + 1 + 1, isCell (some (.str X 0))), (c.L + 1, isCell none)] ++ ((126, isTab) :: (t44c ++ (lrn c.w e d1 d2 (ks2 ++ K1) ++ t37c)))) (.perm (perm_ans _ _ _ _ _).symm) ?_
    generalize hks2 : ks2 ++ K1 = K2 at j3 kX2 kY ⊢
    have n2' : K2.length ≤ 21 := by rw [← hks2, List.length_append]; omega
    refine run_step Fc 9 ?_
    refine And.intro rfl ?_
    refine And.intro rfl ?_
    refine Exists.intro _ (And.intro (.tail _ (.tail _ (.tail _ (.head _)))) ?_)
    refine CalW.pick (.perm (perm_cellsB _ _ _ _ _)) ?_
    refine (learn_ctr c.w Z e d1 d2 _ _ _ aw1 he h44c hd1 (by omega)).use G rfl (by omega) (by omega) ?_
    rintro v N' ⟨t44d, ks3, rfl, h44d, i1, i2, i3⟩
    refine Run.pick (.perm (perm_cellsB _ _ _ _ _).symm) ?_
    have kX3 : X ∈ (ks3 ++ K2).map (·.1) := by rw [List.map_append]; exact List.mem_append_right _ kX2
    have kY3 : Y ∈ (ks3 ++ K2).map (·.1) := by rw [List.map_append]; exact List.mem_append_right _ kY
    have hnil : Str.ofString "" ∈ (ks3 ++ K2).map (·.1) := by
      rw [← hks2, ← hks1, List.map_append, List.map_append, List.map_append]
      exact List.mem_append_right _ (List.mem_append_right _ (List.mem_append_right _ (.head _)))
    have kZ : Z ∈ (ks3 ++ K2).map (·.1) := by
      rcases aw1 with h | h
      · have := i3 Z.length (front_len h).1 (Nat.le_refl _)
        rwa [pre_self] at this
      · rw [h]; exact hnil
    refine run_step Fc 9 ?_
    refine And.intro rfl ?_
    refine Exists.intro _ (And.intro (.tail _ (.tail _ (.tail _ (.tail _ (.tail _ (.head _)))))) ?_)
    refine sub_dict (mem_mid (.tail _ (.head _))) (kd2_get kX3) (fun t => rfl) (fun r => rfl) ?_
    refine Exists.intro _ (And.intro (.tail _ (.tail _ (.tail _ (.tail _ (.head _))))) ?_)
    refine sub_dict (mem_mid (.tail _ (.head _))) (kd2_get kY3) (fun t => rfl) (fun r => rfl) ?_
    refine bin_add ?_
    refine Exists.intro _ (And.intro (.tail _ (.tail _ (.tail _ (.head _)))) ?_)
    refine sub_dict (mem_mid (.tail _ (.head _))) (kd2_get kZ) (fun t => rfl) (fun r => rfl) ?_
    refine bin_add ?_
    refine cmp_ne ?_
    refine tru_bool ?_
    rw [← Int.add_mul, ← Int.add_mul, aw2, Int.add_right_neg, Int.zero_mul]
    refine And.intro (fun z => absurd z (by decide)) (fun _ => ?_)
    refine run_nil ?_
    refine run_asgR Fc rfl ?_
    refine run_dictE (fun d3 hd3 => ?_) (big_heap (List.mem_append_right _ (.head _)))
    refine Exists.intro _ (Exists.intro _ (And.intro (Pos.tail (Pos.tail (Pos.tail Pos.head))) ?_))
    refine run_step Fc 9 ?_
    refine And.intro rfl ?_
    refine run_comp (cl := [("first", c.L + 1 + 1)]) ?clos4 rfl (by decide) rfl ?_
    case clos4 => (show closureFor _ (envX c.cn c.cs c.L c.a c.ccd c.cl) = _; rw [hcl]; exact rfl)
    refine vE_sound G Fc.ns_ Fc.cl_ Fc.plain 9 _ _ _ _ ?_
    refine And.intro rfl ?_
    refine And.intro rfl ?_
    refine Exists.intro _ (And.intro (.tail _ (.tail _ (.tail _ (.tail _ (.tail _ (.tail _ (.head _))))))) ?_)
    refine cal_len_str (by omega) ?_
    refine bin_add ?_
    refine cal_range ?_
    intro R
    refine comp_range (n := X.length + 1) (ns := [(".0", .local), ("k", .local), ("first", .cell)]) ?FC4 .all (prefs X) (prefs_len X) (by omega) rfl ?turn4 ?done4
    case FC4 => exact ⟨G, by (show (relabel _ (envX c.cn c.cs c.L c.a c.ccd c.cl)).names = _; rw [hcs]; exact rfl), by (show closureFor _ (envX c.cn c.cs c.L c.a c.ccd c.cl) = _; rw [hcl]; exact rfl), rfl, by decide, rfl⟩
    case turn4 =>
      intro i C mm D ys I oI hi
      refine Exists.intro _ (And.intro (.tail _ (.tail _ (.tail _ (.tail _ (.tail _ (.tail _ (.tail _ (.tail _ (.tail _ (.head _)))))))))) ?_)
      refine ⟨_, _, .head _, rfl, ?_⟩
      refine sub_strs (by omega) (fun t q => rfl) (fun t r => rfl) ?_
      exact ⟨rfl, prefs_get hi, _, .all⟩
    case done4 =>
    intro LX
    have kpX := key_pre (K := ks3 ++ K2) (fun j h1 h2 => by rw [← hks2, List.map_append, List.map_append]; exact List.mem_append_right _ (List.mem_append_right _ (k3 j h1 h2))) hnil
    have kpY := key_pre (K := ks3 ++ K2) (fun j h1 h2 => by rw [List.map_append]; exact List.mem_append_right _ (j3 j h1 h2)) hnil
    have kpZ := key_pre i3 hnil
    generalize hks3 : ks3 ++ K2 = K3 at kpX kpY kpZ i3 kX3 kY3 hnil kZ ⊢
    have lx := l1.2
    have ly := l2.2
    have lz : Z.length ≤ 10 := by
      rcases aw1 with h | h
      · exact (front_len h).2
      · rw [h]; decide
    refine for_list (vs := prefs X) (N0 := led2 c none none none (some (.str Z 0)) (some (.str Y 0)) (some (.str X 0)) e d1 d2 d3 K3 t44d t37c (winL X Y Z c.w d3 [])) (.cons .head (.perm (perm_wins _ _ _ _ _ _))) (fun i m N => Knows m [("worths", .ref d2), ("cuts", .ref d1)] ∧ ∃ vx vy vz W, N = led2 c vz vy vx (some (.str Z 0)) (some (.str Y 0)) (some (.str X 0)) e d1 d2 d3 K3 t44d t37c (winL X Y Z c.w d3 W) ∧ (∀ q ∈ W, inW X Y Z q.1 ∧ q.1.1 < i) ∧ (∀ t, inW X Y Z t → t.1 < i → ∃ q ∈ W, q.1 = t) ∧ W.length ≤ i * 121) (.inr fun _ _ => rfl) ⟨⟨rfl, rfl, trivial⟩, none, none, none, [], rfl, fun q hq => (nomatch hq), fun t _ h => absurd h (Nat.not_lt_zero _), Nat.zero_le _⟩ ?turnX ?doneX
    case turnX =>
      rintro i v m N I oI lo hi ⟨kn, vx, vy, vz, W, rfl, w1, w2, w3⟩
      have hi' : i < X.length + 1 := by
        have := (List.getElem?_eq_some_iff.mp hi).1
        rwa [prefs_len] at this
      rw [prefs_get hi'] at hi
      refine sto_name G Fc.ns_ Fc.cl_ ?_
      rw [← Option.some.inj hi]
      refine Exists.intro _ (Exists.intro _ (And.intro (Pos.tail (Pos.tail (Pos.tail (Pos.tail (Pos.tail (Pos.tail (Pos.tail (Pos.tail Pos.head)))))))) ?_))
      refine Run.pick (N' := (I, isRaw oI) :: (LX, isRaw lo) :: led2 c vz vy (some (.str (pre X i) 0)) (some (.str Z 0)) (some (.str Y 0)) (some (.str X 0)) e d1 d2 d3 K3 t44d t37c (winL X Y Z c.w d3 W)) .all ?_
      refine Run.knows kn ?_
      clear kn hi
      refine run_step Fc 9 ?_
      refine And.intro rfl ?_
      refine run_comp (cl := [("second", c.L + 1 + 1 + 1)]) ?clos5 rfl (by decide) rfl ?_
      case clos5 => (show closureFor _ (envX c.cn c.cs c.L c.a c.ccd c.cl) = _; rw [hcl]; exact rfl)
      refine vE_sound G Fc.ns_ Fc.cl_ Fc.plain 9 _ _ _ _ ?_
      refine And.intro rfl ?_
      refine And.intro rfl ?_
      refine Exists.intro _ (And.intro (.tail _ (.tail _ (.tail _ (.tail _ (.tail _ (.tail _ (.head _))))))) ?_)
      refine cal_len_str (by omega) ?_
      refine bin_add ?_
      refine cal_range ?_
      intro R
      refine comp_range (n := Y.length + 1) (ns := [(".0", .local), ("k", .local), ("second", .cell)]) ?FC5 .all (prefs Y) (prefs_len Y) (by omega) rfl ?turn5 ?done5
      case FC5 => exact ⟨G, by (show (relabel _ (envX c.cn c.cs c.L c.a c.ccd c.cl)).names = _; rw [hcs]; exact rfl), by (show closureFor _ (envX c.cn c.cs c.L c.a c.ccd c.cl) = _; rw [hcl]; exact rfl), rfl, by decide, rfl⟩
      case turn5 =>
        intro i C mm D ys I oI hi
        refine Exists.intro _ (And.intro (.tail _ (.tail _ (.tail _ (.tail _ (.tail _ (.tail _ (.tail _ (.tail _ (.tail _ (.head _)))))))))) ?_)
        refine ⟨_, _, .head _, rfl, ?_⟩
        refine sub_strs (by omega) (fun t q => rfl) (fun t r => rfl) ?_
        exact ⟨rfl, prefs_get hi, _, .all⟩
      case done5 =>
      intro LY
      have hiX : i ≤ X.length := Nat.le_of_lt_succ hi'
      refine for_list (vs := prefs Y) (N0 := (I, isRaw oI) :: (LX, isRaw lo) :: led2 c vz vy (some (.str (pre X i) 0)) (some (.str Z 0)) (some (.str Y 0)) (some (.str X 0)) e d1 d2 d3 K3 t44d t37c (winL X Y Z c.w d3 W)) .all (fun j m N => Knows m [("worths", .ref d2), ("cuts", .ref d1)] ∧ ∃ vy vz W, N = (I, isRaw oI) :: (LX, isRaw lo) :: led2 c vz vy (some (.str (pre X i) 0)) (some (.str Z 0)) (some (.str Y 0)) (some (.str X 0)) e d1 d2 d3 K3 t44d t37c (winL X Y Z c.w d3 W) ∧ (∀ q ∈ W, inW X Y Z q.1 ∧ (q.1.1 < i ∨ q.1.1 = i ∧ q.1.2.1 < j)) ∧ (∀ t, inW X Y Z t → (t.1 < i ∨ t.1 = i ∧ t.2.1 < j) → ∃ q ∈ W, q.1 = t) ∧ W.length ≤ i * 121 + j * 11) (.inr fun _ _ => rfl) ⟨⟨rfl, rfl, trivial⟩, vy, vz, W, rfl, fun q hq => ⟨(w1 q hq).1, .inl (w1 q hq).2⟩, fun t ht h => w2 t ht (by omega), w3⟩ ?turnY ?doneY
      case doneY =>
        clear w1 w2 w3
        rintro m N ⟨kn, vy, vz, W, rfl, w1, w2, w3⟩
        refine run_nil ?_
        refine ⟨[], _, .drop .all, kn, some _, vy, vz, W, rfl, fun q hq => ⟨(w1 q hq).1, by have := (w1 q hq).2; omega⟩, fun t ht h => w2 t ht ?_, by rw [prefs_len] at w3; omega⟩
        rw [prefs_len]
        have := ht.2.1
        omega
      case turnY =>
        clear w1 w2 w3
        rintro j v m N I2 oI2 lo2 hj ⟨kn, vy, vz, W, rfl, w1, w2, w3⟩
        have hj' : j < Y.length + 1 := by
          have := (List.getElem?_eq_some_iff.mp hj).1
          rwa [prefs_len] at this
        rw [prefs_get hj'] at hj
        refine sto_name G Fc.ns_ Fc.cl_ ?_
        rw [← Option.some.inj hj]
        refine Exists.intro _ (Exists.intro _ (And.intro (Pos.tail (Pos.tail (Pos.tail (Pos.tail (Pos.tail Pos.head))))) ?_))
        refine Run.pick (N' := (I2, isRaw oI2) :: (LY, isRaw lo2) :: (I, isRaw oI) :: (LX, isRaw lo) :: led2 c vz (some (.str (pre Y j) 0)) (some (.str (pre X i) 0)) (some (.str Z 0)) (some (.str Y 0)) (some (.str X 0)) e d1 d2 d3 K3 t44d t37c (winL X Y Z c.w d3 W)) .all ?_
        refine Run.knows kn ?_
        clear kn hj
        refine run_step Fc 9 ?_
        refine And.intro rfl ?_
        refine run_comp (cl := [("third", c.L + 1 + 1 + 1 + 1)]) ?clos6 rfl (by decide) rfl ?_
        case clos6 => (show closureFor _ (envX c.cn c.cs c.L c.a c.ccd c.cl) = _; rw [hcl]; exact rfl)
        refine vE_sound G Fc.ns_ Fc.cl_ Fc.plain 9 _ _ _ _ ?_
        refine And.intro rfl ?_
        refine And.intro rfl ?_
        refine Exists.intro _ (And.intro (.tail _ (.tail _ (.tail _ (.tail _ (.tail _ (.tail _ (.tail _ (.head _)))))))) ?_)
        refine cal_len_str (by omega) ?_
        refine bin_add ?_
        refine cal_range ?_
        intro R
        refine comp_range (n := Z.length + 1) (ns := [(".0", .local), ("k", .local), ("third", .cell)]) ?FC6 .all (prefs Z) (prefs_len Z) (by omega) rfl ?turn6 ?done6
        case FC6 => exact ⟨G, by (show (relabel _ (envX c.cn c.cs c.L c.a c.ccd c.cl)).names = _; rw [hcs]; exact rfl), by (show closureFor _ (envX c.cn c.cs c.L c.a c.ccd c.cl) = _; rw [hcl]; exact rfl), rfl, by decide, rfl⟩
        case turn6 =>
          intro i C mm D ys I oI hi
          refine Exists.intro _ (And.intro (.tail _ (.tail _ (.tail _ (.tail _ (.tail _ (.tail _ (.tail _ (.tail _ (.tail _ (.tail _ (.head _))))))))))) ?_)
          refine ⟨_, _, .head _, rfl, ?_⟩
          refine sub_strs (by omega) (fun t q => rfl) (fun t r => rfl) ?_
          exact ⟨rfl, prefs_get hi, _, .all⟩
        case done6 =>
        intro LZ
        have hjY : j ≤ Y.length := Nat.le_of_lt_succ hj'
        refine for_list (vs := prefs Z) (N0 := (I2, isRaw oI2) :: (LY, isRaw lo2) :: (I, isRaw oI) :: (LX, isRaw lo) :: led2 c vz (some (.str (pre Y j) 0)) (some (.str (pre X i) 0)) (some (.str Z 0)) (some (.str Y 0)) (some (.str X 0)) e d1 d2 d3 K3 t44d t37c (winL X Y Z c.w d3 W)) .all (fun k m N => Knows m [("worths", .ref d2), ("cuts", .ref d1)] ∧ ∃ vz W, N = (I2, isRaw oI2) :: (LY, isRaw lo2) :: (I, isRaw oI) :: (LX, isRaw lo) :: led2 c vz (some (.str (pre Y j) 0)) (some (.str (pre X i) 0)) (some (.str Z 0)) (some (.str Y 0)) (some (.str X 0)) e d1 d2 d3 K3 t44d t37c (winL X Y Z c.w d3 W) ∧ (∀ q ∈ W, inW X Y Z q.1 ∧ (q.1.1 < i ∨ q.1.1 = i ∧ q.1.2.1 < j ∨ q.1.1 = i ∧ q.1.2.1 = j ∧ q.1.2.2 < k)) ∧ (∀ t, inW X Y Z t → (t.1 < i ∨ t.1 = i ∧ t.2.1 < j ∨ t.1 = i ∧ t.2.1 = j ∧ t.2.2 < k) → ∃ q ∈ W, q.1 = t) ∧ W.length ≤ i * 121 + j * 11 + k) (.inr fun _ _ => rfl) ⟨⟨rfl, rfl, trivial⟩, vz, W, rfl, fun q hq => ⟨(w1 q hq).1, by have := (w1 q hq).2; omega⟩, fun t ht h => w2 t ht (by omega), w3⟩ ?turnZ ?doneZ
        case doneZ =>
          clear w1 w2 w3
          rintro m N ⟨kn, vz, W, rfl, w1, w2, w3⟩
          refine run_nil ?_
          refine ⟨[], _, .drop .all, kn, some _, vz, W, rfl, fun q hq => ⟨(w1 q hq).1, by have := (w1 q hq).2; omega⟩, fun t ht h => w2 t ht ?_, by rw [prefs_len] at w3; omega⟩
          rw [prefs_len]
          have := ht.2.2
          omega
        case turnZ =>
          clear w1 w2 w3
          rintro k v m N I3 oI3 lo3 hk ⟨kn, vz, W, rfl, w1, w2, w3⟩
          have hk' : k < Z.length + 1 := by
            have := (List.getElem?_eq_some_iff.mp hk).1
            rwa [prefs_len] at this
          rw [prefs_get hk'] at hk
          refine sto_name G Fc.ns_ Fc.cl_ ?_
          rw [← Option.some.inj hk]
          refine Exists.intro _ (Exists.intro _ (And.intro (Pos.tail (Pos.tail (Pos.tail (Pos.tail (Pos.tail (Pos.tail Pos.head)))))) ?_))
          refine Run.knows kn ?_
          clear kn hk
          have hkZ : k ≤ Z.length := Nat.le_of_lt_succ hk'
          refine Run.mono (inner_go (X := X) (Y := Y) (Z := Z) (W := W) (t := (i, j, k)) (e := e) (d1 := d1) (d2 := d2) (d3 := d3) (K3 := K3) ?body (inner_of c X Y Z W (i, j, k) e d1 d2 d3 K3 [(I3, isRaw oI3), (LZ, isRaw lo3), (I2, isRaw oI2), (LY, isRaw lo2), (I, isRaw oI), (LX, isRaw lo)] t44d t37c _ _ _)) ?endZ
          case endZ =>
            rintro f m N ⟨rfl, kn, ka, va, pk⟩
            refine ⟨[], _, pk, kn, some _, W ++ [((i, j, k), ka, va)], rfl, fun q hq => ?_, fun t ht h => ?_, by rw [List.length_append]; show _ + 1 ≤ _; omega⟩
            · rcases List.mem_append.mp hq with h | h
              · exact ⟨(w1 q h).1, by have := (w1 q h).2; omega⟩
              · rw [List.mem_singleton.mp h]
                exact ⟨⟨hiX, hjY, hkZ⟩, .inr (.inr ⟨rfl, rfl, Nat.lt_succ_self k⟩)⟩
            · by_cases q : t.1 < i ∨ t.1 = i ∧ t.2.1 < j ∨ t.1 = i ∧ t.2.1 = j ∧ t.2.2 < k
              · obtain ⟨p, hp, e⟩ := w2 t ht q
                exact ⟨p, List.mem_append_left _ hp, e⟩
              · refine ⟨_, List.mem_append_right _ (.head _), ?_⟩
                exact Prod.ext (by dsimp only; omega) (Prod.ext (by dsimp only; omega) (by dsimp only; omega))
          case body =>
            intro L0 g FIN hI
            have nAx : (cutsA (pre X i)).length ≤ 10 := Nat.le_trans (cutsA_len _) (by rw [pre_len hiX]; omega)
            have nAy : (cutsA (pre Y j)).length ≤ 10 := Nat.le_trans (cutsA_len _) (by rw [pre_len hjY]; omega)
            have nAz : (cutsA (pre Z k)).length ≤ 10 := Nat.le_trans (cutsA_len _) (by rw [pre_len hkZ]; omega)
            have nBx : (cutsB (pre X i)).length ≤ 10 := Nat.le_trans (cutsB_len _) (by rw [pre_len hiX]; omega)
            have nBy : (cutsB (pre Y j)).length ≤ 10 := Nat.le_trans (cutsB_len _) (by rw [pre_len hjY]; omega)
            have nBz : (cutsB (pre Z k)).length ≤ 10 := Nat.le_trans (cutsB_len _) (by rw [pre_len hkZ]; omega)
            have fx := pre_frontE (.inl s1) hiX
            have fy := pre_frontE (.inl z1) hjY
            have fz := pre_frontE aw1 hkZ
            have hW : ∀ q ∈ W, inW X Y Z q.1 := fun q hq => (w1 q hq).1
            have kx := kpX i hiX
            obtain ⟨tx, lax, lbx, gx, ex⟩ := kd1_get kx
            obtain ⟨RAx, pAx, iAx⟩ := hI.cutA _ ex
            obtain ⟨RBx, pBx, iBx⟩ := hI.cutB _ ex
            have hx := hI.tup _ ex
            have ky := kpY j hjY
            obtain ⟨ty, lay, lby, gy, ey⟩ := kd1_get ky
            obtain ⟨RAy, pAy, iAy⟩ := hI.cutA _ ey
            obtain ⟨RBy, pBy, iBy⟩ := hI.cutB _ ey
            have hy := hI.tup _ ey
            have kz := kpZ k hkZ
            obtain ⟨tz, laz, lbz, gz, ez⟩ := kd1_get kz
            obtain ⟨RAz, pAz, iAz⟩ := hI.cutA _ ez
            obtain ⟨RBz, pBz, iBz⟩ := hI.cutB _ ez
            have hz := hI.tup _ ez
            refine run_asgC Fc (clc := [("z", c.L + 1 + 1 + 1 + 1 + 1 + 1 + 1), ("y", c.L + 1 + 1 + 1 + 1 + 1 + 1), ("wins", c.L + 1 + 1 + 1 + 1 + 1)]) ?sAx ?cAx rfl (by decide) rfl ?_
            case sAx => (show swapsWith _ _ _ (envX c.cn c.cs c.L c.a c.ccd c.cl) = _; rw [hcs]; exact rfl)
            case cAx => (show closureFor _ (envX c.cn c.cs c.L c.a c.ccd c.cl) = _; rw [hcl]; exact rfl)
            refine vE_sound G Fc.ns_ Fc.cl_ Fc.plain 9 _ _ _ _ ?_
            refine Exists.intro _ (And.intro hI.inl.cel.x ?_)
            refine sub_dict hI.d1m gx (fun t => rfl) (fun r => rfl) ?_
            refine sub_any (sub_tup hx (by decide) (by decide) rfl (fun t => rfl) (fun r => rfl) ?_)
            refine comp_wins G (ns := [(".0", .local), ("less", .local), ("wins", .cell), ("y", .cell), ("z", .cell)]) (clc := [("z", c.L + 1 + 1 + 1 + 1 + 1 + 1 + 1), ("y", c.L + 1 + 1 + 1 + 1 + 1 + 1), ("wins", c.L + 1 + 1 + 1 + 1 + 1)]) (T := []) (qs := cutsA (pre X i)) (v1 := (fun u => u)) (v2 := (fun _ => .str (pre Y j) 0)) (v3 := (fun _ => .str (pre Z k) 0)) (fun q => decide (worth8 q + worth8 (pre Y j) + worth8 (pre Z k) < 0)) ?FAx rfl ?lAx pAx iAx hW (by decide) (by decide) rfl (fun r i => rfl) (fun C N K h hk => Exists.intro _ (And.intro h.wins hk)) (fun C mm u N K h _ hk => Exists.intro _ (Exists.intro _ (And.intro h (And.intro rfl hk)))) (fun C mm u N K _ h hk => Exists.intro _ (And.intro h.y hk)) (fun C mm u N K _ h hk => Exists.intro _ (And.intro h.z hk)) ?qAx ?_
            case FAx => exact ⟨G, by (show (relabel _ (envX c.cn c.cs c.L c.a c.ccd c.cl)).names = _; rw [hcs]; exact rfl), by (show closureFor _ (envX c.cn c.cs c.L c.a c.ccd c.cl) = _; rw [hcl]; exact rfl), rfl, by decide, rfl⟩
            case lAx => exact Nat.le_trans nAx (by decide)
            case qAx => exact fun q hq => by (obtain ⟨p, hp, rfl⟩ := cutsA_mem hiX hq; exact ⟨(p, j, k), ⟨Nat.le_trans (Nat.le_of_lt hp) hiX, hjY, hkZ⟩, w2 _ ⟨Nat.le_trans (Nat.le_of_lt hp) hiX, hjY, hkZ⟩ (.inl hp), rfl, rfl⟩)
            intro Ax C mm
            refine Exists.intro _ (And.intro rfl ?_)
            refine run_step Fc 9 ?_
            refine And.intro rfl ?_
            refine run_comp (cl := [("z", c.L + 1 + 1 + 1 + 1 + 1 + 1 + 1), ("x", c.L + 1), ("wins", c.L + 1 + 1 + 1 + 1 + 1)]) ?cAy rfl (by decide) rfl ?_
            case cAy => (show closureFor _ (envX c.cn c.cs c.L c.a c.ccd c.cl) = _; rw [hcl]; exact rfl)
            refine vE_sound G Fc.ns_ Fc.cl_ Fc.plain 9 _ _ _ _ ?_
            refine Exists.intro _ (And.intro (.tail _ hI.inl.cel.y) ?_)
            refine sub_dict (.tail _ hI.d1m) gy (fun t => rfl) (fun r => rfl) ?_
            refine sub_any (sub_tup (.tail _ hy) (by decide) (by decide) rfl (fun t => rfl) (fun r => rfl) ?_)
            refine comp_wins G (ns := [(".0", .local), ("less", .local), ("wins", .cell), ("x", .cell), ("z", .cell)]) (clc := [("z", c.L + 1 + 1 + 1 + 1 + 1 + 1 + 1), ("x", c.L + 1), ("wins", c.L + 1 + 1 + 1 + 1 + 1)]) (T := [_]) (qs := cutsA (pre Y j)) (v1 := (fun _ => .str (pre X i) 0)) (v2 := (fun u => u)) (v3 := (fun _ => .str (pre Z k) 0)) (fun q => decide (worth8 (pre X i) + worth8 q + worth8 (pre Z k) < 0)) ?FAy rfl ?lAy pAy iAy hW (by decide) (by decide) rfl (fun r i => rfl) (fun C N K h hk => Exists.intro _ (And.intro h.wins hk)) (fun C mm u N K _ h hk => Exists.intro _ (And.intro h.x hk)) (fun C mm u N K h _ hk => Exists.intro _ (Exists.intro _ (And.intro h (And.intro rfl hk)))) (fun C mm u N K _ h hk => Exists.intro _ (And.intro h.z hk)) ?qAy ?_
            case FAy => exact ⟨G, by (show (relabel _ (envX c.cn c.cs c.L c.a c.ccd c.cl)).names = _; rw [hcs]; exact rfl), by (show closureFor _ (envX c.cn c.cs c.L c.a c.ccd c.cl) = _; rw [hcl]; exact rfl), rfl, by decide, rfl⟩
            case lAy => exact Nat.le_trans nAy (by decide)
            case qAy => exact fun q hq => by (obtain ⟨p, hp, rfl⟩ := cutsA_mem hjY hq; exact ⟨(i, p, k), ⟨hiX, Nat.le_trans (Nat.le_of_lt hp) hjY, hkZ⟩, w2 _ ⟨hiX, Nat.le_trans (Nat.le_of_lt hp) hjY, hkZ⟩ (.inr (.inl ⟨rfl, hp⟩)), rfl, rfl⟩)
            intro Ay
            refine bin_addlist (.tail _ (.head _)) (.head _) ?nAy ?_
            case nAy => (simp only [List.length_append, List.length_map]; omega)
            intro Ay2
            refine Run.pick (.cons .head (.drop (.drop .all))) ?_
            refine run_step Fc 9 ?_
            refine And.intro rfl ?_
            refine run_comp (cl := [("y", c.L + 1 + 1 + 1 + 1 + 1 + 1), ("x", c.L + 1), ("wins", c.L + 1 + 1 + 1 + 1 + 1)]) ?cAz rfl (by decide) rfl ?_
            case cAz => (show closureFor _ (envX c.cn c.cs c.L c.a c.ccd c.cl) = _; rw [hcl]; exact rfl)
            refine vE_sound G Fc.ns_ Fc.cl_ Fc.plain 9 _ _ _ _ ?_
            refine Exists.intro _ (And.intro (.tail _ hI.inl.cel.z) ?_)
            refine sub_dict (.tail _ hI.d1m) gz (fun t => rfl) (fun r => rfl) ?_
            refine sub_any (sub_tup (.tail _ hz) (by decide) (by decide) rfl (fun t => rfl) (fun r => rfl) ?_)
            refine comp_wins G (ns := [(".0", .local), ("less", .local), ("wins", .cell), ("x", .cell), ("y", .cell)]) (clc := [("y", c.L + 1 + 1 + 1 + 1 + 1 + 1), ("x", c.L + 1), ("wins", c.L + 1 + 1 + 1 + 1 + 1)]) (T := [_]) (qs := cutsA (pre Z k)) (v1 := (fun _ => .str (pre X i) 0)) (v2 := (fun _ => .str (pre Y j) 0)) (v3 := (fun u => u)) (fun q => decide (worth8 (pre X i) + worth8 (pre Y j) + worth8 q < 0)) ?FAz rfl ?lAz pAz iAz hW (by decide) (by decide) rfl (fun r i => rfl) (fun C N K h hk => Exists.intro _ (And.intro h.wins hk)) (fun C mm u N K _ h hk => Exists.intro _ (And.intro h.x hk)) (fun C mm u N K _ h hk => Exists.intro _ (And.intro h.y hk)) (fun C mm u N K h _ hk => Exists.intro _ (Exists.intro _ (And.intro h (And.intro rfl hk)))) ?qAz ?_
            case FAz => exact ⟨G, by (show (relabel _ (envX c.cn c.cs c.L c.a c.ccd c.cl)).names = _; rw [hcs]; exact rfl), by (show closureFor _ (envX c.cn c.cs c.L c.a c.ccd c.cl) = _; rw [hcl]; exact rfl), rfl, by decide, rfl⟩
            case lAz => exact Nat.le_trans nAz (by decide)
            case qAz => exact fun q hq => by (obtain ⟨p, hp, rfl⟩ := cutsA_mem hkZ hq; exact ⟨(i, j, p), ⟨hiX, hjY, Nat.le_trans (Nat.le_of_lt hp) hkZ⟩, w2 _ ⟨hiX, hjY, Nat.le_trans (Nat.le_of_lt hp) hkZ⟩ (.inr (.inr ⟨rfl, rfl, hp⟩)), rfl, rfl⟩)
            intro Az
            refine bin_addlist (.tail _ (.head _)) (.head _) ?nAz ?_
            case nAz => (simp only [List.length_append, List.length_map]; omega)
            intro Az2
            refine Run.pick (.cons .head (.drop (.drop .all))) ?_
            refine run_asgC Fc (clc := [("z", c.L + 1 + 1 + 1 + 1 + 1 + 1 + 1), ("y", c.L + 1 + 1 + 1 + 1 + 1 + 1), ("wins", c.L + 1 + 1 + 1 + 1 + 1)]) ?sBx ?cBx rfl (by decide) rfl ?_
            case sBx => (show swapsWith _ _ _ (envX c.cn c.cs c.L c.a c.ccd c.cl) = _; rw [hcs]; exact rfl)
            case cBx => (show closureFor _ (envX c.cn c.cs c.L c.a c.ccd c.cl) = _; rw [hcl]; exact rfl)
            refine vE_sound G Fc.ns_ Fc.cl_ Fc.plain 9 _ _ _ _ ?_
            refine Exists.intro _ (And.intro (.tail _ hI.inl.cel.x) ?_)
            refine sub_dict (.tail _ hI.d1m) gx (fun t => rfl) (fun r => rfl) ?_
            refine sub_any (sub_tup (.tail _ hx) (by decide) (by decide) rfl (fun t => rfl) (fun r => rfl) ?_)
            refine comp_wins G (ns := [(".0", .local), ("less", .local), ("wins", .cell), ("y", .cell), ("z", .cell)]) (clc := [("z", c.L + 1 + 1 + 1 + 1 + 1 + 1 + 1), ("y", c.L + 1 + 1 + 1 + 1 + 1 + 1), ("wins", c.L + 1 + 1 + 1 + 1 + 1)]) (T := [_]) (qs := cutsB (pre X i)) (v1 := (fun u => u)) (v2 := (fun _ => .str (pre Y j) 0)) (v3 := (fun _ => .str (pre Z k) 0)) (fun q => decide (0 < worth8 q + worth8 (pre Y j) + worth8 (pre Z k))) ?FBx rfl ?lBx pBx iBx hW (by decide) (by decide) rfl (fun r i => rfl) (fun C N K h hk => Exists.intro _ (And.intro h.wins hk)) (fun C mm u N K h _ hk => Exists.intro _ (Exists.intro _ (And.intro h (And.intro rfl hk)))) (fun C mm u N K _ h hk => Exists.intro _ (And.intro h.y hk)) (fun C mm u N K _ h hk => Exists.intro _ (And.intro h.z hk)) ?qBx ?_
            case FBx => exact ⟨G, by (show (relabel _ (envX c.cn c.cs c.L c.a c.ccd c.cl)).names = _; rw [hcs]; exact rfl), by (show closureFor _ (envX c.cn c.cs c.L c.a c.ccd c.cl) = _; rw [hcl]; exact rfl), rfl, by decide, rfl⟩
            case lBx => exact Nat.le_trans nBx (by decide)
            case qBx => exact fun q hq => by (obtain ⟨p, hp, rfl⟩ := cutsB_mem hiX hq; exact ⟨(p, j, k), ⟨Nat.le_trans (Nat.le_of_lt hp) hiX, hjY, hkZ⟩, w2 _ ⟨Nat.le_trans (Nat.le_of_lt hp) hiX, hjY, hkZ⟩ (.inl hp), rfl, rfl⟩)
            intro Bx C mm
            refine Exists.intro _ (And.intro rfl ?_)
            refine run_step Fc 9 ?_
            refine And.intro rfl ?_
            refine run_comp (cl := [("z", c.L + 1 + 1 + 1 + 1 + 1 + 1 + 1), ("x", c.L + 1), ("wins", c.L + 1 + 1 + 1 + 1 + 1)]) ?cBy rfl (by decide) rfl ?_
            case cBy => (show closureFor _ (envX c.cn c.cs c.L c.a c.ccd c.cl) = _; rw [hcl]; exact rfl)
            refine vE_sound G Fc.ns_ Fc.cl_ Fc.plain 9 _ _ _ _ ?_
            refine Exists.intro _ (And.intro (.tail _ (.tail _ hI.inl.cel.y)) ?_)
            refine sub_dict (.tail _ (.tail _ hI.d1m)) gy (fun t => rfl) (fun r => rfl) ?_
            refine sub_any (sub_tup (.tail _ (.tail _ hy)) (by decide) (by decide) rfl (fun t => rfl) (fun r => rfl) ?_)
            refine comp_wins G (ns := [(".0", .local), ("less", .local), ("wins", .cell), ("x", .cell), ("z", .cell)]) (clc := [("z", c.L + 1 + 1 + 1 + 1 + 1 + 1 + 1), ("x", c.L + 1), ("wins", c.L + 1 + 1 + 1 + 1 + 1)]) (T := [_, _]) (qs := cutsB (pre Y j)) (v1 := (fun _ => .str (pre X i) 0)) (v2 := (fun u => u)) (v3 := (fun _ => .str (pre Z k) 0)) (fun q => decide (0 < worth8 (pre X i) + worth8 q + worth8 (pre Z k))) ?FBy rfl ?lBy pBy iBy hW (by decide) (by decide) rfl (fun r i => rfl) (fun C N K h hk => Exists.intro _ (And.intro h.wins hk)) (fun C mm u N K _ h hk => Exists.intro _ (And.intro h.x hk)) (fun C mm u N K h _ hk => Exists.intro _ (Exists.intro _ (And.intro h (And.intro rfl hk)))) (fun C mm u N K _ h hk => Exists.intro _ (And.intro h.z hk)) ?qBy ?_
            case FBy => exact ⟨G, by (show (relabel _ (envX c.cn c.cs c.L c.a c.ccd c.cl)).names = _; rw [hcs]; exact rfl), by (show closureFor _ (envX c.cn c.cs c.L c.a c.ccd c.cl) = _; rw [hcl]; exact rfl), rfl, by decide, rfl⟩
            case lBy => exact Nat.le_trans nBy (by decide)
            case qBy => exact fun q hq => by (obtain ⟨p, hp, rfl⟩ := cutsB_mem hjY hq; exact ⟨(i, p, k), ⟨hiX, Nat.le_trans (Nat.le_of_lt hp) hjY, hkZ⟩, w2 _ ⟨hiX, Nat.le_trans (Nat.le_of_lt hp) hjY, hkZ⟩ (.inr (.inl ⟨rfl, hp⟩)), rfl, rfl⟩)
            intro By
            refine bin_addlist (.tail _ (.head _)) (.head _) ?nBy ?_
            case nBy => (simp only [List.length_append, List.length_map]; omega)
            intro By2
            refine Run.pick (.cons .head (.drop (.drop .all))) ?_
            refine run_step Fc 9 ?_
            refine And.intro rfl ?_
            refine run_comp (cl := [("y", c.L + 1 + 1 + 1 + 1 + 1 + 1), ("x", c.L + 1), ("wins", c.L + 1 + 1 + 1 + 1 + 1)]) ?cBz rfl (by decide) rfl ?_
            case cBz => (show closureFor _ (envX c.cn c.cs c.L c.a c.ccd c.cl) = _; rw [hcl]; exact rfl)
            refine vE_sound G Fc.ns_ Fc.cl_ Fc.plain 9 _ _ _ _ ?_
            refine Exists.intro _ (And.intro (.tail _ (.tail _ hI.inl.cel.z)) ?_)
            refine sub_dict (.tail _ (.tail _ hI.d1m)) gz (fun t => rfl) (fun r => rfl) ?_
            refine sub_any (sub_tup (.tail _ (.tail _ hz)) (by decide) (by decide) rfl (fun t => rfl) (fun r => rfl) ?_)
            refine comp_wins G (ns := [(".0", .local), ("less", .local), ("wins", .cell), ("x", .cell), ("y", .cell)]) (clc := [("y", c.L + 1 + 1 + 1 + 1 + 1 + 1), ("x", c.L + 1), ("wins", c.L + 1 + 1 + 1 + 1 + 1)]) (T := [_, _]) (qs := cutsB (pre Z k)) (v1 := (fun _ => .str (pre X i) 0)) (v2 := (fun _ => .str (pre Y j) 0)) (v3 := (fun u => u)) (fun q => decide (0 < worth8 (pre X i) + worth8 (pre Y j) + worth8 q)) ?FBz rfl ?lBz pBz iBz hW (by decide) (by decide) rfl (fun r i => rfl) (fun C N K h hk => Exists.intro _ (And.intro h.wins hk)) (fun C mm u N K _ h hk => Exists.intro _ (And.intro h.x hk)) (fun C mm u N K _ h hk => Exists.intro _ (And.intro h.y hk)) (fun C mm u N K h _ hk => Exists.intro _ (Exists.intro _ (And.intro h (And.intro rfl hk)))) ?qBz ?_
            case FBz => exact ⟨G, by (show (relabel _ (envX c.cn c.cs c.L c.a c.ccd c.cl)).names = _; rw [hcs]; exact rfl), by (show closureFor _ (envX c.cn c.cs c.L c.a c.ccd c.cl) = _; rw [hcl]; exact rfl), rfl, by decide, rfl⟩
            case lBz => exact Nat.le_trans nBz (by decide)
            case qBz => exact fun q hq => by (obtain ⟨p, hp, rfl⟩ := cutsB_mem hkZ hq; exact ⟨(i, j, p), ⟨hiX, hjY, Nat.le_trans (Nat.le_of_lt hp) hkZ⟩, w2 _ ⟨hiX, hjY, Nat.le_trans (Nat.le_of_lt hp) hkZ⟩ (.inr (.inr ⟨rfl, rfl, hp⟩)), rfl, rfl⟩)
            intro Bz
            refine bin_addlist (.tail _ (.head _)) (.head _) ?nBz ?_
            case nBz => (simp only [List.length_append, List.length_map]; omega)
            intro Bz2
            refine Run.pick (.cons .head (.drop (.drop .all))) ?_
            have eqA : ((cutsA (pre X i)).map (fun q => decide (worth8 q + worth8 (pre Y j) + worth8 (pre Z k) < 0))).map Value.bool ++ ((cutsA (pre Y j)).map (fun q => decide (worth8 (pre X i) + worth8 q + worth8 (pre Z k) < 0))).map Value.bool ++ ((cutsA (pre Z k)).map (fun q => decide (worth8 (pre X i) + worth8 (pre Y j) + worth8 q < 0))).map Value.bool = (bitsA (pre X i) (pre Y j) (pre Z k)).map Value.bool := by (unfold bitsA; rw [List.map_append, List.map_append])
            have eqB : ((cutsB (pre X i)).map (fun q => decide (0 < worth8 q + worth8 (pre Y j) + worth8 (pre Z k)))).map Value.bool ++ ((cutsB (pre Y j)).map (fun q => decide (0 < worth8 (pre X i) + worth8 q + worth8 (pre Z k)))).map Value.bool ++ ((cutsB (pre Z k)).map (fun q => decide (0 < worth8 (pre X i) + worth8 (pre Y j) + worth8 q))).map Value.bool = (bitsB (pre X i) (pre Y j) (pre Z k)).map Value.bool := by (unfold bitsB; rw [List.map_append, List.map_append])
            have hij : inW X Y Z (i, j, k) := ⟨hiX, hjY, hkZ⟩
            have hnone : atKey (dtW X Y Z W) (keyW X Y Z (i, j, k)) = none := atW_none hij fun q hq => ⟨hW q hq, fun e => by (have := (w1 q hq).2; rw [e] at this; dsimp only at this; omega)⟩
            refine run_step Fc 9 ?_
            refine And.intro rfl ?_
            refine And.intro rfl ?_
            refine And.intro rfl ?_
            refine cmp_in_is (l := Az2) (bs := bitsA (pre X i) (pre Y j) (pre Z k)) (by rw [← eqA]; exact .tail _ (.head _)) (game_a fx fy fz) ?_
            refine And.intro rfl ?_
            refine cmp_in_is (l := Bz2) (bs := bitsB (pre X i) (pre Y j) (pre Z k)) (by rw [← eqB]; exact .head _) (game_b fx fy fz) ?_
            refine And.intro rfl ?_
            intro va
            refine Exists.intro _ (And.intro (.tail _ (.tail _ (.tail _ hI.inl.cel.wins))) ?_)
            refine And.intro rfl ?_
            refine Exists.intro _ (And.intro (.tail _ (.tail _ (.tail _ hI.inl.cel.x))) ?_)
            refine Exists.intro _ (And.intro (.tail _ (.tail _ (.tail _ hI.inl.cel.y))) ?_)
            refine Exists.intro _ (And.intro (.tail _ (.tail _ (.tail _ hI.inl.cel.z))) ?_)
            refine And.intro rfl ?_
            intro ka
            refine set_dictT G (xs := dtW X Y Z W) (ks := keyW X Y Z (i, j, k)) (.tail (.tail (.tail (.tail hI.pos)))) (dtW_keys fun q h => (.tail _ (.tail _ (.tail _ (.tail _ (hI.inl.fr q h)))))) (.head _) hnone ?lW ?_
            case lW => (unfold dtW; rw [List.length_map]; omega)
            refine run_step Fc 9 ?_
            refine And.intro rfl ?_
            refine Exists.intro _ (And.intro (.tail _ (.tail _ (.tail _ (.tail _ (hI.cel _).x)))) ?_)
            refine sub_dict (.tail _ (.tail _ (.tail _ (.tail _ (hI.d2g _))))) (kd2_get kx) (fun t => rfl) (fun r => rfl) ?_
            refine Exists.intro _ (And.intro (.tail _ (.tail _ (.tail _ (.tail _ (hI.cel _).y)))) ?_)
            refine sub_dict (.tail _ (.tail _ (.tail _ (.tail _ (hI.d2g _))))) (kd2_get ky) (fun t => rfl) (fun r => rfl) ?_
            refine bin_add ?_
            refine Exists.intro _ (And.intro (.tail _ (.tail _ (.tail _ (.tail _ (hI.cel _).z)))) ?_)
            refine sub_dict (.tail _ (.tail _ (.tail _ (.tail _ (hI.d2g _))))) (kd2_get kz) (fun t => rfl) (fun r => rfl) ?_
            refine bin_add ?_
            refine run_step Fc 9 ?_
            refine And.intro rfl ?_
            refine Exists.intro _ (And.intro (.tail _ (.tail _ (.tail _ (.tail _ (hI.cel _).wins)))) ?_)
            refine And.intro rfl ?_
            refine Exists.intro _ (And.intro (.tail _ (.tail _ (.tail _ (.tail _ (hI.cel _).x)))) ?_)
            refine Exists.intro _ (And.intro (.tail _ (.tail _ (.tail _ (.tail _ (hI.cel _).y)))) ?_)
            refine Exists.intro _ (And.intro (.tail _ (.tail _ (.tail _ (.tail _ (hI.cel _).z)))) ?_)
            refine And.intro rfl ?_
            intro kb
            refine sub_dictT G (xs := dtW X Y Z W ++ [(keyW X Y Z (i, j, k), ka, .ref va)]) (ks := keyW X Y Z (i, j, k)) (p := (ka, .ref va)) (.tail _ (.tail _ (.tail _ (.tail _ (.tail _ (hI.dt _)))))) ?hk (.head _) (at_snoc hnone) rfl (fun r => rfl) ?_
            case hk =>
              intro q hq
              rcases List.mem_append.mp hq with h | h
              · exact dtW_keys (fun q h => (.tail _ (.tail _ (.tail _ (.tail _ (.tail _ (hI.fr _ q h))))))) q h
              · rw [List.mem_singleton.mp h]; exact .tail _ (.head _)
            refine And.intro rfl ?_
            refine And.intro rfl ?_
            refine cmp_gt ?_
            refine And.intro rfl ?_
            refine cmp_lt ?_
            refine And.intro rfl ?_
            intro tb
            refine cmp_ne_bools G (l := va) (.tail _ (.tail _ (.tail _ (.head _)))) (.head _) ?_
            refine tru_bool ?_
            rw [sgn_gt, sgn_lt, beq_self_eq_true, beq_self_eq_true]
            refine And.intro (fun z => absurd z (by decide)) (fun _ => ?_)
            refine run_nil (run_nil ⟨rfl, ⟨rfl, rfl, trivial⟩, ka, va, .drop (.drop (.trans (.cons .head (.cons .head (.drop (.drop .all)))) ?_))⟩)
            have := hI.fin ka va
            rwa [show dtW X Y Z (W ++ [((i, j, k), ka, va)]) = dtW X Y Z W ++ [(keyW X Y Z (i, j, k), ka, .ref va)] by (unfold dtW; rw [List.map_append]; rfl)] at this
    case doneX =>
      rintro m N ⟨kn, vx, vy, vz, W, rfl, -, -, -⟩
      refine run_step Fc 9 ?_
      obtain ⟨P2, k2, f2⟩ : ∃ P2 : AO, (∀ r : Led, Pk (t44d ++ r) ((44, P2) :: r)) ∧ ∀ o, P2 o → anyTab o := by
        cases h44d with
        | empty => exact ⟨_, fun r => .all, fun o h => ⟨_, h⟩⟩
        | full => exact ⟨_, fun r => .cons .head (.drop .all), fun o h => ⟨_, h⟩⟩
      obtain ⟨P3, k3', f3⟩ : ∃ P3 : AO, (∀ r : Led, Pk (t37c ++ r) ((37, P3) :: r)) ∧ ∀ o, P3 o → anyTab o := by
        cases h37c with
        | empty => exact ⟨_, fun r => .all, fun o h => ⟨_, h⟩⟩
        | full => exact ⟨_, fun r => .cons .head (.drop .all), fun o h => ⟨_, h⟩⟩
      refine ⟨rfl, isTab, P2, P3, ?_, fun o ⟨ps, h, _⟩ => ⟨ps, h⟩, f2, f3⟩
      refine .drop (.drop (.drop (.drop (.drop (.drop (.drop (.drop ?_)))))))
      refine .trans (M := (126, isTab) :: (44, P2) :: (lrn c.w e d1 d2 K3 ++ (t37c ++ winL X Y Z c.w d3 W))) (.cons .head (k2 _)) ?_
      refine .trans (M := t37c ++ ((126, isTab) :: (44, P2) :: (lrn c.w e d1 d2 K3 ++ winL X Y Z c.w d3 W))) (.perm (by
        classical
        refine List.perm_iff_count.mpr fun q => ?_
        simp only [List.count_append, List.count_cons]
        omega)) ?_
      exact .trans (k3' _) (.cons (.tail .head) (.cons (.tail .head) (.cons .head .nil)))
end Mine
end
section
open PySem PySem.W PyProof.Rows PySem.Calls
set_option maxRecDepth 100000
namespace Mine
theorem ints_er : ∀ {us : List Value} {ns : List Int}, IntsAre us ns → us.map er = ivs ns
  | _, _, .nil => rfl
  | _, _, .cons n t r => by
    rw [List.map_cons, ints_er r]
    rfl
theorem tabs_ok {w : World} {h : Heap} (X : (Mine.hd.heap_1 w.params).In h) (T : ∀ P ∈ [44, 37, 126], h.get? P = some (tabObj #[])) : TabsAt tabs3 h := fun q hq => by
  rcases hq with _ | ⟨_, _ | ⟨_, _ | ⟨_, hq⟩⟩⟩
  · exact ⟨codeHd_of_K X (by kernel_rfl), T _ (.tail _ (.tail _ (.head _)))⟩
  · exact ⟨codeHd_of_K X (by kernel_rfl), T _ (.head _)⟩
  · exact ⟨codeHd_of_K X (by kernel_rfl), T _ (.tail _ (.head _))⟩
  · cases hq
theorem law_fit {w : World} {body : List Stmt} {scope : Scope} (e : lawAt ((Mine.hd.heap_1 w.params).lookup 183) = (body, scope)) : LawGoal w body scope := by
  have := law_walk w
  rw [e] at this
  exact this
theorem law_use {w : World} {body : List Stmt} {scope : Scope} (H : LawGoal w body scope) {h : Heap} (hT : TabsAt tabs3 h) {la : Addr} {us : List Value} {ns : List Int} (hl : h.IsList la us.toArray) (hI : IntsAre us ns) (hn : ¬ ((63 : Nat) : Int) < (ns.length : Int)) {name : Str} {binds : Loc} (hb : binds = ([("script", .ref la)] : Loc)) (c : Cx) (G : Good c) (hw : c.w = w) (_ : c.cn = name) (hcs : c.cs = scope) (hcl : c.cl = cellsFrom (c.L + 1) scope.names []) (hdp : c.dp ≤ 310) (hun : c.un ≤ 20) (h0 : c.h₀ = ghostOf h tabs3) :
    Run c erF (execs body c.env) (lbOf scope.names binds) (cellLed (cbOf scope.names binds) (cellsFrom (c.L + 1) scope.names []) ++ tabLed) LawEnd := by
  rw [hb]
  exact H la us ns c G hw hcs hcl hdp hun (by rw [h0]; exact ghost_list hT hl) (ints_er hI) (by omega)
local macro_rules | `(tactic| walk_at "law go") => `(tactic| (
  k_fill
  intro w s₀ s₁ mg mb G Y fa o pm cd doc dV kV ho hd hcd hD hmg hg args vals as hpre hlay hrd hwl hlo
  have KX := km_in_of Y
  km_tabs Y
  have X := (Ground.X G).1
  refine Ground.open G ?_
  intro T B D TE TW
  try (refine guard_noD D (by decide +kernel) ?_; clear D)
  clear hmg
  wrow_args hpre hlay hrd hwl hlo
  all_goals (
    first | refine callC_kw (enter_call ?_) | refine enter_call ?_
    have he := Dflts.none hD rfl; subst he
    have he := Dflts.noKw hD; subst he
    have hT3 := Mine.tabs_ok KX (by assumption)
    refine Mine.law_enter KX (by kernel_rfl) hT3 T hg ho (fd_plain hd) hcd rfl rfl (by decide) rfl rfl rfl ?good ?H
    (case good => exact fun h tk g D hb => ⟨.inl ⟨_, _, [], rfl, fun _ => rfl, ReadsW.bool _, by wrow_post, fun _ => ⟨List.nodup_nil, fun _ hm => (nomatch hm)⟩⟩, D, rfl, hb⟩)
    (case H => exact Mine.law_use (Mine.law_fit (by kernel_rfl)) hT3 (by assumption) (by assumption) (by assumption) rfl))))
theorem foo : Challenge.rw_re0116_01.Holds := by
  w_on
  refine holds_law law_said fun said => ?_
  refine holds_open (q := VW) (loose := [Str.ofString "_Accumulator"]) (Xt := fun s => xlAt VW [] s && recOk (RowW.records Challenge.rw_re0116_01.row.toRowW) s) (XP := XL VW []) (Yf := Hook.obs HK) (Ya := Hook.val HK) (YP := Hook.says HK) (N := 2098) law_left (Hook.of HK) (Hook.keeps HK) (fun s e => xl_of s (Bool.and_eq_true_iff.mp e).1) XL.keeps (by rfl) (by rfl) (by rfl) (fun s e => recFacts_of (Bool.and_eq_true_iff.mp e).2) (by rfl) said (by decide +kernel) ⟨rfl, rfl, rfl, rfl, rfl, by decide +kernel⟩ ?hw ?hc
  case hw => w_witness2
  case hc => w_strict (walk_at "law go")
end Mine
end
theorem PySem.Challenge.cw_re0116_01_holds : PySem.Challenge.rw_re0116_01.Holds := by
  exact Mine.foo
