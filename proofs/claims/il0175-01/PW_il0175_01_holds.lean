import PyProof.Rows.All
import Wide.All
import OpenK.AllK
import Wide.FinOn
import Lean
import PySem.Challenge.RW_il0175_01
open PySem PySem.W PyProof.Rows PySem.Calls
set_option Elab.async false
set_option linter.unusedVariables false
set_option maxRecDepth 100000
namespace Mine
noncomputable def runQ (p : Program) (w : World) (n₀ : Nat) (ann : Option Value) : Nat → SharedT → Thread → Option SharedT
  | 0, _, _ => none
  | n + 1, s, t => match through t with
    | true => some s
    | false => match PySem.W.Fast.tw6613529449190102663 n₀ ann t with
      | false => none
      | true => match PySem.W.Fast.tw10156331382660048174 (PySem.W.Fast.tw11892475500146522536 PySem.W.Fast.tw14364793385576792824) p w s t with
        | some (s', t') => runQ p w n₀ ann n s' t'
        | none => none
theorem runQ_spec {p : Program} {w : World} {n₀ : Nat} {ann : Option Value} : ∀ {n : Nat} {s r : SharedT} {t : Thread}, runQ p w n₀ ann n s t = some r → topRun treeTable p w n₀ ann n s.abs t = some r.abs
  | 0, _, _, _, h => by cases h
  | n + 1, s, r, t, h => by
    unfold runQ at h
    unfold topRun
    cases ht : through t with
    | true => rw [ht] at h; cases h; rfl
    | false =>
      rw [ht, ← PySem.W.Fast.te6613529449190102663, ← PySem.W.Fast.te10156331382660048174, ← PySem.W.Fast.te11892475500146522536, ← PySem.W.Fast.te14364793385576792824] at h
      cases hk : stepOk n₀ ann t with
      | false => rw [hk] at h; cases h
      | true =>
        rw [hk] at h
        cases hs : stepT (denote treeTable) p w s t with
        | none => rw [hs] at h; cases h
        | some x => obtain ⟨s₂, t₂⟩ := x; rw [hs] at h; dsimp only; rw [stepT_spec hs]; exact runQ_spec h
def insAll : List Obj → BT → Nat → BT
  | [], t, _ => t
  | o :: l, t, n => insAll l (t.ins n o) (n + 1)
noncomputable def bootT (P : Params) (os : OsState) : SharedT := ⟨insAll (boot_heap P).objs.toList .nil 0, 11, {}, #[], boot_drawn, boot_toks, os⟩
theorem bootT_abs (P : Params) (os : OsState) : (bootT P os).abs = ⟨boot_heap P, #[], boot_drawn, boot_toks, os⟩ := by kernel_rfl
theorem boot_size (P : Params) : ((boot_heap P).isNs mainGlobals && (#[] : Array GenState).size == 0, (boot_heap P).objs.size, (boot_heap P).nsMap mainGlobals "__annotations__") = (true, 11, some (.ref 6)) := by kernel_rfl
theorem left_of {p q : Program} {loose : List Str} {Xt : Shared → Bool} {α : Type} {Yf : Shared → α} {Ya : World → α} {N M : Nat}
    (e : opening p = plainProg p.main.scope.names) (hN : Nat.ble 600 N = true) (f : ∀ s, fenceModules? p s = some s) (le : Nat.ble M N = true)
    (r1 : ∀ w : World, (fun os => (runQ p w 11 (some (.ref 6)) M (bootT w.params os) (topStub p)).map fun s => staticsOk (PySem.W.Fast.tw5923862056798008813 p.main.body) (boot_heap w.params) s.abs.heap && namesBound p s.abs.heap && gensDone s.abs && laidKept (boot_heap w.params) s.abs.heap) = fun _ => some true)
    (r2 : ∀ w : World, (fun os => (runQ p w 11 (some (.ref 6)) M (bootT w.params os) (topStub p)).map fun s => PySem.W.Fast.tw4187177175401517315 q loose (PySem.W.Fast.tw5923862056798008813 p.main.body) Xt true s.abs) = fun _ => some (openGood q loose))
    (r3 : ∀ w : World, (fun os => (runQ p w 11 (some (.ref 6)) M (bootT w.params os) (topStub p)).map fun s => Yf s.abs) = fun _ => some (Ya w)) : LeftO p q loose Xt Yf Ya N := fun w => by
  obtain ⟨⟨h, gs, d, k, os⟩, e1, e2⟩ := Option.map_eq_some_iff.mp (boot_open e hN f w)
  obtain ⟨rfl, rfl, rfl, rfl⟩ : h = boot_heap w.params ∧ gs = #[] ∧ d = boot_drawn ∧ k = boot_toks := by simpa using e2
  obtain ⟨z1, z2, z3⟩ : _ ∧ _ ∧ _ := by simpa only [Prod.mk.injEq] using boot_size w.params
  obtain ⟨s, hs, l1⟩ := Option.map_eq_some_iff.mp (congrFun (r1 w) os)
  have l2 := congrFun (r2 w) os
  have l3 := congrFun (r3 w) os
  rw [hs] at l2 l3
  replace l2 := Option.some.inj l2
  replace l3 := Option.some.inj l3
  rw [← PySem.W.Fast.te5923862056798008813] at l1 l2
  rw [← PySem.W.Fast.te4187177175401517315] at l2
  have r := topRun_mono (N - M) _ _ _ _ (runQ_spec hs)
  rw [show M + (N - M) = N by have := Nat.le_of_ble_eq_true le; omega, bootT_abs] at r
  unfold openEnds
  rw [e1]
  show (topFrom treeTable p w N ⟨boot_heap w.params, #[], boot_drawn, boot_toks, os⟩).map _ = _
  unfold topFrom
  dsimp only
  rw [z1, z2, z3, r]
  show Option.map _ (match staticsOk (importedModules p.main.body) (boot_heap w.params) s.abs.heap && namesBound p s.abs.heap && gensDone s.abs && laidKept (boot_heap w.params) s.abs.heap with | true => some s.abs | false => none) = _
  rw [l1]
  exact congrArg some (Prod.ext l2 l3)
end Mine
namespace Mine
theorem top_said : OpenLaw.wellSaid PySem.Challenge.rw_il0175_01 = true := (congrFun PySem.W.Fast.te9446332074065402090 _).trans (by kernel_rfl)
def qv : Program := view PySem.Challenge.pw_il0175_01 [0, 2, 3, 5, 6, 9, 10, 11, 12, 13, 15, 16, 17, 18]
abbrev looseL : List Str := ["_initial_missing", "reduce", "_NodeInfo"]
abbrev xtL (s : Shared) : Bool := xlAt qv [] s && recOk (RowW.records (OpenRow.toRowW PySem.Challenge.rw_il0175_01.row)) s
theorem top_r1 : ∀ w : World, (fun os => (runQ PySem.Challenge.pw_il0175_01 w 11 (some (.ref 6)) 1600 (bootT w.params os) (topStub PySem.Challenge.pw_il0175_01)).map fun s => staticsOk (PySem.W.Fast.tw5923862056798008813 PySem.Challenge.pw_il0175_01.main.body) (boot_heap w.params) s.abs.heap && namesBound PySem.Challenge.pw_il0175_01 s.abs.heap && gensDone s.abs && laidKept (boot_heap w.params) s.abs.heap) = fun _ => some true := by intro w; kernel_rfl
theorem top_r2 : ∀ w : World, (fun os => (runQ PySem.Challenge.pw_il0175_01 w 11 (some (.ref 6)) 1600 (bootT w.params os) (topStub PySem.Challenge.pw_il0175_01)).map fun s => PySem.W.Fast.tw4187177175401517315 qv looseL (PySem.W.Fast.tw5923862056798008813 PySem.Challenge.pw_il0175_01.main.body) xtL true s.abs) = fun _ => some (openGood qv looseL) := by intro w; kernel_rfl
end Mine
local macro_rules | `(tactic| o_law) => `(tactic| refine holds_law Mine.top_said fun said => ?_)
local macro_rules | `(tactic| o_head $H) => `(tactic| (
  refine holds_open (q := Mine.qv) (loose := Mine.looseL) (Xt := Mine.xtL) (XP := XL Mine.qv []) (Yf := Hook.obs $H) (Ya := Hook.val $H) (YP := Hook.says $H) (N := 3146) ?hl (Hook.of $H) (Hook.keeps $H)
    (fun s e => xl_of s (Bool.and_eq_true_iff.mp e).1) XL.keeps (by rfl) (by rfl) (by rfl) (fun s e => recFacts_of (Bool.and_eq_true_iff.mp e).2) (by rfl) (by first | assumption | decide +kernel) (by decide +kernel) ⟨rfl, rfl, rfl, rfl, rfl, by decide +kernel⟩ ?hw ?hc
  case hl => exact Mine.left_of (M := 1600) (by kernel_rfl) (by decide) (fun s => by kernel_rfl) (by decide +kernel) Mine.top_r1 Mine.top_r2 (fun w => by kernel_rfl)))
namespace Mine
set_option maxRecDepth 100000 in
set_option maxHeartbeats 8000000 in
open_top hd for PySem.Challenge.rw_il0175_01
end Mine
namespace Mine

abbrev pg : Program := PySem.Challenge.rw_il0175_01.row.prog
abbrev NoE : Value → Shared → Prop := fun _ _ => False
abbrev OP := Obj → Prop
abbrev Led := List (Addr × OP)

/-- the heap keeps h₀ and bears the ledger -/
structure S (h₀ : Heap) (l : Led) (h : Heap) : Prop where
  keep : ∀ b o, h₀.get? b = some o → h.get? b = some o
  led : ∀ p ∈ l, ∃ o, h.get? p.1 = some o ∧ p.2 o
  fresh : ∀ p ∈ l, h₀.get? p.1 = none
  nd : (l.map (·.1)).Nodup

def isNs (m : Str → Option Value) : OP := fun o => ∃ es ep, o.data = .dict es ep ∧ StrKeys es ∧ ∀ name, nsFind es name = m name
def lsO (xs : List Value) (n : Nat) : Obj := { cls := .type "list", data := .seq xs.toArray n }
def isList (xs : List Value) : OP := fun o => ∃ n, o = lsO xs n
def isInts (ns : List Int) : OP := fun o => ∃ vs, IntsAre vs ns ∧ isList vs o
def isTuple (xs : List Value) : OP := fun o => o = { cls := .type "tuple", data := .seq xs.toArray }
def isCell (v : Option Value) : OP := fun o => o.data = .cell v

inductive Rep (a : Addr) (p p' : OP) : Led → Led → Prop
  | head {r} : Rep a p p' ((a, p) :: r) ((a, p') :: r)
  | tail {q r r'} : Rep a p p' r r' → Rep a p p' (q :: r) (q :: r')

theorem Rep.split {a p p' l l'} (x : Rep a p p' l l') : ∃ u v, l = u ++ (a, p) :: v ∧ l' = u ++ (a, p') :: v := by
  induction x with
  | head => exact ⟨[], _, rfl, rfl⟩
  | tail _ ih => obtain ⟨u, v, rfl, rfl⟩ := ih; exact ⟨_ :: u, v, rfl, rfl⟩
theorem Rep.mem {a p p' l l'} (x : Rep a p p' l l') : (a, p) ∈ l := by
  obtain ⟨u, v, rfl, rfl⟩ := x.split; simp

namespace S
variable {h₀ h h' : Heap} {l l' : Led} {a : Addr} {p p' : OP} {o : Obj}

theorem get (H : S h₀ l h) (hm : (a, p) ∈ l) : ∃ o, h.get? a = some o ∧ p o := H.led _ hm
theorem lt (H : S h₀ l h) (hm : (a, p) ∈ l) : a < h.objs.size := let ⟨_, e, _⟩ := H.get hm; Heap.lt_size e

theorem ext (H : S h₀ l h) (k : ∀ b o, h.get? b = some o → h'.get? b = some o) : S h₀ l h' :=
  ⟨fun b o e => k _ _ (H.keep b o e), fun p hp => let ⟨o, e, q⟩ := H.led p hp; ⟨o, k _ _ e, q⟩, H.fresh, H.nd⟩

theorem push (H : S h₀ l h) (hp : p o) (hf : o.isFreed = false := by k_dflt rfl) : S h₀ ((h.objs.size, p) :: l) (h.push o) := by
  refine ⟨fun b o e => Heap.get?_push_of_some _ (H.keep b o e), fun q hq => ?_, fun q hq => ?_, ?_⟩
  · rcases List.mem_cons.mp hq with rfl | hq
    · exact ⟨o, Heap.get?_push_size _ hf, hp⟩
    · obtain ⟨o', e, r⟩ := H.led q hq; exact ⟨o', Heap.get?_push_of_some _ e, r⟩
  · rcases List.mem_cons.mp hq with rfl | hq
    · cases e : h₀.get? h.objs.size with
      | none => rfl
      | some o' => exact absurd (Heap.lt_size (H.keep _ _ e)) (Nat.lt_irrefl _)
    · exact H.fresh q hq
  · refine List.nodup_cons.mpr ⟨fun hm => ?_, H.nd⟩
    obtain ⟨q, hq, e⟩ := List.mem_map.mp hm
    have := H.lt (a := q.1) (p := q.2) hq
    rw [e] at this; exact Nat.lt_irrefl _ this

/-- all but a kept; a's object is a new one -/
theorem extBut (H : S h₀ l h) (R : Rep a p p' l l') (hs : ∀ b o, b ≠ a → h.get? b = some o → h'.get? b = some o) (hn : ∃ o, h'.get? a = some o ∧ p' o) : S h₀ l' h' := by
  obtain ⟨u, v, rfl, rfl⟩ := R.split
  have nd := H.nd
  have hfa : h₀.get? a = none := H.fresh (a, p) (by simp)
  refine ⟨fun b o e => hs b o (fun q => by rw [q, hfa] at e; cases e) (H.keep b o e), fun q hq => ?_, fun q hq => ?_, ?_⟩
  · have hq' : q = (a, p') ∨ (q ∈ u ++ (a, p) :: v ∧ q.1 ≠ a) := by
      simp only [List.map_append, List.map_cons] at nd
      have n1 := (List.nodup_append.mp nd)
      rcases List.mem_append.mp hq with h1 | h1
      · refine .inr ⟨List.mem_append_left _ h1, fun e => ?_⟩
        exact n1.2.2 q.1 (List.mem_map_of_mem h1) a (.head _) e
      · rcases List.mem_cons.mp h1 with rfl | h1
        · exact .inl rfl
        · refine .inr ⟨List.mem_append_right _ (.tail _ h1), fun e => ?_⟩
          have := (List.nodup_cons.mp n1.2.1).1
          exact this (e ▸ List.mem_map_of_mem h1)
    rcases hq' with rfl | ⟨h1, h2⟩
    · exact hn
    · obtain ⟨o, e, r⟩ := H.led q h1; exact ⟨o, hs _ _ h2 e, r⟩
  · rcases List.mem_append.mp hq with h1 | h1
    · exact H.fresh q (List.mem_append_left _ h1)
    · rcases List.mem_cons.mp h1 with rfl | h1
      · exact hfa
      · exact H.fresh q (List.mem_append_right _ (.tail _ h1))
  · simpa using nd
theorem same (H : S h₀ l h) (R : Rep a p p' l l') (hs : Heap.SameBut a h h') (hn : ∃ o, h'.get? a = some o ∧ p' o) : S h₀ l' h' := H.extBut R hs.extBut hn

theorem sub (H : S h₀ l h) (hl : l'.Sublist l) : S h₀ l' h :=
  ⟨H.keep, fun p hp => H.led p (hl.subset hp), fun p hp => H.fresh p (hl.subset hp), (hl.map _).nodup H.nd⟩
theorem perm (H : S h₀ l h) (hl : l.Perm l') : S h₀ l' h :=
  ⟨H.keep, fun p hp => H.led p (hl.mem_iff.mpr hp), fun p hp => H.fresh p (hl.mem_iff.mpr hp), (hl.map _).nodup_iff.mp H.nd⟩
theorem drop1 {q} (H : S h₀ (q :: l) h) : S h₀ l h := H.sub (List.sublist_cons_self _ _)
theorem weaken (H : S h₀ l h) (R : Rep a p p' l l') (hw : ∀ o, p o → p' o) : S h₀ l' h := by
  obtain ⟨o, e, q⟩ := H.get R.mem
  exact H.extBut R (fun _ _ _ e => e) ⟨o, e, hw o q⟩
/-- the object at a goes, all else is kept -/
theorem lose {u v} (H : S h₀ (u ++ (a, p) :: v) h) (hs : ∀ b o, b ≠ a → h.get? b = some o → h'.get? b = some o) : S h₀ (u ++ v) h' := by
  have nd := H.nd
  have hfa : h₀.get? a = none := H.fresh (a, p) (by simp)
  have H1 : S h₀ (u ++ v) h := H.sub (List.Sublist.append_left (List.sublist_cons_self _ _) _)
  refine ⟨fun b o e => hs b o (fun q => by rw [q, hfa] at e; cases e) (H.keep b o e), fun q hq => ?_, H1.fresh, H1.nd⟩
  obtain ⟨o, e, r⟩ := H1.led q hq
  refine ⟨o, hs _ _ (fun e => ?_) e, r⟩
  simp only [List.map_append, List.map_cons] at nd
  have n1 := (List.nodup_append.mp nd)
  rcases List.mem_append.mp hq with h1 | h1
  · exact n1.2.2 q.1 (List.mem_map_of_mem h1) a (.head _) e
  · exact (List.nodup_cons.mp n1.2.1).1 (e ▸ List.mem_map_of_mem h1)

theorem ns {m} (H : S h₀ l h) (hm : (a, isNs m) ∈ l) : h.Ns a m := by
  obtain ⟨o, e, es, ep, r⟩ := H.get hm; exact ⟨o, es, ep, e, r⟩
theorem list {xs} (H : S h₀ l h) (hm : (a, isList xs) ∈ l) : h.IsList a xs.toArray := by
  obtain ⟨o, e, n, rfl⟩ := H.get hm; exact ⟨_, e, rfl, n, rfl⟩
theorem isL {xs} (H : S h₀ l h) (hm : (a, isList xs) ∈ l) : ∃ n, IsL h a xs.toArray n := by
  obtain ⟨o, e, n, rfl⟩ := H.get hm; exact ⟨n, e⟩
theorem intsAt {ns} (H : S h₀ l h) (hm : (a, isInts ns) ∈ l) : ∃ vs n, IntsAre vs ns ∧ IsL h a vs.toArray n := by
  obtain ⟨o, e, vs, hi, n, rfl⟩ := H.get hm; exact ⟨vs, n, hi, e⟩
theorem cell {v} (H : S h₀ l h) (hm : (a, isCell v) ∈ l) : h.IsCell a v := by
  obtain ⟨o, e, r⟩ := H.get hm; exact ⟨o, e, r⟩
end S
theorem isNs_of {h : Heap} {a m} (n : h.Ns a m) : ∃ o, h.get? a = some o ∧ isNs m o := let ⟨o, es, ep, e, r⟩ := n; ⟨o, e, es, ep, r⟩
theorem isList_of {h : Heap} {a} {xs : List Value} {its : Array Value} {n} (x : IsL h a its n) (e : its = xs.toArray) : ∃ o, h.get? a = some o ∧ isList xs o := by subst e; exact ⟨_, x, n, rfl⟩
theorem isInts_of {h : Heap} {a} {xs : List Value} {ns : List Int} {its : Array Value} {n} (x : IsL h a its n) (e : its = xs.toArray) (hi : IntsAre xs ns) : ∃ o, h.get? a = some o ∧ isInts ns o := by subst e; exact ⟨_, x, xs, hi, n, rfl⟩
theorem list_of_isInts {ns o} (x : isInts ns o) : ∃ vs, IntsAre vs ns ∧ isList vs o := x

/-- what the law's own base gives -/
structure Bg (w : World) (mg mb : Str → Option Value) (h₀ : Heap) : Prop where
  X : (hd.heap_1 w.params).In h₀
  g : h₀.Ns mainGlobals mg
  b : h₀.Ns builtinsNs mb
  nolimit : h₀.NoLimit
  builtins : ∀ x : Str, x ≠ "__name__" → mb x = bootBuiltins x
  bmain : ∃ bm ob, mg "__builtins__" = some (.ref bm) ∧ bm ≠ builtinsNs ∧ h₀.get? bm = some ob ∧ ob.cls = .type "module" ∧ ob.dict = some builtinsNs ∧ ob.data = .plain
  code47 : CodeHd h₀ 47 43
  code202 : CodeHd h₀ 202 200

structure Ok (A : Around) (n : Nat) : Prop where
  hh : A.handled = none
  dep : A.depth + n ≤ 990
  un : A.units + 10 * n ≤ 9800
theorem Ok.deeper {A n env} (x : Ok A (n + 1)) : Ok (A.deeper env) n := ⟨x.hh, by have := x.dep; simp only [depth_deeper]; omega, by have := x.un; simp only [Around.deeper_units]; omega⟩
theorem Ok.le {A n m} (x : Ok A n) (h : m ≤ n) : Ok A m := ⟨x.hh, by have := x.dep; omega, by have := x.un; omega⟩
theorem Ok.in1 {A n} (x : Ok A (n + 1)) : Ok A.in1 n := ⟨x.hh, by have := x.dep; show A.depth + n ≤ _; omega, by have := x.un; show A.units + 1 + _ ≤ _; omega⟩
theorem Ok.room {A n} (x : Ok A n) : A.depth < recursionLimit := by have := x.dep; show A.depth < 1000; omega

/-- one state of the run with another heap and count of tokens -/
def Sh (s s' : Shared) : Prop := ∃ h tk, s' = { s with heap := h, toks := tk }
theorem Sh.refl (s : Shared) : Sh s s := ⟨_, _, rfl⟩
theorem Sh.mk {s : Shared} {h tk} : Sh s { s with heap := h, toks := tk } := ⟨_, _, rfl⟩
theorem Sh.trans {a b c : Shared} (x : Sh a b) (y : Sh b c) : Sh a c := by obtain ⟨_, _, rfl⟩ := x; obtain ⟨_, _, rfl⟩ := y; exact ⟨_, _, rfl⟩

theorem use {α} {M : Model} {A : Around} {t : Sem α} {P Q : α → Shared → Prop} {E : Value → Shared → Prop} {s : Shared} (h : wpAny M A t P NoE s) (k : ∀ a s', P a s' → Q a s') : wpAny M A t Q E s :=
  wpAny_mono h k fun _ _ x => x.elim

section
variable {M : Model} {A : Around} {E : Value → Shared → Prop} {s : Shared} {h₀ : Heap} {l l' : Led} {L : Addr} {env : Env} {m : Str → Option Value} {x : Str} {v : Value}

/-- a local name -/
theorem nmL {pos} {Q : Value → Shared → Prop} (H : S h₀ l s.heap) (hm : (env.locals, isNs m) ∈ l) (hv : m x = some v) (h : Q v s)
    (hk : env.scope.kind = .function := by k_dflt rfl) (hx : env.kindOf x = some .local := by k_dflt rfl) (hd : (x == ("__debug__" : Str)) = false := by decide) : wpAny M A (eval (.Name x pos) env) Q E s :=
  wpAny_Name (wpAny_loadName_local hk hx (H.ns hm) hv h) hd
theorem ldL {Q : Value → Shared → Prop} (H : S h₀ l s.heap) (hm : (env.locals, isNs m) ∈ l) (hv : m x = some v) (h : Q v s)
    (hk : env.scope.kind = .function := by k_dflt rfl) (hx : env.kindOf x = some .local := by k_dflt rfl) : wpAny M A (loadName env x) Q E s :=
  wpAny_loadName_local hk hx (H.ns hm) hv h
theorem nmC {pos} {c : Addr} {Q : Value → Shared → Prop} (H : S h₀ l s.heap) (hc : env.cells.lookup x = some c) (hm : (c, isCell (some v)) ∈ l) (h : Q v s)
    (hk : env.scope.kind = .function := by k_dflt rfl) (hx : env.kindOf x = some .cell := by k_dflt rfl) (hd : (x == ("__debug__" : Str)) = false := by decide) : wpAny M A (eval (.Name x pos) env) Q E s :=
  wpAny_Name (wpAny_loadName_cell hk hx hc (H.cell hm) h) hd
theorem nmF {pos} {c : Addr} {Q : Value → Shared → Prop} (H : S h₀ l s.heap) (hc : env.cells.lookup x = some c) (hm : (c, isCell (some v)) ∈ l) (h : Q v s)
    (hk : env.scope.kind = .function := by k_dflt rfl) (hx : env.kindOf x = some .free := by k_dflt rfl) (hd : (x == ("__debug__" : Str)) = false := by decide) (hn : (x == ("__classdict__" : Str)) = false := by decide) : wpAny M A (eval (.Name x pos) env) Q E s :=
  wpAny_Name (wpAny_loadName_free hk hx hc (H.cell hm) h hn) hd
theorem stL {Q : Unit → Shared → Prop} (H : S h₀ l s.heap) (R : Rep env.locals (isNs m) (isNs fun y => if y = x then some v else m y) l l')
    (h : ∀ h', S h₀ l' h' → Q () { s with heap := h', toks := s.toks + 1 })
    (hx : env.kindOf x = some .local := by k_dflt rfl) (hp : (env.scope.kind == .class || (env.scope.kind == .module && env.locals != env.globals)) = false := by k_dflt rfl) : wpAny M A (storeName env x v) Q E s :=
  wpAny_storeName_local hx (H.ns R.mem) (fun h' hn hs => h h' (H.same R hs (isNs_of hn))) hp
theorem stC {c : Addr} {v₀} {Q : Unit → Shared → Prop} (H : S h₀ l s.heap) (hc : env.cells.lookup x = some c) (R : Rep c (isCell v₀) (isCell (some v)) l l')
    (h : ∀ h', S h₀ l' h' → Q () { s with heap := h' }) (hk : env.scope.kind = .function := by k_dflt rfl) (hx : env.kindOf x = some .cell := by k_dflt rfl) : wpAny M A (storeName env x v) Q E s :=
  wpAny_storeName_cell hk hx hc (H.cell R.mem) fun h' hn hs => h h' (H.same R hs hn)

variable {w : World} {mg mb : Str → Option Value}
theorem nmG {pos} {Q : Value → Shared → Prop} (B : Bg w mg mb h₀) (H : S h₀ l s.heap) (e : nsIn (hd.heap_1 w.params) mainGlobals x = some (some v)) (h : Q v s)
    (hg : env.globals = mainGlobals := by k_dflt rfl) (hk : env.scope.kind = .function := by k_dflt rfl) (hx : env.kindOf x = some .globalImplicit := by k_dflt rfl) (hd : (x == ("__debug__" : Str)) = false := by decide) : wpAny M A (eval (.Name x pos) env) Q E s :=
  Name_function_global hk hx (loadGlobal_global (hg ▸ B.g.keeps H.keep) (mg_of B.X B.g e) h) hd
theorem nmB {pos} {Q : Value → Shared → Prop} (B : Bg w mg mb h₀) (H : S h₀ l s.heap) (e : nsIn (hd.heap_1 w.params) mainGlobals x = some none) (hv : bootBuiltins x = some v) (hn : x ≠ "__name__") (h : Q v s)
    (hg : env.globals = mainGlobals := by k_dflt rfl) (hbi : env.builtins = builtinsNs := by k_dflt rfl) (hk : env.scope.kind = .function := by k_dflt rfl) (hx : env.kindOf x = some .globalImplicit := by k_dflt rfl) (hd : (x == ("__debug__" : Str)) = false := by decide) : wpAny M A (eval (.Name x pos) env) Q E s :=
  Name_function_global hk hx (loadGlobal_builtin (hg ▸ B.g.keeps H.keep) (mg_none_of B.X B.g e) (hbi ▸ B.b.keeps H.keep) ((B.builtins x hn).trans hv) h) hd
end

section
variable {w : World} {mg mb : Str → Option Value} {A : Around} {E : Value → Shared → Prop} {s : Shared} {h₀ : Heap} {l l' : Led} {a L : Addr}

theorem callWithK {env : Env} {pos : Pos} {f : Value} {first : List Value} {Q : Value → Shared → Prop} {e : Expr} {rest : List Expr} (B : Bg w mg mb h₀) (hk : keepIn (hd.heap_1 w.params) f = true)
    (h : wpAny (model pg w) A (spliced (backTo pos (starEach (e :: rest) env))) (fun vs s₁ => (∃ l', S h₀ l' s₁.heap) ∧ wpAny (model pg w) A (call f (first ++ vs)) Q E s₁) E s)
    (he : starEach (e :: rest) env = (false, eval e env) :: starEach rest env := by k_dflt rfl) (hplain : ((backTo pos (starEach rest env)).any fun x => x.fst) = false := by k_dflt rfl) :
    wpAny (model pg w) A (callWith pos f first (backTo pos (starEach (e :: rest) env)) []) Q E s :=
  callWith_K B.X hk (wpAny_mono h (fun _ _ h => ⟨let ⟨_, x⟩ := h.1; B.X.keeps x.keep, h.2⟩) fun _ _ x => x) he hplain
theorem callWithK0 {env : Env} {pos : Pos} {f : Value} {first : List Value} {Q : Value → Shared → Prop} (B : Bg w mg mb h₀) (H : S h₀ l s.heap) (hk : keepIn (hd.heap_1 w.params) f = true)
    (h : wpAny (model pg w) A (call f (first ++ [])) Q E s) : wpAny (model pg w) A (callWith pos f first (backTo pos (starEach [] env)) []) Q E s :=
  callWith_K0 (B.X.keeps H.keep) hk h

theorem enterC {name qual : Str} {params : Arguments} {body : List Stmt} {scope : Scope} {dV kV doc pm cdv ct oc : Value} {an od : Option Addr} {osl : Array (Option Value)} {f : Addr} {args : Args} {binds : List (Str × Value)} {R : Result → Shared → Prop}
    (B : Bg w mg mb h₀) (H : S h₀ l s.heap) (hroom : A.depth < recursionLimit)
    (ho : (hd.heap_1 w.params).lookup f = some ⟨oc, od, .func (fnOf name qual params body scope dV kV doc pm an cdv ct), osl⟩) (hcd : codeIn (hd.heap_1 w.params) cdv qual = true)
    (hbind : BindsTo s (fnOf name qual params body scope dV kV doc pm an cdv ct) args binds) (hloc : (binds.all fun x => decide (scope.names.lookup x.1 = some .local)) = true)
    (h : ∀ L h₁ tk, S h₀ ((L, isNs fun y => binds.reverse.lookup y) :: l) h₁ → wpAny (model pg w) (A.deeper (envX qual scope L f cdv [])) (execs body (envX qual scope L f cdv []))
      (fun fl s' => R (.ok (.ret (match fl with | .ret v => v | _ => .none))) s') NoE { s with heap := h₁, toks := tk })
    (hcell : ∀ x ∈ scope.names, x.2 ≠ .cell := by decide) (hco : scope.isCoroutine = false := by k_dflt rfl) (hgen : scope.isGenerator = false := by k_dflt rfl) (hk : scope.kind = .function := by k_dflt rfl) :
    codeAny (model pg w) A (.call (.ref f) args) R s := by
  refine codeAny_call_def (fd := fnOf name qual params body scope dV kV doc pm an cdv ct) (body := body) (binds := binds) hroom (B.X.keeps H.keep _ _ ho) rfl (B.nolimit.keeps H.keep) (codeRec_of (B.X.keeps H.keep) hcd) rfl hbind hcell (locs hloc) (fun h₁ hns hk₁ => ?_) hco hgen hk
  have H₁ : S h₀ ((s.heap.objs.size, isNs fun y => binds.reverse.lookup y) :: l) h₁ := by
    refine ⟨fun b o e => hk₁ b o (H.keep b o e), fun p hp => ?_, fun p hp => ?_, ?_⟩
    · rcases List.mem_cons.mp hp with rfl | hp
      · exact isNs_of hns
      · obtain ⟨o, e, q⟩ := H.led p hp; exact ⟨o, hk₁ _ _ e, q⟩
    · rcases List.mem_cons.mp hp with rfl | hp
      · cases e : h₀.get? s.heap.objs.size with
        | none => rfl
        | some o' => exact absurd (Heap.lt_size (H.keep _ _ e)) (Nat.lt_irrefl _)
      · exact H.fresh p hp
    · exact (H.push (p := fun _ => True) (o := default) trivial).nd
  exact use (h _ h₁ _ H₁) fun fl s' hl => hl

theorem enter {name qual : Str} {params : Arguments} {body : List Stmt} {scope : Scope} {dV kV doc pm cdv ct oc : Value} {an od : Option Addr} {osl : Array (Option Value)} {f : Addr} {args : List Value} {binds : List (Str × Value)} {Q : Value → Shared → Prop}
    (B : Bg w mg mb h₀) (H : S h₀ l s.heap) (hroom : A.depth < recursionLimit)
    (ho : (hd.heap_1 w.params).lookup f = some ⟨oc, od, .func (fnOf name qual params body scope dV kV doc pm an cdv ct), osl⟩) (hcd : codeIn (hd.heap_1 w.params) cdv qual = true)
    (hbind : BindsTo s (fnOf name qual params body scope dV kV doc pm an cdv ct) ⟨args, []⟩ binds) (hloc : (binds.all fun x => decide (scope.names.lookup x.1 = some .local)) = true)
    (h : ∀ L h₁ tk, S h₀ ((L, isNs fun y => binds.reverse.lookup y) :: l) h₁ → wpAny (model pg w) (A.deeper (envX qual scope L f cdv [])) (execs body (envX qual scope L f cdv []))
      (fun fl s' => Q (match fl with | .ret v => v | _ => .none) s') NoE { s with heap := h₁, toks := tk })
    (hcell : ∀ x ∈ scope.names, x.2 ≠ .cell := by decide) (hco : scope.isCoroutine = false := by k_dflt rfl) (hgen : scope.isGenerator = false := by k_dflt rfl) (hk : scope.kind = .function := by k_dflt rfl) :
    wpAny (model pg w) A (call (.ref f) args) Q E s :=
  wpAny_call (enterC (R := fun r s' => match r with | .ok (.ret v) => Q v s' | .ok _ => False | .error e => E e s') B H hroom ho hcd hbind hloc h hcell hco hgen hk)

/-! lists -/
theorem newListS {vs : List Value} {Q : Value → Shared → Prop} (H : S h₀ l s.heap) (h : ∀ a h', S h₀ ((a, isList vs) :: l) h' → Q (.ref a) { s with heap := h' }) (hsz : vs.length ≤ sizeLine := by size_fits) : wpAny (model pg w) A (newList vs) Q E s :=
  wpAny_newList (h _ _ (H.push ⟨0, rfl⟩)) hsz
theorem newIntsS {vs : List Value} {ns : List Int} {Q : Value → Shared → Prop} (H : S h₀ l s.heap) (hi : IntsAre vs ns) (h : ∀ a h', S h₀ ((a, isInts ns) :: l) h' → Q (.ref a) { s with heap := h' }) (hsz : vs.length ≤ sizeLine := by size_fits) : wpAny (model pg w) A (newList vs) Q E s :=
  wpAny_newList (h _ _ (H.push ⟨vs, hi, 0, rfl⟩)) hsz
theorem newTupleS {vs : List Value} {Q : Value → Shared → Prop} (H : S h₀ l s.heap) (h : ∀ a h', S h₀ ((a, isTuple vs) :: l) h' → Q (.ref a) { s with heap := h' }) (hsz : vs.length ≤ sizeLine := by size_fits) : wpAny (model pg w) A (newTuple vs) Q E s :=
  wpAny_newTuple (h _ _ (H.push rfl)) hsz

theorem gmList {name : Str} {id : String} {pl : Sem Bool} {xs : List Value} {Q : Value × List Value → Shared → Prop} (H : S h₀ l s.heap) (hm : (a, isList xs) ∈ l) (slot : Slot "list" name id) (hty : typeOf (.builtin id) = pure (.type "method_descriptor"))
    (h : Q (.builtin id, [.ref a]) s) : wpAny (model pg w) A (getMethod (.ref a) name pl) Q E s := by
  obtain ⟨n, e⟩ := H.isL hm
  exact getMethod_builtin ⟨_, e, rfl⟩ PySem.F.plainAttrs_list slot hty (fun b q => by cases q; exact ⟨_, e, rfl⟩) h
theorem gmInts {name : Str} {id : String} {pl : Sem Bool} {ns : List Int} {Q : Value × List Value → Shared → Prop} (H : S h₀ l s.heap) (hm : (a, isInts ns) ∈ l) (slot : Slot "list" name id) (hty : typeOf (.builtin id) = pure (.type "method_descriptor"))
    (h : Q (.builtin id, [.ref a]) s) : wpAny (model pg w) A (getMethod (.ref a) name pl) Q E s := by
  obtain ⟨vs, n, hi, e⟩ := H.intsAt hm
  exact getMethod_builtin ⟨_, e, rfl⟩ PySem.F.plainAttrs_list slot hty (fun b q => by cases q; exact ⟨_, e, rfl⟩) h

theorem intsAppend {vs us : List Value} {ns ms : List Int} (h : IntsAre vs ns) (h' : IntsAre us ms) : IntsAre (vs ++ us) (ns ++ ms) := by
  induction h with
  | nil => exact h'
  | cons n t _ ih => exact .cons n t ih
theorem intsErase {vs : List Value} {ns : List Int} (h : IntsAre vs ns) : ∀ k, IntsAre (vs.eraseIdx k) (ns.eraseIdx k) := by
  induction h with
  | nil => intro k; exact .nil
  | cons n t h ih => intro k; cases k with
    | zero => exact h
    | succ k => exact .cons n t (ih k)

theorem appendS {args : List Value} {xs : List Value} {v : Value} {Q : Value → Shared → Prop} (H : S h₀ l s.heap) (R : Rep a (isList xs) (isList (xs ++ [v])) l l') (hsz : xs.length ≤ sizeLine)
    (h : ∀ h', S h₀ l' h' → Q .none { s with heap := h' }) (he : args = [.ref a, v] := by k_dflt rfl) : wpAny (model pg w) A (call (.builtin "list.append") args) Q E s := by
  subst he
  obtain ⟨n, e⟩ := H.isL R.mem
  refine wpAny_list_append_plain (hsz := by simpa using hsz) ⟨n, e⟩ fun h' ⟨n', e'⟩ hs => h h' (H.same R hs ⟨_, e', n', by simp [lsO]⟩)
theorem appendI {args : List Value} {ns : List Int} {i : Int} {t : Tok} {Q : Value → Shared → Prop} (H : S h₀ l s.heap) (R : Rep a (isInts ns) (isInts (ns ++ [i])) l l') (hsz : ns.length ≤ sizeLine)
    (h : ∀ h', S h₀ l' h' → Q .none { s with heap := h' }) (he : args = [.ref a, .int i t] := by k_dflt rfl) : wpAny (model pg w) A (call (.builtin "list.append") args) Q E s := by
  subst he
  obtain ⟨vs, n, hi, e⟩ := H.intsAt R.mem
  refine wpAny_list_append_plain (hsz := by simpa [hi.length] using hsz) ⟨n, e⟩ fun h' ⟨n', e'⟩ hs => h h' (H.same R hs ⟨_, e', vs ++ [.int i t], intsAppend hi (.cons i t .nil), n', by simp [lsO]⟩)

theorem eraseIdx_toArray (vs : List Value) (k : Nat) : vs.toArray.eraseIdxIfInBounds k = (vs.eraseIdx k).toArray := by
  apply Array.ext'
  by_cases hk : k < vs.length
  · rw [Array.eraseIdxIfInBounds, dif_pos (by simpa using hk)]; simp
  · rw [Array.eraseIdxIfInBounds, dif_neg (by simpa using hk)]; simp only []; exact (List.eraseIdx_of_length_le (Nat.not_lt.mp hk)).symm

theorem isList_mk {its : Array Value} {xs : List Value} {n : Nat} (e : its = xs.toArray) : isList xs { cls := .type "list", data := .seq its n } := by subst e; exact ⟨n, rfl⟩
theorem popAtI {args : List Value} {ns : List Int} {i : Int} {u : Tok} {Q : Value → Shared → Prop} (H : S h₀ l s.heap) (R : Rep a (isInts ns) (isInts (ns.eraseIdx i.toNat)) l l') (h0 : 0 ≤ i) (hlt : i < ns.length) (hsz : ns.length ≤ sizeLine)
    (h : ∀ h' t, S h₀ l' h' → Q (.int (ns.getD i.toNat 0) t) { s with heap := h' }) (he : args = [.ref a, .int i u] := by k_dflt rfl) : wpAny (model pg w) A (call (.builtin "list.pop") args) Q E s := by
  subst he
  obtain ⟨vs, n, hi, e⟩ := H.intsAt R.mem
  have hlen := hi.length
  have hk : i.toNat < ns.length := by omega
  obtain ⟨t, hy⟩ := hi.get i.toNat (ns.getD i.toNat 0) (by simp [hk])
  have hs : sizeLine = 2 ^ 24 := rfl
  refine call_meets F.slot_list_pop (T := "list") ⟨_, e, rfl⟩ F.entry_list_pop (F.args_list_pop_2 _ _) (MeetsSeq.list_pop_at a vs.toArray n i u i.toNat _ (by unfold Builtin.List.listFitsIndex; simp; omega) (by unfold seqIndex?; simp; omega) (by simpa using hy) (by simpa [hlen] using hsz)) ⟨e, ?_⟩
  refine h _ t (H.same R (Heap.SameBut.update ..) ⟨_, IsL.update e _, vs.eraseIdx i.toNat, intsErase hi _, isList_mk (eraseIdx_toArray _ _)⟩)

theorem popI {args : List Value} {ns : List Int} {i : Int} {Q : Value → Shared → Prop} (H : S h₀ l s.heap) (R : Rep a (isInts (ns ++ [i])) (isInts ns) l l') (hsz : ns.length < sizeLine)
    (h : ∀ h' t, S h₀ l' h' → Q (.int i t) { s with heap := h' }) (he : args = [.ref a] := by k_dflt rfl) : wpAny (model pg w) A (call (.builtin "list.pop") args) Q E s := by
  subst he
  obtain ⟨vs, n, hi, e⟩ := H.intsAt R.mem
  have hlen := hi.length
  simp at hlen
  obtain ⟨t, hy⟩ := hi.get ns.length i (by simp)
  refine call_meets F.slot_list_pop (T := "list") ⟨_, e, rfl⟩ F.entry_list_pop (F.args_list_pop_1 _) (MeetsSeq.list_pop_last a vs.toArray n (.int i t) (by simpa [hlen] using hy) (by simp [hlen]; omega)) ⟨e, ?_⟩
  have he := intsErase hi (vs.length - 1)
  rw [show (ns ++ [i]).eraseIdx (vs.length - 1) = ns by rw [hlen]; simp [List.eraseIdx_append_of_length_le]] at he
  refine h _ t (H.same R (Heap.SameBut.update ..) ⟨_, IsL.update e _, vs.eraseIdx (vs.length - 1), he, isList_mk (eraseIdx_toArray _ _)⟩)
end

/-! picking a ledger out of another -/
inductive Take (p : Addr × OP) : Led → Led → Prop
  | head {r} : Take p (p :: r) r
  | tail {q r r'} : Take p r r' → Take p (q :: r) (q :: r')
inductive Pick : Led → Led → Prop
  | refl {l} : Pick l l
  | cons {p t l l'} : Take p l l' → Pick t l' → Pick (p :: t) l
  | drop {t q l} : Pick t l → Pick t (q :: l)
  | perm {t t' l : Led} : t'.Perm t → Pick t' l → Pick t l
theorem Take.perm {p l l'} (x : Take p l l') : l.Perm (p :: l') := by
  induction x with
  | head => exact .refl _
  | tail _ ih => exact (ih.cons _).trans (List.Perm.swap ..)
theorem S.pick {h₀ h : Heap} {l t : Led} (H : S h₀ l h) (x : Pick t l) : S h₀ t h := by
  have : ∃ r, l.Perm (t ++ r) := by
    clear H
    induction x with
    | refl => exact ⟨[], by simp⟩
    | cons a _ ih => obtain ⟨r, e⟩ := ih; exact ⟨r, a.perm.trans (e.cons _)⟩
    | @drop t q l _ ih => obtain ⟨r, e⟩ := ih; exact ⟨q :: r, (e.cons q).trans (by simpa using List.perm_middle.symm)⟩
    | perm e _ ih => obtain ⟨r, e2⟩ := ih; exact ⟨r, e2.trans (e.append_right r)⟩
  obtain ⟨r, e⟩ := this
  exact (H.perm e).sub (List.sublist_append_left _ _)

local macro_rules | `(tactic| walk_at "rep") => `(tactic| first | exact Rep.head | (refine Rep.tail ?_; walk_at "rep"))
local macro_rules | `(tactic| walk_at "mem") => `(tactic| first | exact List.Mem.head _ | (refine List.Mem.tail _ ?_; walk_at "mem"))

/-- an iterator at it: n items; P i its object before item i -/
structure It (w : World) (A : Around) (it : Addr) (n : Nat) (val : Nat → Value → Prop) (P : Nat → OP) (side : Heap → Prop) : Prop where
  step : ∀ i (s : Shared) (Q : Option Value → Shared → Prop) (E : Value → Shared → Prop), i < n → (∃ o, s.heap.get? it = some o ∧ P i o) → side s.heap →
    (∀ v h' tk, val i v → Heap.SameBut it s.heap h' → (∃ o, h'.get? it = some o ∧ P (i + 1) o) → Q (some v) { s with heap := h', toks := tk }) → wpAny (model pg w) A (pyNext (.ref it)) Q E s
  stop : ∀ (s : Shared) (Q : Option Value → Shared → Prop) (E : Value → Shared → Prop), (∃ o, s.heap.get? it = some o ∧ P n o) → side s.heap →
    (∀ h' tk, Heap.ExtBut it s.heap h' → Q none { s with heap := h', toks := tk }) → wpAny (model pg w) A (pyNext (.ref it)) Q E s
  self : ∀ i (s : Shared) (Q : Value → Shared → Prop) (E : Value → Shared → Prop), (∃ o, s.heap.get? it = some o ∧ P i o) → Q (.ref it) s → wpAny (model pg w) A (pyIter (.ref it)) Q E s

def isListIt (x : Addr) (i : Nat) : OP := fun o => o.cls = .type "list_iterator" ∧ o.data = .fields #[.ref x, .int i 0]
theorem It.list {w A} (hh : A.handled = none) {it x : Addr} {xs : List Value} : It w A it xs.length (fun i v => xs[i]? = some v) (isListIt x) (fun h => h.IsList x xs.toArray) where
  step := fun i s Q E hi ⟨o, e, r⟩ hl hQ => wpAny_pyNext_list_item (x := xs[i]) ⟨o, e, r⟩ hl (by simp [hi]) fun h' ⟨o', e', r'⟩ hs' => hQ _ h' s.toks (by simp [hi]) hs' ⟨o', e', r'⟩
  stop := fun s Q E ⟨o, e, r⟩ hl hQ => wpAny_pyNext_list_end hh ⟨o, e, r⟩ hl (by simp) fun h' he => hQ h' s.toks he
  self := fun i s Q E ⟨o, e, r⟩ hQ => wpAny_pyIter_listiter ⟨o, e, r⟩ hQ
def isRangeIt (a c : Int) (n : Nat) (i : Nat) : OP := fun o => o = { cls := .type "range_iterator", dict := none, data := .fields #[rawInt (a + i * c), rawInt ((n : Int) - i), rawInt c], slots := #[] }
theorem It.range {w A} (hh : A.handled = none) {it : Addr} {a c : Int} {n : Nat} : It w A it n (fun i v => ∃ t, v = .int (a + i * c) t) (isRangeIt a c n) (fun _ => True) where
  step := fun i s Q E hi ⟨o, e, r⟩ _ hQ => by
    subst r
    refine wpAny_pyNext_range_item e (by omega) fun h' hit' hs' => hQ _ h' _ ⟨_, rfl⟩ hs' ⟨_, hit', ?_⟩
    have e1 : a + ((i + 1 : Nat) : Int) * c = a + (i : Int) * c + c := by push_cast; rw [Int.add_mul, Int.one_mul, Int.add_assoc]
    have e2 : (n : Int) - ((i + 1 : Nat) : Int) = (n : Int) - (i : Int) - 1 := by push_cast; omega
    show _ = _
    rw [e1, e2]
  stop := fun s Q E ⟨o, e, r⟩ _ hQ => by
    subst r
    exact wpAny_pyNext_range_end hh e (by omega) fun h' he => hQ h' s.toks he
  self := fun i s Q E ⟨o, e, r⟩ hQ => by
    subst r
    exact wpAny_pyIter_rangeiter e hQ

section
variable {w : World} {mg mb : Str → Option Value} {A : Around} {E : Value → Shared → Prop} {s : Shared} {h₀ : Heap} {l l' rest : Led} {a L it : Addr} {env : Env} {n : Nat} {val : Nat → Value → Prop} {P : Nat → OP} {side : Heap → Prop}

theorem forLoop {target : Expr} {body : List Stmt} {R : Result → Shared → Prop} (T : It w A it n val P side) (J : Nat → Led → Prop) {lj₀ : Led}
    (H : S h₀ ((it, P 0) :: (lj₀ ++ rest)) s.heap) (hJ : J 0 lj₀)
    (hside : ∀ i lj h, i ≤ n → J i lj → S h₀ ((it, P i) :: (lj ++ rest)) h → side h)
    (turn : ∀ i v lj h tk, i < n → val i v → J i lj → S h₀ ((it, P (i + 1)) :: (lj ++ rest)) h →
      wpAny (model pg w) A (assign target env v) (fun _ s₂ => wpAny (model pg w) A (execs body env) (fun fl s₃ => match fl with
        | .next | .cont => ∃ lj', J (i + 1) lj' ∧ S h₀ ((it, P (i + 1)) :: (lj' ++ rest)) s₃.heap ∧ Sh s s₃
        | .brk => R (.ok .next) s₃
        | .ret v => R (.ok (.ret v)) s₃) NoE s₂) NoE { s with heap := h, toks := tk })
    (done : ∀ lj h tk, J n lj → S h₀ (lj ++ rest) h → R (.ok .next) { s with heap := h, toks := tk })
    (ht : ∀ i v (s : Shared) (Q : Unit → Shared → Prop) (E : Value → Shared → Prop), (∃ o, s.heap.get? it = some o ∧ P i o) → Q () s → wpAny (model pg w) A (letOwnedTupleGo target (.ref it) v) Q E s) : codeAny (model pg w) A (.forLoop target (.ref it) body [] env) R s := by
  refine codeAny_forLoop_any (fun k s' => ∃ i lj, i ≤ n ∧ k = n + 1 - i ∧ J i lj ∧ S h₀ ((it, P i) :: (lj ++ rest)) s'.heap ∧ Sh s s') ?_ (n + 1) ⟨0, lj₀, Nat.zero_le _, rfl, hJ, H, Sh.refl s⟩
  rintro k s' ⟨i, lj, hi, rfl, hj, H', h', tk', rfl⟩
  have hs := hside i lj _ hi hj H'
  have hit := H'.get (List.Mem.head _)
  by_cases hlt : i < n
  · refine T.step i _ _ _ hlt hit hs fun v h₁ tk₁ hv hs₁ hP => ?_
    refine ht (i + 1) v _ _ _ hP (use (turn i v lj h₁ tk₁ hlt hv hj (H'.same Rep.head hs₁ hP)) fun _ s₂ h₂ => use h₂ fun fl s₃ h₃ => ?_)
    cases fl with
    | next => obtain ⟨lj', a1, a2, a3⟩ := h₃; exact ⟨n + 1 - (i + 1), by omega, i + 1, lj', hlt, rfl, a1, a2, a3⟩
    | cont => obtain ⟨lj', a1, a2, a3⟩ := h₃; exact ⟨n + 1 - (i + 1), by omega, i + 1, lj', hlt, rfl, a1, a2, a3⟩
    | brk => exact h₃
    | ret v => exact h₃
  · have : i = n := by omega
    subst this
    refine T.stop _ _ _ hit hs fun h₁ tk₁ he => wpAny_execs_nil ?_
    exact done lj h₁ tk₁ hj (H'.lose (u := []) fun b o hb e => he b o hb e)

theorem iterList {x : Addr} {xs : List Value} {Q : Value → Shared → Prop} (H : S h₀ l s.heap) (hl : s.heap.IsList x xs.toArray) (h : ∀ it h', S h₀ ((it, isListIt x 0) :: l) h' → Q (.ref it) { s with heap := h' }) :
    wpAny (model pg w) A (pyIter (.ref x)) Q E s := wpAny_pyIter_list hl (h _ _ (H.push ⟨rfl, rfl⟩))

def isRange (a b c : Int) : OP := fun o => ∃ t u v, o = { cls := .type "range", dict := none, data := .fields #[.int a t, .int b u, .int c v], slots := #[] }
theorem range1 {args : List Value} {k : Int} {t : Tok} {Q : Value → Shared → Prop} (H : S h₀ l s.heap) (h : ∀ r h' tk, S h₀ ((r, isRange 0 k 1) :: l) h' → Q (.ref r) { s with heap := h', toks := tk }) (he : args = [.int k t] := by k_dflt rfl) :
    wpAny (model pg w) A (call (.type "range") args) Q E s := by subst he; exact call_range_1 (h _ _ _ (H.push ⟨_, _, _, rfl⟩))
theorem range3 {args : List Value} {a b c : Int} {t u v : Tok} {Q : Value → Shared → Prop} (H : S h₀ l s.heap) (hc : c ≠ 0) (hs : Builtin.divisionGoesByPylong (b - a) c = false) (h : ∀ r h' tk, S h₀ ((r, isRange a b c) :: l) h' → Q (.ref r) { s with heap := h', toks := tk }) (he : args = [.int a t, .int b u, .int c v] := by k_dflt rfl) :
    wpAny (model pg w) A (call (.type "range") args) Q E s := by subst he; exact call_range_3 hc (h _ _ _ (H.push ⟨_, _, _, rfl⟩)) (.inl hs)
theorem iterRange {r : Addr} {a b c : Int} {n : Nat} {Q : Value → Shared → Prop} (H : S h₀ l s.heap) (hm : (r, isRange a b c) ∈ l) (hsm : Builtin.Range.small a b c = true) (hn : Builtin.Range.rangeSize a b c = (n : Int))
    (h : ∀ it h', S h₀ ((it, isRangeIt a c n 0) :: l) h' → Q (.ref it) { s with heap := h' }) : wpAny (model pg w) A (pyIter (.ref r)) Q E s := by
  obtain ⟨o, e, t, u, v, rfl⟩ := H.get hm
  refine wpAny_pyIter_range e hsm (h _ _ (H.push ?_))
  show _ = _
  rw [hn]; simp

/-! comprehensions -/
theorem pushCells_S : ∀ (names : List (Str × NameKind)) (h : Heap) (l : Led), S h₀ l h → S h₀ ((cellsFrom h.objs.size names []).map (fun p => (p.2, isCell none)) ++ l) (pushCells h names) := by
  have key : ∀ (names : List (Str × NameKind)) (h : Heap) (acc : List (Str × Addr)) (l : Led), S h₀ (acc.map (fun p => (p.2, isCell none)) ++ l) h → S h₀ ((cellsFrom h.objs.size names acc).map (fun p => (p.2, isCell none)) ++ l) (pushCells h names) := by
    intro names
    induction names with
    | nil => intro h acc l H; exact H
    | cons x r ih =>
      intro h acc l H
      obtain ⟨name, kind⟩ := x
      unfold pushCells cellsFrom
      split
      · have := ih (h.push { cls := .type "cell", data := .cell none }) ((name, h.objs.size) :: acc) l (by simpa using H.push (p := isCell none) (o := { cls := .type "cell", data := .cell none }) rfl)
        rwa [Heap.size_push] at this
      · exact ih h acc l H
  intro names h l H
  exact key names h [] l (by simpa using H)
theorem cellsFrom_acc : ∀ (names : List (Str × NameKind)) (n : Nat) (acc : List (Str × Addr)), cellsFrom n names acc = cellsFrom n names [] ++ acc
  | [], _, acc => rfl
  | (x, k) :: r, n, acc => by
    unfold cellsFrom
    split
    · rw [cellsFrom_acc r (n + 1) ((x, n) :: acc), cellsFrom_acc r (n + 1) [(x, n)]]; simp
    · exact cellsFrom_acc r n acc

theorem compEnvS {scope : Scope} {cl : List (Str × Addr)} {Q : Env → Shared → Prop} (H : S h₀ l s.heap)
    (h : ∀ C h' cs, cs = cellsFrom (C + 1) scope.names [] → S h₀ (cs.map (fun p => (p.2, isCell none)) ++ (C, isNs fun _ => none) :: l) h' →
      Q { scope := scope, locals := C, globals := env.globals, cells := cs ++ cl, qual := env.qual, func := none, code := env.code, frame := env.frame, builtins := env.builtins } { s with heap := h' }) :
    wpAny (model pg w) A (newFunctionEnv scope env.globals cl [] env.qual none .none (some env)) Q E s := by
  simp only [newFunctionEnv, Option.isSome_some, if_true]
  refine wpAny_bind (wpAny_alloc ?_)
  refine wpAny_bind (wpAny_layCells _ (fun name kind cells => by cases hkc : kind == NameKind.cell <;> simp [hkc]) _ _ _ _ ?_)
  have H1 := H.push (p := isNs fun _ => none) (o := { cls := .type "dict", data := .dict #[] }) (by
    obtain ⟨o, es, ep, e, r⟩ := Heap.Ns.new s.heap (.type "dict")
    rw [Heap.get?_push_size _ rfl] at e
    cases e
    exact ⟨es, ep, r⟩)
  have H2 := pushCells_S scope.names _ _ H1
  rw [Heap.size_push] at H2
  rw [show ({ s with heap := s.heap.push { cls := .type "dict", data := .dict #[] } } : Shared).heap.objs.size = s.heap.objs.size + 1 from Heap.size_push ..]
  rw [cellsFrom_acc]
  exact wpAny_bind (wpAny_pure (wpAny_pure (h _ _ _ rfl H2)))

theorem compLoopG {R : Result → Shared → Prop} {elt target iter : Expr} {ifs : List Expr} {scope : Scope} {pos : Pos} {it acc : Value} {env : Env} (I : Nat → Shared → Prop)
    (turn : ∀ n s, I n s → wpAny (model pg w) A (pyNext it) (fun r s₁ => match r with
      | none => R (.ok .next) s₁
      | some v => wpAny (model pg w) A (letOwnedTupleGo target it v) (fun _ s₁' => wpAny (model pg w) A (assign target env v) (fun _ s₂ =>
          wpAny (model pg w) A (forIn ifs true fun c r => if r = true then do let ok ← isTrue c env (eval c env); pure (ForInStep.yield ok) else pure (ForInStep.yield r)) (fun ok s₃ =>
            if ok = true then wpAny (model pg w) A (eval elt env) (fun x s₄ =>
              wpAny (model pg w) A (call (.builtin "list.append") [acc, x]) (fun _ s₅ => ∃ m, m < n ∧ I m s₅) (notedBy (model pg w) A env fun e s' => R (.error e) s') s₄) (notedBy (model pg w) A env fun e s' => R (.error e) s') s₃
            else ∃ m, m < n ∧ I m s₃) (notedBy (model pg w) A env fun e s' => R (.error e) s') s₂) (notedBy (model pg w) A env fun e s' => R (.error e) s') s₁') (notedBy (model pg w) A env fun e s' => R (.error e) s') s₁) (notedBy (model pg w) A env fun e s' => R (.error e) s') s)
    (n : Nat) (h : I n s) : codeAny (model pg w) A (.compLoop (.ListComp elt [⟨target, iter, ifs, 0⟩] scope pos) 0 it acc env) R s := by
  refine codeAny_loop rfl I (fun n s hI => ?_) n h
  show wpAny _ A ((compTurn (.ListComp elt [⟨target, iter, ifs, 0⟩] scope pos) 0 it acc env).onRaise (fun x => do noteFrame x env; theTreesLotGoes x)) _ _ s
  refine wpAny_noted ?_
  rw [compTurn_list]
  refine wpAny_bind (wpAny_standAt (wpAny_bind (wpAny_mono (turn n s hI) (fun r s₁ h₁ => ?_) fun _ _ h' => h')))
  cases r with
  | none => exact wpAny_pure h₁
  | some v =>
    refine wpAny_bind (wpAny_mono h₁ (fun _ s₁' h₁' => ?_) fun _ _ h' => h')
    refine wpAny_bind (wpAny_mono h₁' (fun _ s₂ h₂ => wpAny_bind (wpAny_mono h₂ (fun ok s₃ h₃ => ?_) fun _ _ h' => h')) fun _ _ h' => h')
    cases ok with
    | false => exact wpAny_pure ⟨rfl, h₃⟩
    | true => exact wpAny_bind (wpAny_bind (wpAny_mono h₃ (fun x s₄ h₄ => wpAny_bind (wpAny_mono h₄ (fun _ s₅ h₅ => wpAny_pure (wpAny_pure ⟨rfl, h₅⟩)) fun _ _ h' => h')) fun _ _ h' => h'))
abbrev envC (env : Env) (scope : Scope) (C : Addr) (cells : List (Str × Addr)) : Env := { scope := relabel scope env, locals := C, globals := env.globals, cells := cells, qual := env.qual, func := none, code := env.code, frame := env.frame, builtins := env.builtins }
abbrev someCells (cs : List (Str × Addr)) : Led := cs.map fun p => (p.2, fun o => ∃ v, isCell v o)
inductive CS (h₀ : Heap) (w : World) (A : Around) (E : Value → Shared → Prop) (elt target : Expr) (ifs : List Expr) (scope : Scope) (cl : List (Str × Addr)) (env : Env) (use' : Option (Value → Sem Unit)) (Q : Value → Shared → Prop) (itv : Value) (s₂ : Shared) : Prop
  | mk (it : Addr) (n : Nat) (val : Nat → Value → Prop) (P : Nat → OP) (side : Heap → Prop) (l₂ rest : Led) (J : Nat → List Value → Led → Prop) (lj₀ : Led)
    (e : itv = .ref it)
    (T : It w A it n val P side)
    (ht : (∀ i v (s : Shared) (Q : Unit → Shared → Prop) (E : Value → Shared → Prop), (∃ o, s.heap.get? it = some o ∧ P i o) → Q () s → wpAny (model pg w) A (letOwnedTupleGo target (.ref it) v) Q E s))
    (H : S h₀ ((it, P 0) :: l₂) s₂.heap)
    (e2 : l₂ = lj₀ ++ rest)
    (hJ : J 0 [] lj₀)
    (hn : n ≤ sizeLine)
    (hside : (∀ i ys lj h, i ≤ n → J i ys lj → S h₀ ((it, P i) :: (lj ++ rest)) h → side h))
    (hlen : (∀ i ys lj, J i ys lj → ys.length ≤ i))
    (turn : (∀ C D cs mC i v ys lj h tk, cs = (cellsFrom (C + 1) scope.names []) → i < n → val i v → J i ys lj →
          S h₀ ((it, P (i + 1)) :: (C, isNs mC) :: (D, isList ys) :: (someCells cs ++ (lj ++ rest))) h →
          wpAny (model pg w) A (assign target (envC env scope C (cs ++ cl)) v) (fun _ s₃ =>
            wpAny (model pg w) A (forIn ifs true fun c r => if r = true then do let ok ← isTrue c (envC env scope C (cs ++ cl)) (eval c (envC env scope C (cs ++ cl))); pure (ForInStep.yield ok) else pure (ForInStep.yield r)) (fun ok s₄ =>
              if ok = true then wpAny (model pg w) A (eval elt (envC env scope C (cs ++ cl))) (fun y s₅ => ∃ lj' mC', J (i + 1) (ys ++ [y]) lj' ∧
                S h₀ ((it, P (i + 1)) :: (C, isNs mC') :: (D, isList ys) :: (someCells cs ++ (lj' ++ rest))) s₅.heap ∧ Sh s₂ s₅) NoE s₄
              else ∃ lj' mC', J (i + 1) ys lj' ∧ S h₀ ((it, P (i + 1)) :: (C, isNs mC') :: (D, isList ys) :: (someCells cs ++ (lj' ++ rest))) s₄.heap ∧ Sh s₂ s₄) NoE s₃) NoE { s₂ with heap := h, toks := tk }))
    (done : (∀ D ys lj h tk, J n ys lj → S h₀ ((D, isList ys) :: (lj ++ rest)) h → match use' with
          | none => Q (.ref D) { s₂ with heap := h, toks := tk }
          | some u => ∀ C mC, S h₀ ((C, isNs mC) :: (D, isList ys) :: (lj ++ rest)) h → wpAny (model pg w) A (u (.ref D)) (fun _ s₃ => ∃ mC, s₃.heap.Ns C mC ∧ ∀ h', Heap.SameBut C s₃.heap h' → Q .none { s₃ with heap := h' }) E { s₂ with heap := h, toks := tk })) : CS h₀ w A E elt target ifs scope cl env use' Q itv s₂
/-- a list comprehension of one clause; the turn is walked in place -/
theorem compS {elt iter target : Expr} {ifs : List Expr} {scope : Scope} {pos : Pos} {cl : List (Str × Addr)} {use' : Option (Value → Sem Unit)} {Q : Value → Shared → Prop}
    (hclos : closureFor scope env = pure cl) (hkind : scope.kind = .function) (hnames : ∀ x ∈ scope.names, x.2 = .local → scope.names.lookup x.1 = some .local)
    (h : wpAny (model pg w) A (eval iter env) (fun x s₁ => wpAny (model pg w) A (pyIter x) (fun itv s₂ =>
      CS h₀ w A E elt target ifs scope cl env use' Q itv s₂) E s₁) E s)
    (hs : ∀ x, foldedSetIterable iter env x = pure x := by k_dflt (intro _; rfl))  :
    wpAny (model pg w) A (comprehension (.ListComp elt [⟨target, iter, ifs, 0⟩] scope pos) scope env (firstIterPos [⟨target, iter, ifs, 0⟩] pos) (newList []) (firstAsync [⟨target, iter, ifs, 0⟩]) (firstIter [⟨target, iter, ifs, 0⟩] env) use') Q E s := by
  refine wpAny_comprehension_free rfl hs hclos hkind hnames (wpAny_mono h (fun xv s₁ h₁ => wpAny_mono h₁ (fun itv s₂ h₂ => ?_) fun _ _ e => e) fun _ _ e => e)
  obtain ⟨it, n, val, P, side, l₂, rest, J, lj₀, rfl, T, ht, H, rfl, hJ, hn, hside, hlen, turn, done⟩ := h₂
  refine newListS H fun D h₃ H₃ => compEnvS H₃ fun C h₄ cs hcs H₄ => ?_
  dsimp only
  have w1 : ∀ (cs : List (Str × Addr)) (l : Led) (h : Heap), S h₀ (cs.map (fun p => (p.2, isCell none)) ++ l) h → S h₀ (someCells cs ++ l) h := by
    intro cs l h H
    refine ⟨H.keep, fun p hp => ?_, fun p hp => ?_, by have := H.nd; simpa [List.map_append, List.map_map, Function.comp_def] using this⟩
    · rcases List.mem_append.mp hp with hp | hp
      · obtain ⟨q, hq, rfl⟩ := List.mem_map.mp hp
        obtain ⟨o, e, r⟩ := H.led (q.2, isCell none) (List.mem_append_left _ (List.mem_map.mpr ⟨q, hq, rfl⟩))
        exact ⟨o, e, none, r⟩
      · exact H.led p (List.mem_append_right _ hp)
    · rcases List.mem_append.mp hp with hp | hp
      · obtain ⟨q, hq, rfl⟩ := List.mem_map.mp hp
        exact H.fresh (q.2, isCell none) (List.mem_append_left _ (List.mem_map.mpr ⟨q, hq, rfl⟩))
      · exact H.fresh p (List.mem_append_right _ hp)
  have H₅ : S h₀ ((it, P 0) :: (C, isNs fun _ => none) :: (D, isList []) :: (someCells cs ++ (lj₀ ++ rest))) h₄ := by
    refine (w1 _ _ _ H₄).perm ?_
    have e1 : (cs.map (fun p => (p.2, (fun o => ∃ v, isCell v o : OP))) ++ (C, isNs fun _ => none) :: (D, isList []) :: (it, P 0) :: (lj₀ ++ rest)).Perm ((C, isNs fun _ => none) :: (D, isList []) :: (it, P 0) :: (cs.map (fun p => (p.2, (fun o => ∃ v, isCell v o : OP))) ++ (lj₀ ++ rest))) := by
      refine (List.perm_middle (l₁ := cs.map (fun p => (p.2, (fun o => ∃ v, isCell v o : OP))))).trans (List.Perm.cons _ (List.perm_middle.trans (List.Perm.cons _ List.perm_middle)))
    refine e1.trans ?_
    exact ((List.Perm.swap _ _ _).cons _).trans (List.Perm.swap _ _ _)
  have loop : ∀ s₄ : Shared, s₄ = { s₂ with heap := h₄ } → codeAny (model pg w) A (.compLoop (.ListComp elt [⟨target, iter, ifs, 0⟩] scope pos) 0 (.ref it) (.ref D) (envC env scope C (cs ++ cl)))
      (compPost (model pg w) A E use' Q (.ref D) C) s₄ := by
    rintro s₄ rfl
    refine compLoopG (fun k s' => ∃ i ys lj mC, i ≤ n ∧ k = n + 1 - i ∧ J i ys lj ∧ S h₀ ((it, P i) :: (C, isNs mC) :: (D, isList ys) :: (someCells cs ++ (lj ++ rest))) s'.heap ∧ Sh s₂ s') ?_ (n + 1)
      ⟨0, [], lj₀, _, Nat.zero_le _, rfl, hJ, H₅, Sh.mk⟩
    rintro k s' ⟨i, ys, lj, mC, hi, rfl, hj, H', h', tk', rfl⟩
    have hsd : side h' := by
      exact hside i ys lj _ hi hj (H'.sub (List.Sublist.cons_cons _ (List.Sublist.cons _ (List.Sublist.cons _ (List.sublist_append_right _ _)))))
    have hit := H'.get (List.Mem.head _)
    by_cases hlt : i < n
    · refine T.step i _ _ _ hlt hit hsd fun v h₁ tk₁ hv hs₁ hP => ?_
      refine ht (i + 1) v _ _ _ hP (use (turn C D cs mC i v ys lj h₁ tk₁ hcs hlt hv hj (H'.same Rep.head hs₁ hP)) fun _ s₃ h₃ => use h₃ fun ok s₄ h₄ => ?_)
      cases ok with
      | false =>
        simp only [Bool.false_eq_true, if_false] at h₄ ⊢
        obtain ⟨lj', mC', a1, a2, a3⟩ := h₄
        exact ⟨n + 1 - (i + 1), by omega, i + 1, ys, lj', mC', hlt, rfl, a1, a2, a3⟩
      | true =>
        simp only [if_true] at h₄ ⊢
        refine use h₄ fun y s₅ h₅ => ?_
        obtain ⟨lj', mC', a1, a2, a3⟩ := h₅
        refine appendS a2 (.tail (.tail .head)) (Nat.le_trans (hlen _ _ _ hj) (Nat.le_trans hi hn)) fun h₆ H₆ => ?_
        exact ⟨n + 1 - (i + 1), by omega, i + 1, ys ++ [y], lj', mC', hlt, rfl, a1, H₆, a3.trans Sh.mk⟩
    · have : i = n := by omega
      subst this
      refine T.stop _ _ _ hit hsd fun h₁ tk₁ he => ?_
      have H'' := H'.lose (u := []) fun b o hb e => he b o hb e
      simp only [List.nil_append] at H''
      have HD : S h₀ ((D, isList ys) :: (lj ++ rest)) h₁ := H''.drop1.sub (List.Sublist.cons_cons _ (List.sublist_append_right _ _))
      have HC : S h₀ ((C, isNs mC) :: (D, isList ys) :: (lj ++ rest)) h₁ := H''.sub (List.Sublist.cons_cons _ (List.Sublist.cons_cons _ (List.sublist_append_right _ _)))
      have hd := done D ys lj h₁ tk₁ hj HD
      cases use' with
      | none =>
        refine ⟨mC, HC.ns (.head _), fun h₂ hs₂ => ?_⟩
        exact done D ys lj h₂ tk₁ hj (HC.lose (u := []) fun b o hb e => hs₂.extBut b o hb e)
      | some u => exact hd C mC HC
  refine codeAny_compStart_list (loop _ rfl) (T.self 0 _ _ _ (H₅.get (.head _)) (loop _ rfl))

theorem intsOf : ∀ {vs : List Value} {ns : List Int}, vs.length = ns.length → (∀ (j : Nat) v, vs[j]? = some v → ∃ t i, ns[j]? = some i ∧ v = .int i t) → IntsAre vs ns
  | [], [], _, _ => .nil
  | [], _ :: _, h, _ => by simp at h
  | _ :: _, [], h, _ => by simp at h
  | v :: vs, i :: ns, h, k => by
    obtain ⟨t, i', e1, rfl⟩ := k 0 v rfl
    cases e1
    exact .cons _ _ (intsOf (by simpa using h) fun j v hv => k (j + 1) v hv)
def progI (a c : Int) (n : Nat) : List Int := (List.range n).map fun (i : Nat) => a + i * c
theorem progI_length (a c : Int) (n : Nat) : (progI a c n).length = n := by simp [progI]
theorem progI_get {a c : Int} {n j : Nat} (h : j < n) : (progI a c n)[j]? = some (a + j * c) := by simp [progI, h]
theorem listRange {args : List Value} {r : Addr} {a b c : Int} {n : Nat} {Q : Value → Shared → Prop} (hh : A.handled = none) (H : S h₀ l s.heap) (hm : (r, isRange a b c) ∈ l) (hsm : Builtin.Range.small a b c = true) (hn : Builtin.Range.rangeSize a b c = (n : Int)) (hlen : n ≤ 2 ^ 24)
    (h : ∀ x h' tk, S h₀ ((x, isInts (progI a c n)) :: l) h' → Q (.ref x) { s with heap := h', toks := tk }) (he : args = [.ref r] := by k_dflt rfl) : wpAny (model pg w) A (call (.type "list") args) Q E s := by
  subst he
  obtain ⟨o, e, t, u, v, rfl⟩ := H.get hm
  refine call_list_range hh e hsm hn hlen fun h' tk acc' c' hk hS' hacc => h _ h' tk ?_
  have hi : IntsAre acc'.toList (progI a c n) := intsOf (by simp [hacc.1, progI_length]) fun j v hv => by
    have hv' : acc'[j]? = some v := by simpa using hv
    obtain ⟨tk, rfl⟩ := hacc.2 j v hv'
    have hj : j < n := by
      have := (Array.getElem?_eq_some_iff.mp hv').1
      rw [hacc.1] at this; exact this
    exact ⟨tk, _, progI_get hj, rfl⟩
  have H' := H.ext hk
  refine ⟨H'.keep, fun p hp => ?_, fun p hp => ?_, (H.push (p := fun _ => True) (o := default) trivial).nd⟩
  · rcases List.mem_cons.mp hp with rfl | hp
    · exact ⟨_, hS', acc'.toList, hi, c', by simp [lsO]⟩
    · exact H'.led p hp
  · rcases List.mem_cons.mp hp with rfl | hp
    · exact (H.push (p := fun _ => True) (o := default) trivial).fresh (s.heap.objs.size, fun _ => True) (.head _)
    · exact H.fresh p hp
theorem fitsLong_of {i : Int} (h : -10000000 ≤ i ∧ i ≤ 10000000) : Builtin.Range.rangeFitsLong i = true := by
  unfold Builtin.Range.rangeFitsLong
  rw [Bool.and_eq_true, decide_eq_true_eq, decide_eq_true_eq]
  have e : (2 : Int) ^ 63 = 9223372036854775808 := by decide
  rw [e]; omega
theorem small_of {a b c : Int} (h1 : -1000000 ≤ a ∧ a ≤ 1000000) (h2 : -1000000 ≤ b ∧ b ≤ 1000000) (h3 : c = 1 ∨ c = -1) : Builtin.Range.small a b c = true := by
  have hs : -10000000 ≤ Builtin.Range.rangeSize a b c ∧ Builtin.Range.rangeSize a b c ≤ 10000000 := by
    unfold Builtin.Range.rangeSize
    rcases h3 with rfl | rfl
    · rw [if_pos (by decide)]; split <;> omega
    · rw [if_neg (by decide), Int.neg_neg]; split <;> omega
  unfold Builtin.Range.small
  rw [fitsLong_of (by omega), fitsLong_of (by omega), fitsLong_of (by omega), fitsLong_of hs]
  rcases h3 with rfl | rfl
  · rw [if_pos (by decide), fitsLong_of (by omega)]; simp
  · rw [if_neg (by decide), fitsLong_of (by omega)]; simp
theorem size_up {b : Int} {n : Nat} (h : b = n) : Builtin.Range.rangeSize 0 b 1 = (n : Int) := by
  subst h; unfold Builtin.Range.rangeSize; rw [if_pos (by decide)]; split <;> omega
theorem size_down {a : Int} {n : Nat} (h : a = n) : Builtin.Range.rangeSize a 0 (-1) = (n : Int) := by
  subst h; unfold Builtin.Range.rangeSize; rw [if_neg (by decide), Int.neg_neg]; split <;> omega
end

/-- the base of all triples -/
structure Bs where
  w : World
  mg : Str → Option Value
  mb : Str → Option Value
  s₀ : Shared
  B : Bg w mg mb s₀.heap

structure In (b : Bs) (l : Led) (s : Shared) : Prop where
  st : S b.s₀.heap l s.heap
  sh : Sh b.s₀ s
theorem In.up {b l l' s h tk} (I : In b l s) (H : S b.s₀.heap l' h) : In b l' { s with heap := h, toks := tk } := ⟨H, I.sh.trans Sh.mk⟩
theorem In.to {b l l' s s'} (I : In b l s) (H : S b.s₀.heap l' s'.heap) (h : Sh s s') : In b l' s' := ⟨H, I.sh.trans h⟩
theorem In.pick {b l t s} (I : In b l s) (x : Pick t l) : In b t s := ⟨I.st.pick x, I.sh⟩

/-- a triple over ledgers; nothing is raised -/
def T {α : Type} (b : Bs) (A : Around) (t : Sem α) (Q : α → Led → Prop) (l : Led) : Prop :=
  ∀ s, In b l s → wpAny (model pg b.w) A t (fun a s' => ∃ l', In b l' s' ∧ Q a l') NoE s
def TC (b : Bs) (A : Around) (c : Code) (R : Flow → Led → Prop) (l : Led) : Prop :=
  ∀ s, In b l s → codeAny (model pg b.w) A c (fun r s' => ∃ f l', r = .ok f ∧ In b l' s' ∧ R f l') s

theorem Pick.trans {a b c : Led} (x : Pick a b) (y : Pick b c) : ∀ {h₀ h}, S h₀ c h → S h₀ a h := fun H => (H.pick y).pick x

namespace T
section
variable {α β : Type} {b : Bs} {A : Around} {Q : α → Led → Prop} {l t : Led} {m : Sem α}
theorem to {Q' : α → Shared → Prop} {E : Value → Shared → Prop} {s : Shared} (h : T b A m Q l) (I : In b l s) (k : ∀ a s' l', In b l' s' → Q a l' → Q' a s') : wpAny (model pg b.w) A m Q' E s :=
  use (h s I) fun a s' ⟨l', I', h'⟩ => k a s' l' I' h'
theorem mono {Q' : α → Led → Prop} (h : T b A m Q l) (k : ∀ a l', Q a l' → Q' a l') : T b A m Q' l := fun s I => h.to I fun a s' l' I' h' => ⟨l', I', k a l' h'⟩
theorem pick (h : T b A m Q t) (x : Pick t l) : T b A m Q l := fun s I => h s (I.pick x)
/-- of one step of the library's rules -/
theorem pur {a : α} (h : Q a l) : T b A (pure a) Q l := fun s I => wpAny_pure ⟨l, I, h⟩
theorem bnd {f : α → Sem β} {Q : β → Led → Prop} (h : T b A m (fun a l' => T b A (f a) Q l') l) : T b A (m >>= f) Q l := fun s I => wpAny_bind (h.to I fun a s' l' I' h' => h' s' I')
theorem hold {vs : List Value} (h : T b A m Q l) : T b A (holding vs m) Q l := fun s I => wpAny_holding (h s I)
theorem att {Q : Except Value α → Led → Prop} (h : T b A m (fun a l' => Q (.ok a) l') l) : T b A m.attempt Q l := fun s I => wpAny_attempt (h.to I fun a s' l' I' h' => ⟨l', I', h'⟩)
theorem tryC {k : Value → Sem α} (h : T b A m Q l) : T b A (tryCatch m k) Q l := fun s I => wpAny_tryCatch (h.to I fun a s' l' I' h' => ⟨l', I', h'⟩)
theorem onR {k : Value → Sem Unit} (h : T b A m Q l) : T b A (m.onRaise k) Q l := fun s I => wpAny_onRaise (h.to I fun a s' l' I' h' => ⟨l', I', h'⟩)
theorem stand {p : Pos} {Q : Unit → Led → Prop} (h : Q () l) : T b A (standAt p) Q l := fun s I => wpAny_standAt ⟨l, I, h⟩
end
section
variable {b : Bs} {A : Around} {l l' t : Led} {env : Env} {pos pos' : Pos}

/-! statements -/
theorem exC {st : Stmt} {rest : List Stmt} {Q : Flow → Led → Prop} (h : T b A (exec st env) (fun f l' => match f with | .next => T b A (execs rest env) Q l' | f => Q f l') l) : T b A (execs (st :: rest) env) Q l := fun s I =>
  wpAny_execs_cons (h.to I fun f s' l' I' h' => by cases f <;> first | exact h' s' I' | exact ⟨l', I', h'⟩)
theorem exN {Q : Flow → Led → Prop} (h : Q .next l) : T b A (execs [] env) Q l := fun s I => wpAny_execs_nil ⟨l, I, h⟩
theorem iF {test : Expr} {body orelse : List Stmt} {Q : Flow → Led → Prop} (h : T b A (isTrue test env (eval test env)) (fun c l' => if c = true then T b A (execs body env) Q l' else T b A (execs orelse env) Q l') l) :
    T b A (exec (.If test body orelse pos) env) Q l := fun s I => wpAny_If (h.to I fun c s' l' I' h' => by cases c <;> exact h' s' I')
theorem ret {e : Expr} {Q : Flow → Led → Prop} (h : T b A (eval e env) (fun v => Q (.ret v)) l) : T b A (exec (.Return (some e) pos) env) Q l := fun s I => wpAny_Return_some (h s I)
theorem asgN {x : Str} {value : Expr} {Q : Flow → Led → Prop} (h : T b A (eval value env) (fun v l' => T b A (storeName env x v) (fun _ => Q .next) l') l)
    (hs : swapsWith value (some (.Name x pos')) pos.line env = pure false := by k_dflt rfl) : T b A (exec (.Assign [.Name x pos'] value pos) env) Q l := fun s I =>
  wpAny_Assign_Name (h.to I fun v s' l' I' h' => h' s' I') hs
theorem expr {e : Expr} {Q : Flow → Led → Prop} (h : T b A (eval e env) (fun v l' => (match v with | .ref _ => False | _ => True) ∧ Q .next l') l) (hi : interactive env = false := by k_dflt rfl)
    (hs : swapsWith e none pos.line env = pure false := by k_dflt rfl) : T b A (exec (.Expr e pos) env) Q l := fun s I =>
  wpAny_Expr (h.to I fun v s' l' I' h' => by cases v <;> first | exact h'.1.elim | exact ⟨l', I', h'.2⟩) hi hs
theorem augN {x : Str} {op : Operator} {value : Expr} {Q : Flow → Led → Prop} (h : T b A (loadName env x) (fun old l₁ => T b A (eval value env) (fun v l₂ => T b A (inplaceOp op old v) (fun r l₃ => T b A (storeName env x r) (fun _ => Q .next) l₃) l₂) l₁) l) :
    T b A (exec (.AugAssign (.Name x pos') op value pos) env) Q l := fun s I =>
  wpAny_AugAssign_Name (h.to I fun _ s₁ _ I₁ h₁ => h₁.to I₁ fun _ s₂ _ I₂ h₂ => h₂.to I₂ fun _ s₃ _ I₃ h₃ => h₃ s₃ I₃)
theorem augA {o value : Expr} {attr : Str} {op : Operator} {Q : Flow → Led → Prop} (h : T b A (eval o env) (fun ov l₁ => T b A (getAttr ov attr true) (fun old l₂ => T b A (eval value env) (fun v l₃ => T b A (inplaceOp op old v) (fun r l₄ => T b A (setAttr ov attr r) (fun _ => Q .next) l₄) l₃) l₂) l₁) l) :
    T b A (exec (.AugAssign (.Attribute o attr pos') op value pos) env) Q l := fun s I =>
  wpAny_AugAssign_AttributeAny (h.to I fun _ s₁ _ I₁ h₁ => h₁.to I₁ fun _ s₂ _ I₂ h₂ => h₂.to I₂ fun _ s₃ _ I₃ h₃ => h₃.to I₃ fun _ s₄ _ I₄ h₄ => h₄ s₄ I₄)
theorem aN {x : Str} {v : Value} {Q : Unit → Led → Prop} (h : T b A (storeName env x v) Q l) : T b A (assign (.Name x pos) env v) Q l := fun s I => wpAny_assign_Name (h s I)

/-! expressions -/
theorem mcall {o : Expr} {name : Str} {apos : Pos} {args : List Expr} {pl : Sem Bool} {Q : Value → Led → Prop}
    (h : T b A (eval o env) (fun ov l₁ => T b A (getMethod ov name pl) (fun fx l₂ => T b A (callWith pos fx.1 fx.2 (backTo pos (starEach args env)) []) Q l₂) l₁) l)
    (he : eval (.Call (.Attribute o name apos) args [] pos) env = (do
      let ov ← eval o env
      standAt apos.atName
      let (f, first) ← holding [ov] (getMethod ov name pl)
      callWith pos f first (backTo pos (starEach args env)) []) := by k_dflt rfl) : T b A (eval (.Call (.Attribute o name apos) args [] pos) env) Q l := fun s I =>
  MethodCall_ (h.to I fun _ s₁ _ I₁ h₁ => h₁.to I₁ fun _ s₂ _ I₂ h₂ => h₂ s₂ I₂) he
theorem fcall {func : Expr} {args : List Expr} {Q : Value → Led → Prop} (h : T b A (eval func env) (fun f l₁ => T b A (callWith pos f [] (backTo pos (starEach args env)) []) Q l₁) l)
    (he : eval (.Call func args [] pos) env = (do callWith pos (← eval func env) [] (backTo pos (starEach args env)) (backToKw pos (keywordEach [] env))) := by k_dflt rfl) :
    T b A (eval (.Call func args [] pos) env) Q l := fun s I => Call_ (h.to I fun _ s₁ _ I₁ h₁ => h₁ s₁ I₁) he
theorem cmp1 {x y : Expr} {op : CmpOp} {Q : Value → Led → Prop} (h : T b A (eval x env) (fun u l₁ => T b A (eval y env) (fun v l₂ => T b A (compareOp op u v) Q l₂) l₁) l) (hb : behindInMarks op y = false := by k_dflt rfl) :
    T b A (eval (.Compare x [op] [y] pos) env) Q l := fun s I => wpAny_Compare1 (h.to I fun _ s₁ _ I₁ h₁ => h₁.to I₁ fun _ s₂ _ I₂ h₂ => h₂ s₂ I₂) hb
theorem cwB1 {id : String} {e : Expr} {rest : List Expr} {first : List Value} {Q : Value → Led → Prop} (h : T b A (spliced (backTo pos (starEach (e :: rest) env))) (fun vs l₁ => T b A (call (.builtin id) (first ++ vs)) Q l₁) l)
    (he : starEach (e :: rest) env = (false, eval e env) :: starEach rest env := by k_dflt rfl) (hp : ((backTo pos (starEach rest env)).any fun x => x.fst) = false := by k_dflt rfl) :
    T b A (callWith pos (.builtin id) first (backTo pos (starEach (e :: rest) env)) []) Q l := fun s I => callWith_method1 (h.to I fun _ s₁ _ I₁ h₁ => h₁ s₁ I₁) he hp
theorem cwB0 {id : String} {first : List Value} {Q : Value → Led → Prop} (h : T b A (call (.builtin id) first) Q l) : T b A (callWith pos (.builtin id) first (backTo pos (starEach [] env)) []) Q l := fun s I => callWith_method0 (h s I)
theorem cwT1 {t : String} {e : Expr} {rest : List Expr} {Q : Value → Led → Prop} (h : T b A (spliced (backTo pos (starEach (e :: rest) env))) (fun vs l₁ => T b A (call (.type t) vs) Q l₁) l)
    (he : starEach (e :: rest) env = (false, eval e env) :: starEach rest env := by k_dflt rfl) (hp : ((backTo pos (starEach rest env)).any fun x => x.fst) = false := by k_dflt rfl) :
    T b A (callWith pos (.type t) [] (backTo pos (starEach (e :: rest) env)) []) Q l := fun s I => PyProof.Rows.callWith_type1 (h.to I fun _ s₁ _ I₁ h₁ => h₁ s₁ I₁) he hp
theorem cwT0 {t : String} {Q : Value → Led → Prop} (h : T b A (call (.type t) []) Q l) : T b A (callWith pos (.type t) [] (backTo pos (starEach [] env)) []) Q l := fun s I => callWith_type0 (h s I)
theorem cwK1 {f : Value} {first : List Value} {e : Expr} {rest : List Expr} {Q : Value → Led → Prop} (hk : keepIn (hd.heap_1 b.w.params) f = true) (h : T b A (spliced (backTo pos (starEach (e :: rest) env))) (fun vs l₁ => T b A (call f (first ++ vs)) Q l₁) l)
    (he : starEach (e :: rest) env = (false, eval e env) :: starEach rest env := by k_dflt rfl) (hp : ((backTo pos (starEach rest env)).any fun x => x.fst) = false := by k_dflt rfl) :
    T b A (callWith pos f first (backTo pos (starEach (e :: rest) env)) []) Q l := fun s I => callWithK b.B hk (h.to I fun _ s₁ _ I₁ h₁ => ⟨⟨_, I₁.st⟩, h₁ s₁ I₁⟩) he hp
theorem cwK0 {f : Value} {first : List Value} {Q : Value → Led → Prop} (hk : keepIn (hd.heap_1 b.w.params) f = true) (h : T b A (call f (first ++ [])) Q l) : T b A (callWith pos f first (backTo pos (starEach [] env)) []) Q l := fun s I => callWithK0 b.B I.st hk (h s I)
theorem spM {e : Expr} {rest : List Expr} {Q : List Value → Led → Prop} (h : T b A (eval e env) (fun v l₁ => T b A (spliced (backTo pos (starEach rest env))) (fun vs l₂ => Q (v :: vs) l₂) l₁) l)
    (he : starEach (e :: rest) env = (false, eval e env) :: starEach rest env := by k_dflt rfl) : T b A (spliced (backTo pos (starEach (e :: rest) env))) Q l := fun s I =>
  spliced_more (h.to I fun _ s₁ _ I₁ h₁ => h₁.to I₁ fun _ s₂ l₂ I₂ h₂ => ⟨l₂, I₂, h₂⟩) he
theorem spN {Q : List Value → Led → Prop} (h : Q [] l) : T b A (spliced (backTo pos (starEach [] env))) Q l := fun s I => spliced_none ⟨l, I, h⟩
theorem bin {x y : Expr} {op : Operator} {Q : Value → Led → Prop} (h : T b A (eval x env) (fun u l₁ => T b A (eval y env) (fun v l₂ => T b A (binaryOp op u v) Q l₂) l₁) l) : T b A (eval (.BinOp x op y pos) env) Q l := fun s I =>
  wpAny_BinOp (h.to I fun _ s₁ _ I₁ h₁ => h₁.to I₁ fun _ s₂ _ I₂ h₂ => h₂ s₂ I₂)
theorem sub {x y : Expr} {Q : Value → Led → Prop} (h : T b A (eval x env) (fun u l₁ => T b A (eval y env) (fun v l₂ => T b A (subscriptTail x y u v) Q l₂) l₁) l) : T b A (eval (.Subscript x y pos) env) Q l := fun s I =>
  Subscript_ (h.to I fun _ s₁ _ I₁ h₁ => h₁.to I₁ fun _ s₂ _ I₂ h₂ => h₂ s₂ I₂)
theorem cI {i : Int} {k : Nat} {Q : Value → Led → Prop} (h : ∀ t, Q (.int i t) l) : T b A (eval (.Constant (.int i) k pos) env) Q l := fun s I => wpAny_Constant_int ⟨l, I.up I.st, h _⟩
theorem lst {elts : List Expr} {Q : Value → Led → Prop} (h : T b A (spliced (backTo pos (starEach elts env))) (fun vs l₁ => T b A (newList vs) Q l₁) l) : T b A (eval (.List elts pos) env) Q l := fun s I => List_ (h.to I fun _ s₁ _ I₁ h₁ => h₁ s₁ I₁)
theorem tup {elts : List Expr} {k : Nat} {Q : Value → Led → Prop} (h : T b A (spliced (backTo pos (starEach elts env))) (fun vs l₁ => T b A (newTuple vs) Q l₁) l) : T b A (eval (.Tuple elts k pos) env) Q l := fun s I => Tuple_ (h.to I fun _ s₁ _ I₁ h₁ => h₁ s₁ I₁)
theorem itC {x y : Expr} {op : CmpOp} {whole : Sem Value} {Q : Bool → Led → Prop} (h : T b A (eval x env) (fun u l₁ => T b A (eval y env) (fun v l₂ => T b A (compareOp op u v) (fun c l₃ => T b A (truthy c) Q l₃) l₂) l₁) l) (hb : behindInMarks op y = false := by k_dflt rfl) :
    T b A (isTrue (.Compare x [op] [y] pos) env whole) Q l := fun s I => wpAny_isTrue_Compare1 (h.to I fun _ s₁ _ I₁ h₁ => h₁.to I₁ fun _ s₂ _ I₂ h₂ => h₂.to I₂ fun _ s₃ _ I₃ h₃ => h₃ s₃ I₃) hb
theorem itNot {x : Expr} {whole : Sem Value} {Q : Bool → Led → Prop} (h : T b A (isTrue x env (eval x env)) (fun c l₁ => Q (!c) l₁) l) : T b A (isTrue (.UnaryOp .Not x pos) env whole) Q l := fun s I => isTrue_not (h.to I fun _ s₁ l₁ I₁ h₁ => ⟨l₁, I₁, h₁⟩)
theorem itAnd {x : Expr} {rest : List Expr} {whole : Sem Value} {Q : Bool → Led → Prop} (h : T b A (isTrue x env (eval x env)) (fun c l₁ => if c = true then T b A (isTrue (.BoolOp .And rest pos) env whole) Q l₁ else Q false l₁) l) :
    T b A (isTrue (.BoolOp .And (x :: rest) pos) env whole) Q l := fun s I => isTrue_and (h.to I fun c s₁ l₁ I₁ h₁ => by cases c; exact ⟨l₁, I₁, h₁⟩; exact h₁ s₁ I₁)
theorem itOr {x : Expr} {rest : List Expr} {whole : Sem Value} {Q : Bool → Led → Prop} (h : T b A (isTrue x env (eval x env)) (fun c l₁ => if c = true then Q true l₁ else T b A (isTrue (.BoolOp .Or rest pos) env whole) Q l₁) l) :
    T b A (isTrue (.BoolOp .Or (x :: rest) pos) env whole) Q l := fun s I => isTrue_or (h.to I fun c s₁ l₁ I₁ h₁ => by cases c; exact h₁ s₁ I₁; exact ⟨l₁, I₁, h₁⟩)
theorem itAndN {whole : Sem Value} {Q : Bool → Led → Prop} (h : Q true l) : T b A (isTrue (.BoolOp .And [] pos) env whole) Q l := fun s I => isTrue_and_nil ⟨l, I, h⟩
theorem itOrN {whole : Sem Value} {Q : Bool → Led → Prop} (h : Q false l) : T b A (isTrue (.BoolOp .Or [] pos) env whole) Q l := fun s I => isTrue_or_nil ⟨l, I, h⟩
theorem itP {e : Expr} {whole : Sem Value} {Q : Bool → Led → Prop} (h : T b A whole (fun v l₁ => T b A (truthy v) Q l₁) l) (he : isTrue e env whole = (do let v ← whole; standAt e.pos; holding [v] (truthy v)) := by k_dflt rfl) :
    T b A (isTrue e env whole) Q l := fun s I => isTrue_plain (h.to I fun _ s₁ _ I₁ h₁ => h₁ s₁ I₁) he
theorem bo1 {op : BoolOp} {e : Expr} {Q : Value → Led → Prop} (h : T b A (eval e env) Q l) : T b A (eval (.BoolOp op [e] pos) env) Q l := fun s I => BoolOp_one (h s I)
theorem boA {e₁ e₂ : Expr} {rest : List Expr} {Q : Value → Led → Prop} (h : T b A (eval e₁ env) (fun v l₁ => T b A (truthy v) (fun c l₂ => if c = true then T b A (eval (.BoolOp .And (e₂ :: rest) pos) env) Q l₂ else Q v l₂) l₁) l) :
    T b A (eval (.BoolOp .And (e₁ :: e₂ :: rest) pos) env) Q l := fun s I => BoolOp_and (h.to I fun _ s₁ _ I₁ h₁ => h₁.to I₁ fun c s₂ l₂ I₂ h₂ => by cases c; exact ⟨l₂, I₂, h₂⟩; exact h₂ s₂ I₂)
theorem boO {e₁ e₂ : Expr} {rest : List Expr} {Q : Value → Led → Prop} (h : T b A (eval e₁ env) (fun v l₁ => T b A (truthy v) (fun c l₂ => if c = true then Q v l₂ else T b A (eval (.BoolOp .Or (e₂ :: rest) pos) env) Q l₂) l₁) l) :
    T b A (eval (.BoolOp .Or (e₁ :: e₂ :: rest) pos) env) Q l := fun s I => BoolOp_or (h.to I fun _ s₁ _ I₁ h₁ => h₁.to I₁ fun c s₂ l₂ I₂ h₂ => by cases c; exact h₂ s₂ I₂; exact ⟨l₂, I₂, h₂⟩)
theorem un {op : UnaryOp} {x : Expr} {Q : Value → Led → Prop} (h : T b A (eval x env) (fun v l₁ => T b A (unaryOp op v) Q l₁) l) : T b A (eval (.UnaryOp op x pos) env) Q l := fun s I => UnaryOp_ (h.to I fun _ s₁ _ I₁ h₁ => h₁ s₁ I₁)
theorem ifE {test x y : Expr} {Q : Value → Led → Prop} (h : T b A (isTrue test env (eval test env)) (fun c l₁ => if c = true then T b A (eval x env) Q l₁ else T b A (eval y env) Q l₁) l) : T b A (eval (.IfExp test x y pos) env) Q l := fun s I =>
  IfExp_ (h.to I fun c s₁ l₁ I₁ h₁ => by cases c <;> exact h₁ s₁ I₁)
theorem attr {value : Expr} {a : Str} {Q : Value → Led → Prop} (h : T b A (eval value env) (fun o l₁ => T b A (getAttr o a true) Q l₁) l)
    (he : eval (.Attribute value a pos) env = (do
      let o ← eval value env
      standAt pos.atName
      let r ← holding [o] (getAttr o a true)
      letTemporaryGo value o r
      pure r) := by k_dflt rfl) : T b A (eval (.Attribute value a pos) env) Q l := fun s I => Attribute_any_ (h.to I fun _ s₁ _ I₁ h₁ => h₁ s₁ I₁) he
theorem attrN {x : Str} {xp : Pos} {a : Str} {Q : Value → Led → Prop} (h : T b A (eval (.Name x xp) env) (fun o l₁ => T b A (getAttr o a true) Q l₁) l) : T b A (eval (.Attribute (.Name x xp) a pos) env) Q l := fun s I => Attribute_Name_ (h.to I fun _ s₁ _ I₁ h₁ => h₁ s₁ I₁)
theorem nmd {target value : Expr} {Q : Value → Led → Prop} (h : T b A (eval value env) (fun v l₁ => T b A (assign target env v) (fun _ l₂ => Q v l₂) l₁) l) : T b A (eval (.NamedExpr target value pos) env) Q l := fun s I =>
  wpAny_NamedExpr (h.to I fun _ s₁ _ I₁ h₁ => h₁.to I₁ fun _ s₂ l₂ I₂ h₂ => ⟨l₂, I₂, h₂⟩)
theorem trB {c : Bool} {Q : Bool → Led → Prop} (h : Q c l) : T b A (truthy (.bool c)) Q l := fun s I => wpAny_truthy_bool ⟨l, I, h⟩
end
end T
def put (x : Str) (v : Value) (m : Str → Option Value) : Str → Option Value := fun y => if y = x then some v else m y
def ofB (binds : List (Str × Value)) : Str → Option Value := fun y => binds.reverse.lookup y

def glb : List (Str × Value) := [("median_low", .ref 41), ("cmp_to_key", .ref 48), ("reduce", .ref 57), ("_initial_missing", .ref 49), ("_NODE_OUT", .int (-1) 249), ("_NODE_DONE", .int (-2) 252), ("_NodeInfo", .ref 76), ("TopologicalSorter", .ref 173), ("_law_ballot", .ref 184), ("_law_tree", .ref 191), ("_law_run", .ref 198)]
def bti : List (Str × Value) := [("range", .type "range"), ("list", .type "list"), ("len", .builtin "len"), ("sum", .builtin "sum"), ("sorted", .builtin "sorted"), ("tuple", .type "tuple"), ("iter", .builtin "iter"), ("next", .builtin "next"), ("set", .type "set"), ("bool", .type "bool"), ("object", .type "object"), ("StopIteration", .type "StopIteration")]
theorem glb_all (P : Params) : ∀ p ∈ glb, nsIn (hd.heap_1 P) mainGlobals p.1 = some (some p.2) := by
  unfold glb
  repeat (first | refine List.forall_mem_cons.mpr ⟨by kernel_rfl, ?_⟩ | exact (fun _ h => nomatch h))
theorem bti_all (P : Params) : ∀ p ∈ bti, nsIn (hd.heap_1 P) mainGlobals p.1 = some none ∧ bootBuiltins p.1 = some p.2 ∧ p.1 ≠ "__name__" := by
  unfold bti
  repeat (first | refine List.forall_mem_cons.mpr ⟨⟨by kernel_rfl, by first | boot_fast | kernel_rfl, by decide⟩, ?_⟩ | exact (fun _ h => nomatch h))
theorem mem_of_lookup {x : Str} {v : Value} : ∀ {xs : List (Str × Value)}, xs.lookup x = some v → (x, v) ∈ xs
  | (y, u) :: r, h => by
    rw [List.lookup_cons] at h
    split at h
    · rename_i e; cases h; rw [beq_iff_eq] at e; subst e; exact .head _
    · exact .tail _ (mem_of_lookup h)

namespace T
section
variable {b : Bs} {A : Around} {l l' t : Led} {env : Env} {pos pos' : Pos} {m : Str → Option Value} {x : Str} {v : Value} {a c : Addr}

theorem nmL {Q : Value → Led → Prop} (hx : env.kindOf x = some .local) (hm : (env.locals, isNs m) ∈ l) (hv : m x = some v) (h : Q v l) (hk : env.scope.kind = .function := by k_dflt rfl) (hd : (x == ("__debug__" : Str)) = false := by decide) :
    T b A (eval (.Name x pos) env) Q l := fun s I => Mine.nmL I.st hm hv ⟨l, I, h⟩ hk hx hd
theorem ldL {Q : Value → Led → Prop} (hx : env.kindOf x = some .local) (hm : (env.locals, isNs m) ∈ l) (hv : m x = some v) (h : Q v l) (hk : env.scope.kind = .function := by k_dflt rfl) : T b A (loadName env x) Q l := fun s I => Mine.ldL I.st hm hv ⟨l, I, h⟩ hk hx
theorem nmC {Q : Value → Led → Prop} (hx : env.kindOf x = some .cell) (hc : env.cells.lookup x = some c) (hm : (c, isCell (some v)) ∈ l) (h : Q v l) (hk : env.scope.kind = .function := by k_dflt rfl) (hd : (x == ("__debug__" : Str)) = false := by decide) :
    T b A (eval (.Name x pos) env) Q l := fun s I => Mine.nmC I.st hc hm ⟨l, I, h⟩ hk hx hd
theorem nmF {Q : Value → Led → Prop} (hx : env.kindOf x = some .free) (hc : env.cells.lookup x = some c) (hm : (c, isCell (some v)) ∈ l) (h : Q v l) (hk : env.scope.kind = .function := by k_dflt rfl) (hd : (x == ("__debug__" : Str)) = false := by decide) (hn : (x == ("__classdict__" : Str)) = false := by decide) :
    T b A (eval (.Name x pos) env) Q l := fun s I => Mine.nmF I.st hc hm ⟨l, I, h⟩ hk hx hd hn
theorem nmG {Q : Value → Led → Prop} (hx : env.kindOf x = some .globalImplicit) (e : glb.lookup x = some v) (h : Q v l) (hg : env.globals = mainGlobals := by k_dflt rfl) (hk : env.scope.kind = .function := by k_dflt rfl) (hd : (x == ("__debug__" : Str)) = false := by decide) :
    T b A (eval (.Name x pos) env) Q l := fun s I => Mine.nmG b.B I.st (glb_all _ _ (mem_of_lookup e)) ⟨l, I, h⟩ hg hk hx hd
theorem nmB {Q : Value → Led → Prop} (hx : env.kindOf x = some .globalImplicit) (e : bti.lookup x = some v) (h : Q v l) (hg : env.globals = mainGlobals := by k_dflt rfl) (hbi : env.builtins = builtinsNs := by k_dflt rfl) (hk : env.scope.kind = .function := by k_dflt rfl) (hd : (x == ("__debug__" : Str)) = false := by decide) :
    T b A (eval (.Name x pos) env) Q l := fun s I => let ⟨h1, h2, h3⟩ := bti_all b.w.params _ (mem_of_lookup e); Mine.nmB b.B I.st h1 h2 h3 ⟨l, I, h⟩ hg hbi hk hx hd
theorem stL {Q : Unit → Led → Prop} (hx : env.kindOf x = some .local) (R : Rep env.locals (isNs m) (isNs (put x v m)) l l') (h : Q () l') (hp : (env.scope.kind == .class || (env.scope.kind == .module && env.locals != env.globals)) = false := by k_dflt rfl) :
    T b A (storeName env x v) Q l := fun s I => Mine.stL I.st R (fun h' H => ⟨l', I.up H, h⟩) hx hp
theorem stLX {q : Str} {sc : Scope} {L f : Addr} {cd : Value} {cl : List (Str × Addr)} {Q : Unit → Led → Prop} (hx : sc.names.lookup x = some .local) (R : Rep L (isNs m) (isNs (put x v m)) l l') (h : Q () l') (hp : sc.kind = .function := by k_dflt rfl) :
    T b A (storeName (envX q sc L f cd cl) x v) Q l := stL (env := envX q sc L f cd cl) hx R h (by show (sc.kind == .class || (sc.kind == .module && _)) = false; rw [hp]; rfl)
theorem stC {v₀ : Option Value} {Q : Unit → Led → Prop} (hx : env.kindOf x = some .cell) (hc : env.cells.lookup x = some c) (R : Rep c (isCell v₀) (isCell (some v)) l l') (h : Q () l') (hk : env.scope.kind = .function := by k_dflt rfl) :
    T b A (storeName env x v) Q l := fun s I => Mine.stC I.st hc R (fun h' H => ⟨l', I.up H, h⟩) hk hx

/-! calls -/
/-- at a return: what is kept -/
def Out (Q : Led → Prop) (l : Led) : Prop := ∃ t, Pick t l ∧ Q t
theorem enter {n : Nat} {name qual : Str} {params : Arguments} {body : List Stmt} {scope : Scope} {dV kV doc pm cdv ct oc : Value} {an od : Option Addr} {osl : Array (Option Value)} {f : Addr} {args : List Value} {binds : List (Str × Value)} {Q : Value → Led → Prop}
    (hA : Ok A (n + 1)) (ho : (hd.heap_1 b.w.params).lookup f = some ⟨oc, od, .func (fnOf name qual params body scope dV kV doc pm an cdv ct), osl⟩) (hcd : codeIn (hd.heap_1 b.w.params) cdv qual = true)
    (hbind : ∀ s, In b l s → BindsTo s (fnOf name qual params body scope dV kV doc pm an cdv ct) ⟨args, []⟩ binds) (hloc : (binds.all fun x => decide (scope.names.lookup x.1 = some .local)) = true)
    (h : ∀ L (K : Flow → Led → Prop), (∀ fl l', Out (Q (match fl with | .ret v => v | _ => .none)) l' → K fl l') → T b (A.deeper (envX qual scope L f cdv [])) (execs body (envX qual scope L f cdv [])) K ((L, isNs (ofB binds)) :: l))
    (hcell : ∀ x ∈ scope.names, x.2 ≠ .cell := by decide) (hco : scope.isCoroutine = false := by k_dflt rfl) (hgen : scope.isGenerator = false := by k_dflt rfl) (hk : scope.kind = .function := by k_dflt rfl) :
    T b A (call (.ref f) args) Q l := fun s I =>
  Mine.enter b.B I.st hA.room ho hcd (hbind s I) hloc (fun L h₁ tk H => (h L _ fun _ _ x => x).to (I.up H) fun fl s' l' I' ⟨t, x, h'⟩ => ⟨t, I'.pick x, h'⟩) hcell hco hgen hk

/-! loops -/
theorem forS {target iter : Expr} {body orelse : List Stmt} {Q : Flow → Led → Prop} (h : T b A (eval iter env) (fun x l₁ => T b A (pyIter x) (fun it l₂ => TC b A (.forLoop target it body orelse env) Q l₂) l₁) l) (hs : ∀ x, foldedSetIterable iter env x = pure x := by k_dflt (intro _; rfl)) :
    T b A (exec (.For target iter body orelse pos) env) Q l := fun s I => wpAny_For (h.to I fun _ s₁ _ I₁ h₁ => h₁.to I₁ fun _ s₂ _ I₂ h₂ => codeAny_mono (h₂ s₂ I₂) fun r s' ⟨f, l', e, I', h'⟩ => by subst e; exact ⟨l', I', h'⟩) hs
theorem whileS {test : Expr} {body orelse : List Stmt} {Q : Flow → Led → Prop} (h : TC b A (.whileLoop test body orelse env) Q l) : T b A (exec (.While test body orelse pos) env) Q l := fun s I =>
  wpAny_While (codeAny_mono (h s I) fun r s' ⟨f, l', e, I', h'⟩ => by subst e; exact ⟨l', I', h'⟩)
theorem forLoop {it : Addr} {n : Nat} {val : Nat → Value → Prop} {P : Nat → OP} {side : Heap → Prop} {target : Expr} {body : List Stmt} {R : Flow → Led → Prop} {rest : Led} (X : It b.w A it n val P side) (J : Nat → Led → Prop) {lj₀ : Led}
    (hl : Pick ((it, P 0) :: (lj₀ ++ rest)) l) (hJ : J 0 lj₀) (hside : ∀ i lj h, i ≤ n → J i lj → S b.s₀.heap ((it, P i) :: (lj ++ rest)) h → side h)
    (turn : ∀ i v lj (K : Flow → Led → Prop), (∀ fl l₃, (match fl with
        | .next | .cont => ∃ lj', Pick ((it, P (i + 1)) :: (lj' ++ rest)) l₃ ∧ J (i + 1) lj'
        | .brk => R .next l₃
        | .ret v => R (.ret v) l₃) → K fl l₃) → i < n → val i v → J i lj → T b A (assign target env v) (fun _ l₂ => T b A (execs body env) K l₂) ((it, P (i + 1)) :: (lj ++ rest)))
    (done : ∀ lj, J n lj → R .next (lj ++ rest)) (ht : ∀ i v (s : Shared) (Q : Unit → Shared → Prop) (E : Value → Shared → Prop), (∃ o, s.heap.get? it = some o ∧ P i o) → Q () s → wpAny (model pg b.w) A (letOwnedTupleGo target (.ref it) v) Q E s := by intro _ _ _ _ _ _ h; exact wpAny_pure h) : TC b A (.forLoop target (.ref it) body [] env) R l := fun s I =>
  Mine.forLoop (rest := rest) X J (I.st.pick hl) hJ hside
    (fun i v lj h tk hi hv hj H => (turn i v lj _ (fun _ _ x => x) hi hv hj).to (I.up H) fun _ s₂ l₂ I₂ h₂ => h₂.to I₂ fun fl s₃ l₃ I₃ h₃ => by
      have hsh : Sh s s₃ := by
        obtain ⟨h1, t1, e1⟩ := I.sh; obtain ⟨h3, t3, e3⟩ := I₃.sh; exact ⟨h3, t3, by rw [e3, e1]⟩
      cases fl with
      | next => obtain ⟨lj', p, hj'⟩ := h₃; exact ⟨lj', hj', I₃.st.pick p, hsh⟩
      | cont => obtain ⟨lj', p, hj'⟩ := h₃; exact ⟨lj', hj', I₃.st.pick p, hsh⟩
      | brk => exact ⟨_, l₃, rfl, I₃, h₃⟩
      | ret v => exact ⟨_, l₃, rfl, I₃, h₃⟩)
    (fun lj h tk hj H => ⟨_, _, rfl, I.up H, done lj hj⟩) ht
theorem whileLoop {test : Expr} {body orelse : List Stmt} {R : Flow → Led → Prop} (J : Nat → Led → Prop) {n : Nat} (hl : Pick t l) (hJ : J n t)
    (turn : ∀ n l (K : Flow → Led → Prop), (∀ fl l₃, (match fl with
        | .next | .cont => ∃ m t, m < n ∧ Pick t l₃ ∧ J m t
        | .brk => R .next l₃
        | .ret v => R (.ret v) l₃) → K fl l₃) → J n l → T b A (isTrue test env (eval test env)) (fun c l₂ => if c = true then T b A (execs body env) K l₂ else T b A (execs orelse env) R l₂) l) : TC b A (.whileLoop test body orelse env) R l := fun s I => by
  refine codeAny_whileLoop (fun n s => ∃ l, In b l s ∧ J n l) ?_ n ⟨t, I.pick hl, hJ⟩
  rintro n s' ⟨l', I', hj⟩
  refine (turn n l' _ (fun _ _ x => x) hj).to I' fun c s₂ l₂ I₂ h₂ => ?_
  cases c with
  | false => exact T.to (show T b A (execs orelse env) R l₂ from h₂) I₂ fun f s₃ l₃ I₃ h₃ => ⟨f, l₃, rfl, I₃, h₃⟩
  | true =>
    refine T.to (show T b A (execs body env) _ l₂ from h₂) I₂ fun fl s₃ l₃ I₃ h₃ => ?_
    cases fl with
    | next => obtain ⟨k, t', hk, p, hj'⟩ := h₃; exact ⟨k, hk, t', I₃.pick p, hj'⟩
    | cont => obtain ⟨k, t', hk, p, hj'⟩ := h₃; exact ⟨k, hk, t', I₃.pick p, hj'⟩
    | brk => exact ⟨_, l₃, rfl, I₃, h₃⟩
    | ret v => exact ⟨_, l₃, rfl, I₃, h₃⟩
end
end T
namespace T
section
variable {b : Bs} {A : Around} {l l' t : Led} {env : Env} {pos pos' : Pos} {m : Str → Option Value} {x : Str} {v : Value} {a c : Addr} {i j : Int} {t u : Tok} {vs xs : List Value} {ns ms : List Int} {n : Nat} {Q : Value → Led → Prop}

/-! lists -/
theorem newL (h : ∀ a, Q (.ref a) ((a, isList vs) :: l)) (hsz : vs.length ≤ sizeLine := by size_fits) : T b A (newList vs) Q l := fun s I => newListS I.st (fun a h' H => ⟨_, I.up H, h a⟩) hsz
theorem newI (hi : IntsAre vs ns) (h : ∀ a, Q (.ref a) ((a, isInts ns) :: l)) (hsz : vs.length ≤ sizeLine := by size_fits) : T b A (newList vs) Q l := fun s I => newIntsS I.st hi (fun a h' H => ⟨_, I.up H, h a⟩) hsz
theorem newT (h : ∀ a, Q (.ref a) ((a, isTuple vs) :: l)) (hsz : vs.length ≤ sizeLine := by size_fits) : T b A (newTuple vs) Q l := fun s I => newTupleS I.st (fun a h' H => ⟨_, I.up H, h a⟩) hsz
theorem gmList {name : Str} {id : String} {pl : Sem Bool} {Q : Value × List Value → Led → Prop} (hm : (a, isList xs) ∈ l) (slot : Slot "list" name id) (hty : typeOf (.builtin id) = pure (.type "method_descriptor")) (h : Q (.builtin id, [.ref a]) l) :
    T b A (getMethod (.ref a) name pl) Q l := fun s I => Mine.gmList I.st hm slot hty ⟨l, I, h⟩
theorem gmInts {name : Str} {id : String} {pl : Sem Bool} {Q : Value × List Value → Led → Prop} (hm : (a, isInts ns) ∈ l) (slot : Slot "list" name id) (hty : typeOf (.builtin id) = pure (.type "method_descriptor")) (h : Q (.builtin id, [.ref a]) l) :
    T b A (getMethod (.ref a) name pl) Q l := fun s I => Mine.gmInts I.st hm slot hty ⟨l, I, h⟩
theorem appL (R : Rep a (isList xs) (isList (xs ++ [v])) l l') (hsz : xs.length ≤ sizeLine) (h : Q .none l') : T b A (call (.builtin "list.append") [.ref a, v]) Q l := fun s I => appendS I.st R hsz fun h' H => ⟨_, I.up H, h⟩
theorem appI (R : Rep a (isInts ns) (isInts (ns ++ [i])) l l') (hsz : ns.length ≤ sizeLine) (h : Q .none l') : T b A (call (.builtin "list.append") [.ref a, .int i t]) Q l := fun s I => appendI I.st R hsz fun h' H => ⟨_, I.up H, h⟩
theorem popAt (R : Rep a (isInts ns) (isInts (ns.eraseIdx i.toNat)) l l') (h0 : 0 ≤ i) (hlt : i < ns.length) (hsz : ns.length ≤ sizeLine) (h : ∀ t, Q (.int (ns.getD i.toNat 0) t) l') : T b A (call (.builtin "list.pop") [.ref a, .int i u]) Q l := fun s I =>
  popAtI I.st R h0 hlt hsz fun h' t H => ⟨_, I.up H, h t⟩
theorem pop (R : Rep a (isInts (ns ++ [i])) (isInts ns) l l') (hsz : ns.length < sizeLine) (h : ∀ t, Q (.int i t) l') : T b A (call (.builtin "list.pop") [.ref a]) Q l := fun s I => popI I.st R hsz fun h' t H => ⟨_, I.up H, h t⟩
theorem lenL (hm : (a, isList xs) ∈ l) (hsz : xs.length < 2 ^ 60) (h : ∀ t, Q (.int xs.length t) l) : T b A (call (.builtin "len") [.ref a]) Q l := fun s I =>
  call_len_list (I.st.list hm) (by simp; omega) ⟨l, I.up I.st, by simpa using h _⟩
theorem lenI (hm : (a, isInts ns) ∈ l) (hsz : ns.length < 2 ^ 60) (h : ∀ t, Q (.int ns.length t) l) : T b A (call (.builtin "len") [.ref a]) Q l := fun s I => by
  obtain ⟨vs, n, hi, e⟩ := I.st.intsAt hm
  refine call_len_list ⟨_, e, rfl, _, rfl⟩ (by simp [hi.length]; omega) ⟨l, I.up I.st, ?_⟩
  have := h (s.toks + 1)
  rw [← hi.length] at this
  simpa using this
theorem item {value slice : Expr} {k : Int} (hm : (a, isList xs) ∈ l) (h0 : 0 ≤ k) (hk : k < 2 ^ 60) (hx : xs[k.toNat]? = some v) (h : Q v l) (he : subscripted slice false (.ref a) (.int k u) = operate [.ref a, .int k u] (getItem (.ref a) (.int k u)) := by k_dflt rfl) : T b A (subscriptTail value slice (.ref a) (.int k u)) Q l := fun s I =>
  kba_turn (value' := .Name (Str.ofString "_") ⟨0, 0, 0, 0⟩) (fun _ => rfl) (item_list (I.st.list hm) h0 (by omega) (by simpa using hx) ⟨l, I, h⟩ he (fun _ => rfl))
theorem itemI {value slice : Expr} {k : Int} (hm : (a, isInts ns) ∈ l) (h0 : 0 ≤ k) (hk : k < 2 ^ 60) (hx : ns[k.toNat]? = some i) (h : ∀ t, Q (.int i t) l) (he : subscripted slice false (.ref a) (.int k u) = operate [.ref a, .int k u] (getItem (.ref a) (.int k u)) := by k_dflt rfl) : T b A (subscriptTail value slice (.ref a) (.int k u)) Q l := fun s I => by
  obtain ⟨vs, n, hi, e⟩ := I.st.intsAt hm
  obtain ⟨t, hy⟩ := hi.get k.toNat i hx
  exact kba_turn (value' := .Name (Str.ofString "_") ⟨0, 0, 0, 0⟩) (fun _ => rfl) (item_list ⟨_, e, rfl, _, rfl⟩ h0 (by omega) (by simpa using hy) ⟨l, I, h t⟩ he (fun _ => rfl))

/-! ranges -/
theorem range1 {k : Int} (h : ∀ r, Q (.ref r) ((r, isRange 0 k 1) :: l)) : T b A (call (.type "range") [.int k t]) Q l := fun s I => Mine.range1 I.st fun r h' tk H => ⟨_, I.up H, h r⟩
theorem range3 {p q r : Int} {t u w : Tok} (hc : r ≠ 0) (hs : Builtin.divisionGoesByPylong (q - p) r = false) (h : ∀ a, Q (.ref a) ((a, isRange p q r) :: l)) : T b A (call (.type "range") [.int p t, .int q u, .int r w]) Q l := fun s I =>
  Mine.range3 I.st hc hs fun r h' tk H => ⟨_, I.up H, h r⟩
theorem iterRange {p q r : Int} (hm : (a, isRange p q r) ∈ l) (hsm : Builtin.Range.small p q r = true) (hn : Builtin.Range.rangeSize p q r = (n : Int)) (h : ∀ it, Q (.ref it) ((it, isRangeIt p r n 0) :: l)) : T b A (pyIter (.ref a)) Q l := fun s I =>
  Mine.iterRange I.st hm hsm hn fun it h' H => ⟨_, I.up H, h it⟩
theorem iterList (hm : (a, isList xs) ∈ l) (h : ∀ it, Q (.ref it) ((it, isListIt a 0) :: l)) : T b A (pyIter (.ref a)) Q l := fun s I => Mine.iterList I.st (I.st.list hm) fun it h' H => ⟨_, I.up H, h it⟩
theorem listRange {p q r : Int} (hh : A.handled = none) (hm : (a, isRange p q r) ∈ l) (hsm : Builtin.Range.small p q r = true) (hn : Builtin.Range.rangeSize p q r = (n : Int)) (hlen : n ≤ 2 ^ 24) (h : ∀ x, Q (.ref x) ((x, isInts (progI p r n)) :: l)) :
    T b A (call (.type "list") [.ref a]) Q l := fun s I => Mine.listRange hh I.st hm hsm hn hlen fun x h' tk H => ⟨_, I.up H, h x⟩

/-! numbers -/
theorem add (h : ∀ t, Q (.int (i + j) t) l) : T b A (binaryOp .Add (.int i t) (.int j u)) Q l := fun s I => add_int ⟨l, I.up I.st, h _⟩
theorem minus (h : ∀ t, Q (.int (i - j) t) l) : T b A (binaryOp .Sub (.int i t) (.int j u)) Q l := fun s I => sub_int ⟨l, I.up I.st, h _⟩
theorem mul (hok : IntMulOk i j) (h : ∀ t, Q (.int (i * j) t) l) : T b A (binaryOp .Mult (.int i t) (.int j u)) Q l := fun s I => mul_int ⟨l, I.up I.st, h _⟩ hok
theorem mod (hj : j ≠ 0) (h : ∀ t, Q (.int (i.fmod j) t) l) : T b A (binaryOp .Mod (.int i t) (.int j u)) Q l := fun s I => mod_int' hj ⟨l, I.up I.st, h _⟩
theorem fdiv (hh : A.handled = none) (hj : j ≠ 0) (hs : Builtin.divisionGoesByPylong i j = false) (h : ∀ t, Q (.int (i.fdiv j) t) l) : T b A (binaryOp .FloorDiv (.int i t) (.int j u)) Q l := fun s I =>
  floordiv_int_or hh (fun e => absurd e hj) (fun _ => ⟨l, I.up I.st, h _⟩) (fun _ => .inl hs)
theorem neg (h : ∀ t, Q (.int (-i) t) l) : T b A (unaryOp .USub (.int i t)) Q l := fun s I => PySem.P.neg_int ⟨l, I.up I.st, h _⟩
theorem eqI (h : Q (.bool (i == j)) l) : T b A (compareOp .Eq (.int i t) (.int j u)) Q l := fun s I => eq_int ⟨l, I, h⟩
theorem neI (h : Q (.bool (i != j)) l) : T b A (compareOp .NotEq (.int i t) (.int j u)) Q l := fun s I => PyProof.Rows.ne_int ⟨l, I, h⟩
theorem ltI (h : Q (.bool (decide (i < j))) l) : T b A (compareOp .Lt (.int i t) (.int j u)) Q l := fun s I => lt_int ⟨l, I, h⟩
theorem gtI (h : Q (.bool (decide (j < i))) l) : T b A (compareOp .Gt (.int i t) (.int j u)) Q l := fun s I => gt_int ⟨l, I, h⟩
theorem isNone (h : Q (.bool (v == .none)) l) : T b A (compareOp .Is v .none) Q l := fun s I => PySem.is_none ⟨l, I, h⟩
theorem isNotNone (h : Q (.bool (!(v == .none))) l) : T b A (compareOp .IsNot v .none) Q l := fun s I => isnot_none_gen ⟨l, I, h⟩
theorem inI (hm : (a, isInts ns) ∈ l) (h : Q (.bool (ns.any fun x => x == i)) l) : T b A (compareOp .In (.int i t) (.ref a)) Q l := fun s I => by
  obtain ⟨vs, n, hi, e⟩ := I.st.intsAt hm
  exact in_list_ints ⟨_, e, rfl, _, rfl⟩ hi ⟨l, I, h⟩
theorem notinI (hm : (a, isInts ns) ∈ l) (h : Q (.bool (!ns.any fun x => x == i)) l) : T b A (compareOp .NotIn (.int i t) (.ref a)) Q l := fun s I => by
  obtain ⟨vs, n, hi, e⟩ := I.st.intsAt hm
  exact notin_list_ints ⟨_, e, rfl, _, rfl⟩ hi ⟨l, I, h⟩
end
end T
theorem perm_cons_erase : ∀ (lft : List Int) (k : Nat) (hlt : k < lft.length), ([lft[k]] ++ lft.eraseIdx k).Perm lft
  | x :: xs, 0, h => .refl _
  | x :: xs, k + 1, h => (List.Perm.swap _ _ _).trans ((perm_cons_erase xs k (by simpa using h)).cons x)
abbrev rangeI (n : Nat) : List Int := progI 0 1 n

def isO (o : Obj) : OP := fun x => x = o
theorem nd_update {α : Type} {M : Model} {A : Around} {Q : α → Shared → Prop} {E : Value → Shared → Prop} {s : Shared} {a : Addr} {o : Obj} {p : Option Value} {f : Obj → Obj} {k : Unit → Sem α} (ho : s.heap.get? a = some o) (h : wpAny M A (k ()) Q E { s with heap := s.heap.update a f }) : wpAny M A (.update a p f k) Q E s := by
  have : wpAny M A (Sem.bind (updatePart a p f) k) Q E s := wpAny_bind (wpAny_updatePart ho h)
  exact this
namespace T
section
variable {α β : Type} {b : Bs} {A : Around} {l l' : Led} {Q : α → Led → Prop} {a : Addr} {o o' : Obj} {p : Option Value}
theorem app {t : Sem α} {s : Shared} (h : T b A t Q l) (I : In b l s) : wpAny (model pg b.w) A t (fun a s' => ∃ l', In b l' s' ∧ Q a l') NoE s := h s I
theorem nPure {x : α} (h : Q x l) : T b A (.pure x) Q l := fun s I => nd_pure ⟨l, I, h⟩
theorem nRule {tag : String} {k : Unit → Sem α} (h : T b A (k ()) Q l) : T b A (.rule tag k) Q l := fun s I => nd_rule (h s I)
theorem nPoint {vs : List Value} {k : Unit → Sem α} (h : T b A (k ()) Q l) : T b A (.point vs k) Q l := fun s I => nd_point (h s I)
theorem nAt {pos : Pos} {k : Unit → Sem α} (h : T b A (k ()) Q l) : T b A (.at pos k) Q l := fun s I Γ _ hΓ => h s I Γ _ hΓ
theorem nAsk {k : Setting → Sem α} (h : T b A (k ⟨pg, b.w.params⟩) Q l) : T b A (.ask k) Q l := fun s I => nd_ask (h s I)
theorem nFresh {k : Tok → Sem α} (h : ∀ t, T b A (k t) Q l) : T b A (.fresh k) Q l := fun s I => nd_fresh (h _ _ (I.up I.st))
theorem nBind {m : Sem β} {f : β → Sem α} (h : T b A m (fun a l' => T b A (f a) Q l') l) : T b A (m.bind f) Q l := fun s I => nd_bind (h.to I fun a s' l' I' h' => h' s' I')
theorem nLoad {k : Obj → Sem α} (hm : (a, isO o) ∈ l) (h : T b A (k o) Q l) : T b A (.load a p k) Q l := fun s I => by
  obtain ⟨o', e, rfl⟩ := I.st.get hm; exact nd_load e (h s I)
theorem nLoadK {k : Obj → Sem α} (e : (hd.heap_1 b.w.params).lookup a = some o) (h : T b A (k o) Q l) : T b A (.load a p k) Q l := fun s I => nd_load (b.B.X.keeps I.st.keep _ _ e) (h s I)
theorem nAlloc {k : Addr → Sem α} (h : ∀ a, T b A (k a) Q ((a, isO o) :: l)) (hf : o.isFreed = false := by k_dflt rfl) : T b A (.alloc o k) Q l := fun s I => nd_alloc (h _ _ (I.up (tk := s.toks) (I.st.push rfl hf)))
theorem nUpd {f : Obj → Obj} {k : Unit → Sem α} (R : Rep a (isO o) (isO o') l l') (e : f o = o') (h : T b A (k ()) Q l') (hf : o'.isFreed = false := by k_dflt rfl) : T b A (.update a p f k) Q l := fun s I => by
  obtain ⟨o'', ho, rfl⟩ := I.st.get R.mem
  exact nd_update ho (h _ (I.up (tk := s.toks) (I.st.same R (Heap.SameBut.update ..) ⟨o', by rw [Heap.get?_update_self f ho (by rw [e]; exact hf), e], rfl⟩)))
end
section
variable {b : Bs} {A : Around} {l l' : Led} {x : Str} {v : Value} {ns : Addr} {m : Str → Option Value}
theorem nsB {Q : Option Value → Led → Prop} (hns : ns = builtinsNs) (hv : bootBuiltins x = some v) (hn : x ≠ "__name__") (h : Q (some v) l) : T b A (nsGet ns x) Q l := fun s I => by
  subst hns
  exact wpAny_nsGet (b.B.b.keeps I.st.keep) ⟨l, I, by rw [b.B.builtins x hn, hv]; exact h⟩
theorem nsG {r : Option Value} {Q : Option Value → Led → Prop} (hns : ns = mainGlobals) (e : nsIn (hd.heap_1 b.w.params) mainGlobals x = some r) (h : Q r l) : T b A (nsGet ns x) Q l := fun s I => by
  subst hns
  refine wpAny_nsGet (b.B.g.keeps I.st.keep) ⟨l, I, ?_⟩
  cases r with
  | none => rw [mg_none_of b.B.X b.B.g e]; exact h
  | some v => rw [mg_of b.B.X b.B.g e]; exact h
theorem enterF {Q : Unit → Led → Prop} (hd : A.depth < recursionLimit) (h : Q () l) : T b A enterFrame Q l := fun s I => wpAny_enterFrame (b.B.nolimit.keeps I.st.keep) hd ⟨l, I, h⟩
theorem bFor {running : Addr} {Q : Addr → Led → Prop} (h : Q builtinsNs l) : T b A (builtinsFor mainGlobals running) Q l := fun s I =>
  let ⟨bm, ob, h1, h2, h3, h4, h5, h6⟩ := b.B.bmain
  wpAny_builtinsFor (b.B.g.keeps I.st.keep) h1 h2 (I.st.keep _ _ h3) h4 h5 h6 ⟨l, I, h⟩
theorem callB {id : String} {args : List Value} {kw : List (Str × Value)} {bf : Builtin} {Q : Value → Led → Prop} (hq : plainId id = true) (hb : entryFor table id = some bf) (hc : checkBuiltinCall id ⟨args, kw⟩ = pure ())
    (h : T b A.in1 (bf ⟨args, kw⟩) (fun fin l' => match fin with | .done (.ret v) => Q v l' | _ => False) l) : T b A (call (.builtin id) args kw) Q l := fun s I => by
  refine wpAny_call (codeAny_call_builtin hq hb ?_)
  rw [hc]
  refine wpAny_pure (h.to I fun fin s' l' I' h' => ?_)
  cases fin with
  | done f => cases f with
    | ret v => exact ⟨l', I', h'⟩
    | _ => exact h'.elim
  | again c => exact h'.elim
/-- a def with one parameter, which is a cell -/
theorem enterC {n : Nat} {name qual : Str} {params : Arguments} {body : List Stmt} {scope : Scope} {dV kV doc pm cdv ct oc : Value} {an od : Option Addr} {osl : Array (Option Value)} {f : Addr} {args : List Value} {y : Str} {u : Value} {Q : Value → Led → Prop}
    (hA : Ok A (n + 1)) (ho : (hd.heap_1 b.w.params).lookup f = some ⟨oc, od, .func (fnOf name qual params body scope dV kV doc pm an cdv ct), osl⟩) (hcd : codeIn (hd.heap_1 b.w.params) cdv qual = true)
    (hbind : bindArgs (fnOf name qual params body scope dV kV doc pm an cdv ct) ⟨args, []⟩ = pure [(y, u)]) (hcf : ∀ n, cellsFrom n scope.names [] = [(y, n)]) (hy : scope.names.lookup y = some .cell)
    (h : ∀ L c (K : Flow → Led → Prop), (∀ fl l', Out (Q (match fl with | .ret v => v | _ => .none)) l' → K fl l') → T b (A.deeper (envX qual scope L f cdv [(y, c)])) (execs body (envX qual scope L f cdv [(y, c)])) K ((c, isCell (some u)) :: (L, isNs fun _ => none) :: l))
    (hco : scope.isCoroutine = false := by k_dflt rfl) (hgen : scope.isGenerator = false := by k_dflt rfl) (hk : scope.kind = .function := by k_dflt rfl) :
    T b A (call (.ref f) args) Q l := fun s I => by
  refine wpAny_call (codeAny_call_cells (fd := fnOf name qual params body scope dV kV doc pm an cdv ct) hA.room (b.B.X.keeps I.st.keep _ _ ho) rfl (b.B.nolimit.keeps I.st.keep) (codeRec_of (b.B.X.keeps I.st.keep) hcd) rfl hbind rfl (fun z hz => ?_) (fun s₁ J => ?_) hco hgen hk)
  · simp only [List.mem_singleton] at hz
    subst hz
    exact .inr ⟨hy, by show ((cellsFrom _ scope.names []).lookup y).isSome = true; rw [hcf]; simp⟩
  · obtain ⟨h₁, tk, rfl, hkp⟩ := J.done
    have e1 : (callEnvC (fnOf name qual params body scope dV kV doc pm an cdv ct) s.heap.objs.size f) = envX qual scope s.heap.objs.size f cdv [(y, s.heap.objs.size + 1)] := by
      show envX qual scope s.heap.objs.size f cdv (cellsFrom (s.heap.objs.size + 1) scope.names []) = _
      rw [hcf]
    rw [e1] at J ⊢
    have hkind : (envX qual scope s.heap.objs.size f cdv [(y, s.heap.objs.size + 1)]).kindOf y = some .cell := hy
    have hc := J.cell y (s.heap.objs.size + 1) (by show List.lookup y [(y, s.heap.objs.size + 1)] = _; simp)
    have hns := J.toInCall.ns
    simp only [bindC, bindL, hkind] at hc hns
    have P1 := I.st.push (p := fun _ => True) (o := default) trivial
    have P2 := P1.push (p := fun _ => True) (o := default) trivial
    rw [Heap.size_push] at P2
    have H₁ : S b.s₀.heap ((s.heap.objs.size + 1, isCell (some u)) :: (s.heap.objs.size, isNs fun _ => none) :: l) h₁ := by
      refine ⟨fun b o e => hkp b o (I.st.keep b o e), fun p hp => ?_, fun p hp => ?_, P2.nd⟩
      · rcases List.mem_cons.mp hp with rfl | hp
        · obtain ⟨o, e, r⟩ := hc; exact ⟨o, e, by show o.data = _; rw [r]; simp⟩
        · rcases List.mem_cons.mp hp with rfl | hp
          · exact isNs_of (by simpa using hns)
          · obtain ⟨o, e, q⟩ := I.st.led p hp; exact ⟨o, hkp _ _ e, q⟩
      · rcases List.mem_cons.mp hp with rfl | hp
        · exact P2.fresh (_, fun _ => True) (.head _)
        · rcases List.mem_cons.mp hp with rfl | hp
          · exact P2.fresh (_, fun _ => True) (.tail _ (.head _))
          · exact I.st.fresh p hp
    exact (h _ _ _ fun _ _ x => x).to (I.up H₁) fun fl s' l' I' ⟨t, x, h'⟩ => ⟨t, I'.pick x, h'⟩
end
end T
namespace T
section
variable {b : Bs} {A : Around} {l l' : Led} {Q : Value → Led → Prop} {a x it : Addr} {ns : List Int} {xs : List Value} {d i : Nat} {v : Value}
theorem tryS {env : Env} {body orelse : List Stmt} {h₀ : ExceptHandler} {hs : List ExceptHandler} {pos : Pos} {Q : Flow → Led → Prop} (h : T b A (execs body env) (fun f l₁ => match f with | .next => T b A (execs orelse env) Q l₁ | f => Q f l₁) l) :
    T b A (exec (.Try body (h₀ :: hs) orelse [] pos) env) Q l := fun s I => wpAny_Try_except (wpAny_mono (h s I) (fun f s' ⟨l', I', h'⟩ => by cases f <;> first | exact h' s' I' | exact ⟨l', I', h'⟩) fun _ _ x => x.elim)
end
end T
namespace T
section
variable {b : Bs} {A : Around} {l : Led} {env : Env} {pos pos' : Pos}
theorem asgA {o value : Expr} {attr : Str} {Q : Flow → Led → Prop} (h : T b A (eval value env) (fun v l₁ => T b A (eval o env) (fun ov l₂ => T b A (setAttr ov attr v) (fun _ => Q .next) l₂) l₁) l)
    (hs : swapsWith value (some (.Attribute o attr pos')) pos.line env = pure false := by k_dflt rfl) : T b A (exec (.Assign [.Attribute o attr pos'] value pos) env) Q l := fun s I =>
  plainObj_wpAny_Assign_Attribute (h.to I fun _ s₁ _ I₁ h₁ => h₁.to I₁ fun _ s₂ _ I₂ h₂ => h₂ s₂ I₂) hs
end
end T
namespace T
section
variable {b : Bs} {A : Around} {l : Led} {env : Env} {pos pos' : Pos}
theorem asgS {o i value : Expr} {Q : Flow → Led → Prop} (h : T b A (eval value env) (fun v l₁ => T b A (eval o env) (fun ov l₂ => T b A (eval i env) (fun iv l₃ => T b A (setItem ov iv v) (fun _ => Q .next) l₃) l₂) l₁) l)
    (hs : swapsWith value (some (.Subscript o i pos')) pos.line env = pure false := by k_dflt rfl) : T b A (exec (.Assign [.Subscript o i pos'] value pos) env) Q l := fun s I =>
  wpAny_Assign_Subscript (h.to I fun _ s₁ _ I₁ h₁ => h₁.to I₁ fun _ s₂ _ I₂ h₂ => h₂.to I₂ fun _ s₃ _ I₃ h₃ => h₃ s₃ I₃) hs
end
end T
namespace T
section
variable {b : Bs} {A : Around} {l : Led} {env : Env} {pos pos' : Pos}
theorem noneC {k : Nat} {Q : Value → Led → Prop} (h : Q .none l) : T b A (eval (.Constant .none k pos) env) Q l := fun s I => wpAny_pure ⟨l, I, h⟩
end
end T
namespace T
section
variable {b : Bs} {A : Around} {l : Led} {env : Env} {pos pos' : Pos}
theorem asg2 {t₁ t₂ value : Expr} {Q : Flow → Led → Prop} (h : T b A (eval value env) (fun v l₁ => T b A (assign t₁ env v) (fun _ l₂ => T b A (assign t₂ env v) (fun _ => Q .next) l₂) l₁) l)
    (he : (assignEach [t₁, t₂] env).map (·.2) = [assign t₁ env, assign t₂ env] := by k_dflt rfl) (hw : swappedStores [t₁, t₂] value env = pure none := by k_dflt rfl) : T b A (exec (.Assign [t₁, t₂] value pos) env) Q l := fun s I =>
  wpAny_Assign_two (h.to I fun _ s₁ _ I₁ h₁ => h₁.to I₁ fun _ s₂ _ I₂ h₂ => h₂ s₂ I₂) he hw
end
end T
namespace T
section
variable {b : Bs} {A : Around} {l : Led} {env : Env} {pos pos' : Pos}
theorem rel {xs ys : List Value} {Q : Unit → Led → Prop} (h : Q () l) : T b A (release xs ys) Q l := fun s I Γ p hΓ => by rw [Sem.wp_release]; exact ⟨l, I, h⟩
end
end T
namespace T
section
variable {b : Bs} {A : Around} {l : Led} {env : Env} {pos pos' : Pos}
theorem aSub {o i : Expr} {v : Value} {Q : Unit → Led → Prop} (h : T b A (eval o env) (fun ov l₁ => T b A (eval i env) (fun iv l₂ => T b A (setItem ov iv v) Q l₂) l₁) l) : T b A (assign (.Subscript o i pos) env v) Q l := by
  rw [assign_Subscript]
  exact T.bnd (T.hold (h.mono fun ov l₁ h₁ => T.bnd (T.hold (h₁.mono fun iv l₂ h₂ => T.bnd (T.stand (T.bnd (T.hold (h₂.mono fun _ l₃ h₃ => T.rel h₃))))))))
end
end T
namespace T
section
variable {b : Bs} {A : Around} {l l' : Led} {env : Env}
theorem stCE {x : Str} {v : Value} {c : Addr} {Q : Unit → Led → Prop} (hx : env.kindOf x = some .cell) (hc : env.cells.lookup x = some c) (R : Rep c (fun o => ∃ v, isCell v o) (isCell (some v)) l l') (h : Q () l') (hk : env.scope.kind = .function := by k_dflt rfl) :
    T b A (storeName env x v) Q l := fun s I => by
  obtain ⟨o, e, v₀, hv⟩ := I.st.get R.mem
  exact wpAny_storeName_cell hk hx hc ⟨o, e, hv⟩ fun h' hn hs => ⟨l', I.up (tk := s.toks) (I.st.same R hs hn), h⟩
end
end T
namespace T
section
variable {α : Type} {b : Bs} {A : Around} {l l' : Led} {a : Addr} {o o' : Obj} {p : Option Value}
theorem ld {Q : Obj → Led → Prop} (hm : (a, isO o) ∈ l) (h : Q o l) : T b A (load a) Q l := nLoad hm (nPure h)
theorem ldP {Q : Obj → Led → Prop} (hm : (a, isO o) ∈ l) (h : Q o l) : T b A (loadPart a p) Q l := nLoad hm (nPure h)
theorem ldK {Q : Obj → Led → Prop} (e : (hd.heap_1 b.w.params).lookup a = some o) (h : Q o l) : T b A (load a) Q l := nLoadK e (nPure h)
theorem ldPK {Q : Obj → Led → Prop} (e : (hd.heap_1 b.w.params).lookup a = some o) (h : Q o l) : T b A (loadPart a p) Q l := nLoadK e (nPure h)
theorem alo {Q : Addr → Led → Prop} (h : ∀ a, Q a ((a, isO o) :: l)) (hf : o.isFreed = false := by k_dflt rfl) : T b A (alloc o) Q l := nAlloc (fun a => nPure (h a)) hf
theorem frs {Q : Tok → Led → Prop} (h : ∀ t, Q t l) : T b A fresh Q l := nFresh fun t => nPure (h t)
theorem upd {f : Obj → Obj} {Q : Unit → Led → Prop} (R : Rep a (isO o) (isO o') l l') (e : f o = o') (h : Q () l') (hf : o'.isFreed = false := by k_dflt rfl) : T b A (update a f) Q l := nUpd R e (nPure h) hf
theorem updP {f : Obj → Obj} {Q : Unit → Led → Prop} (R : Rep a (isO o) (isO o') l l') (e : f o = o') (h : Q () l') (hf : o'.isFreed = false := by k_dflt rfl) : T b A (updatePart a p f) Q l := nUpd R e (nPure h) hf
theorem rul {tag : String} {Q : Unit → Led → Prop} (h : Q () l) : T b A (rule tag) Q l := nRule (nPure h)
theorem pnt {Q : Unit → Led → Prop} (h : Q () l) : T b A point Q l := nPoint (nPure h)
theorem eqP {t : Sem α} {x : α} {Q : α → Led → Prop} (e : t = pure x) (h : Q x l) : T b A t Q l := fun s I => by subst e; exact wpAny_pure ⟨l, I, h⟩
theorem ifT {c : Bool} {t e : Sem α} {Q : α → Led → Prop} (hc : c = true) (h : T b A t Q l) : T b A (if c = true then t else e) Q l := by rw [if_pos hc]; exact h
theorem ifF {c : Bool} {t e : Sem α} {Q : α → Led → Prop} (hc : c = false) (h : T b A e Q l) : T b A (if c = true then t else e) Q l := by rw [if_neg (by rw [hc]; exact Bool.false_ne_true)]; exact h
theorem ifPF {c : Prop} [Decidable c] {t e : Sem α} {Q : α → Led → Prop} (hc : decide c = false) (h : T b A e Q l) : T b A (if c then t else e) Q l := by rw [if_neg (of_decide_eq_false hc)]; exact h
theorem ifPT {c : Prop} [Decidable c] {t e : Sem α} {Q : α → Led → Prop} (hc : decide c = true) (h : T b A t Q l) : T b A (if c then t else e) Q l := by rw [if_pos (of_decide_eq_true hc)]; exact h
end
end T
section
variable {b : Bs} {A : Around} {l : Led} {n d : Nat}
theorem T.bcg {env : Env} {Q : Unit → Led → Prop} (hb : env.builtins = builtinsNs) (h : Q () l) : T b A (buildClassGuard env) Q l := by
  unfold buildClassGuard
  refine T.bnd (T.nsB (v := .builtin "__build_class__") hb (by exact rfl) (by decide) ?_)
  exact T.pur h
theorem T.ea1 {f : Value} {e : Expr} {env : Env} {pos pos' : Pos} {Q : Args → Led → Prop} (h : T b A (eval e env) (fun v l₁ => Q ⟨[v], []⟩ l₁) l) (he : starEach [e] env = (false, eval e env) :: starEach [] env := by k_dflt rfl) : T b A (evalArgs f false (backTo pos (starEach [e] env)) (backToKw pos' (keywordEach [] env))) Q l := fun s I => by
  rw [he]
  unfold evalArgs
  show wpAny _ A (spliced (backTo pos ((false, eval e env) :: starEach [] env)) >>= _) _ _ s
  have hs : T b A (spliced (backTo pos ((false, eval e env) :: starEach [] env))) (fun vs l₁ => ∃ v, vs = [v] ∧ Q ⟨[v], []⟩ l₁) l := by
    rw [← he]
    exact T.spM (h.mono fun v l₁ hv => T.spN ⟨v, rfl, hv⟩) he
  refine wpAny_bind (hs.to I fun vs s₁ l₁ I₁ ⟨v, hv, h'⟩ => ?_)
  subst hv
  refine wpAny_bind (wpAny_pure ?_)
  refine wpAny_holding ?_
  exact wpAny_bind (wpAny_pure (wpAny_bind (wpAny_pure (wpAny_pure ⟨l₁, I₁, h'⟩))))
theorem T.for1 {α β : Type} {a : α} {x : β} {f : α → β → Sem (ForInStep β)} {Q : β → Led → Prop} (h : T b A (f a x) (fun r l' => match r with | .yield y => Q y l' | .done y => Q y l') l) : T b A (forIn [a] x f) Q l := fun s I => by
  simp only [List.forIn_cons, List.forIn_nil]
  refine wpAny_bind (h.to I fun r s' l' I' h' => ?_)
  cases r <;> exact wpAny_pure ⟨l', I', h'⟩
end
namespace T
section
variable {b : Bs} {A : Around} {l : Led}
theorem sCls {Q} {x0 x1 x2 x3 x4 x5} (h : T b A (classCode x0 x1 x2 x3 x4 x5) Q l) : T b A (classCode x0 x1 x2 x3 x4 x5) Q l := h
theorem sMkF {Q} {x0 x1 x2 x3 x4 x5 x6 x7 x8 x9 x10} (h : T b A (makeFunction x0 x1 x2 x3 x4 x5 x6 x7 x8 x9 x10) Q l) : T b A (makeFunction x0 x1 x2 x3 x4 x5 x6 x7 x8 x9 x10) Q l := h
theorem sCall {Q} {x0 x1 x2} (h : T b A (call x0 x1 x2) Q l) : T b A (call x0 x1 x2) Q l := h
theorem sRun {Q} {x0 x1} (h : T b A (run x0 x1) Q l) : T b A (run x0 x1) Q l := h
theorem sRunV {Q} {x0} (h : T b A (runValue x0) Q l) : T b A (runValue x0) Q l := h
theorem sStN {Q} {x0 x1 x2} (h : T b A (storeName x0 x1 x2) Q l) : T b A (storeName x0 x1 x2) Q l := h
theorem sLdN {Q} {x0 x1} (h : T b A (loadName x0 x1) Q l) : T b A (loadName x0 x1) Q l := h
theorem sEnt {Q} {x0} (h : T b A (enterFrame x0) Q l) : T b A (enterFrame x0) Q l := h
theorem sBf {Q} {x0 x1} (h : T b A (builtinsFor x0 x1) Q l) : T b A (builtinsFor x0 x1) Q l := h
theorem sNsG {Q} {x0 x1} (h : T b A (nsGet x0 x1) Q l) : T b A (nsGet x0 x1) Q l := h
theorem sNsS {Q} {x0 x1 x2} (h : T b A (nsSet x0 x1 x2) Q l) : T b A (nsSet x0 x1 x2) Q l := h
theorem sNot {Q} {x0} (h : T b A (PySem.Builtin.notOverATurnedClass x0) Q l) : T b A (PySem.Builtin.notOverATurnedClass x0) Q l := h
theorem sExt {Q} {x0} (h : T b A (PySem.Builtin.extendedBase x0) Q l) : T b A (PySem.Builtin.extendedBase x0) Q l := h
theorem sRd {Q} {x0 x1 x2} (h : T b A (PySem.Builtin.Slots.read x0 x1 x2) Q l) : T b A (PySem.Builtin.Slots.read x0 x1 x2) Q l := h
theorem sIns {Q} {x0 x1 x2 x3} (h : T b A (PySem.Builtin.Slots.install x0 x1 x2 x3) Q l) : T b A (PySem.Builtin.Slots.install x0 x1 x2 x3) Q l := h
theorem sGw {Q} {x0} (h : T b A (PySem.Builtin.Slots.givesWeak x0) Q l) : T b A (PySem.Builtin.Slots.givesWeak x0) Q l := h
theorem sLin {Q} {x0 x1} (h : T b A (PySem.Builtin.linearize x0 x1) Q l) : T b A (PySem.Builtin.linearize x0 x1) Q l := h
theorem sMro {Q} {x0} (h : T b A (PySem.Builtin.mroHook? x0) Q l) : T b A (PySem.Builtin.mroHook? x0) Q l := h
theorem sRef {Q} {x0} (h : T b A (Bind.refreshMaker x0) Q l) : T b A (Bind.refreshMaker x0) Q l := h
theorem sNote {Q} {x0 x1} (h : T b A (PySem.Builtin.noteSubclassOfBuiltin x0 x1) Q l) : T b A (PySem.Builtin.noteSubclassOfBuiltin x0 x1) Q l := h
theorem sUpd {Q} {x0 x1} (h : T b A (updateCls x0 x1) Q l) : T b A (updateCls x0 x1) Q l := h
theorem sSet {Q} {x0 x1 x2} (h : T b A (setSlotAt x0 x1 x2) Q l) : T b A (setSlotAt x0 x1 x2) Q l := h
theorem sDel {Q} {x0 x1} (h : T b A (nsDel x0 x1) Q l) : T b A (nsDel x0 x1) Q l := h
theorem sAl {Q} {x0} (h : T b A (alloc x0) Q l) : T b A (alloc x0) Q l := h
end
end T
local macro_rules | `(tactic| walk_at "rep") => `(tactic| first | exact Rep.head | (refine' Rep.tail ?a; (case a => walk_at "rep")))
local macro_rules | `(tactic| walk_at "mem") => `(tactic| first | exact List.Mem.head _ | (refine' List.Mem.tail _ ?a; (case a => walk_at "mem")))
local macro_rules | `(tactic| walk_at "take") => `(tactic| first | exact Take.head | (refine' Take.tail ?a; (case a => walk_at "take")))
local macro_rules | `(tactic| walk_at "pick") => `(tactic| first | exact Pick.refl | (refine' Pick.cons ?k1 ?k2; (case k1 => walk_at "take"); (case k2 => walk_at "pick")) | (refine' Pick.drop ?a; (case a => walk_at "pick")))
local macro_rules | `(tactic| walk_at "1") => `(tactic| first
  | with_reducible (first
    | refine T.exC ?_ | refine T.exN ?_ | refine T.iF ?_ | refine T.ret ?_
    | refine T.augN ?_ | refine T.augA ?_ | refine T.aN ?_ | refine T.aSub ?_ | refine T.cwB0 ?_ | refine T.cwT0 ?_ | refine T.spN ?_
    | refine T.bin ?_ | refine T.sub ?_ | refine T.cI (fun t => ?_) | refine T.lst ?_ | refine T.tup ?_
    | refine T.itNot ?_ | refine T.itAnd ?_ | refine T.itOr ?_ | refine T.itAndN ?_ | refine T.itOrN ?_
    | refine T.bo1 ?_ | refine T.boA ?_ | refine T.boO ?_ | refine T.un ?_ | refine T.ifE ?_
    | refine T.nmd ?_ | refine T.trB ?_ | refine T.noneC ?_
    | refine T.add (fun t => ?_) | refine T.minus (fun t => ?_) | refine T.neg (fun t => ?_) | refine T.eqI ?_ | refine T.neI ?_ | refine T.ltI ?_ | refine T.gtI ?_ | refine T.isNone ?_ | refine T.isNotNone ?_
    | refine T.cwB1 ?_ | refine T.cwT1 ?_ | refine T.asgN ?_ | refine T.asgA ?_ | refine T.asgS ?_ | refine T.asg2 ?_ | refine T.expr ?_ | refine T.forS ?_ | refine T.tryS ?_ | refine T.spM ?_ | refine T.itC ?_ | refine T.itP ?_
    | refine T.mcall ?_ | refine T.fcall ?_ | refine T.cmp1 ?_ | refine T.attrN ?_ | refine T.attr ?_)
  | ((with_reducible show T _ _ (eval (Expr.Name _ _) _) _ _); first | refine T.nmL (by exact rfl) (by walk_at "mem") (by first | exact rfl | assumption) ?_ | refine T.nmG (by exact rfl) (by exact rfl) ?_ | refine T.nmB (by exact rfl) (by exact rfl) ?_ | refine T.nmC (by exact rfl) (by exact rfl) (by walk_at "mem") ?_ | refine T.nmF (by exact rfl) (by exact rfl) (by walk_at "mem") ?_)
  | ((with_reducible show T _ _ (loadName _ _) _ _); refine T.ldL (by exact rfl) (by walk_at "mem") (by first | exact rfl | assumption) ?_)
  | ((with_reducible show T _ _ (storeName _ _ _) _ _); first | refine T.stL (by exact rfl) (by walk_at "rep") ?_ | refine T.stC (by exact rfl) (by exact rfl) (by walk_at "rep") ?_ | refine T.stCE (by exact rfl) (by exact rfl) (by walk_at "rep") ?_))
local macro_rules | `(tactic| walk_at "go") => `(tactic| repeat (first | walk_at "1" | (dsimp only; walk_at "1")))
local macro_rules | `(tactic| walk_at "mm") => `(tactic| first | assumption | exact List.Mem.head _ | exact List.mem_append_right _ (by assumption) | (refine' List.Mem.tail _ ?a; (case a => walk_at "mm")))
local macro_rules | `(tactic| walk_at "K") => `(tactic| with_reducible refine T.cwK1 (by kernel_rfl) ?_ (by kernel_rfl!) (by kernel_rfl!))
local macro_rules | `(tactic| walk_at "w0") => `(tactic| first
  | with_reducible (first
    | refine T.bnd ?_ | refine T.hold ?_ | refine T.onR ?_ | refine T.att ?_ | refine T.tryC ?_ | refine T.stand ?_ | refine T.pur ?_
    | refine T.rul ?_ | refine T.pnt ?_ | refine T.frs (fun t => ?_)
    | refine T.nBind ?_ | refine T.nPure ?_ | refine T.nRule ?_ | refine T.nPoint ?_ | refine T.nAt ?_ | refine T.nAsk ?_ | refine T.nFresh (fun t => ?_)
    | refine T.eqP (by assumption) ?_)
  | ((with_reducible show T _ _ (load _) _ _); refine T.ld (by walk_at "mem") ?_)
  | ((with_reducible show T _ _ (loadPart _ _) _ _); refine T.ldP (by walk_at "mem") ?_)
  | with_reducible (first | refine T.ifT (by first | decide +kernel | exact rfl) ?_ | refine T.ifF (by first | decide +kernel | exact rfl) ?_))
local macro_rules | `(tactic| walk_at "w") => `(tactic| first | walk_at "w0" | (intro s I; wp_delta; refine T.app ?_ I; clear I s) | dsimp -zeta -zetaHave only)
local macro_rules | `(tactic| walk_at "ws") => `(tactic| first
  | walk_at "w0"
  | (fail_if_success (with_reducible (first | refine T.sCls ?_ | refine T.sMkF ?_ | refine T.sCall ?_ | refine T.sRun ?_ | refine T.sRunV ?_ | refine T.sStN ?_ | refine T.sLdN ?_ | refine T.sEnt ?_ | refine T.sBf ?_ | refine T.sNsG ?_ | refine T.sNsS ?_ | refine T.sNot ?_ | refine T.sExt ?_ | refine T.sRd ?_ | refine T.sIns ?_ | refine T.sGw ?_ | refine T.sLin ?_ | refine T.sMro ?_ | refine T.sRef ?_ | refine T.sNote ?_ | refine T.sUpd ?_ | refine T.sSet ?_ | refine T.sDel ?_ | refine T.sAl ?_))
     walk_at "w")
  | dsimp -zeta -zetaHave only)
local macro_rules | `(tactic| walk_at "wi") => `(tactic| first | refine T.ifT (by rfl) ?_ | refine T.ifF (by rfl) ?_)
section
variable {b : Bs} {A : Around} {l : Led} {n d : Nat}
set_option maxHeartbeats 8000000 in
theorem ballotT {i sz : Int} {t u : Tok} {Q : Value → Led → Prop} (hA : Ok A (d + 1)) (h0 : 0 ≤ i) (h1 : i < 2 ^ 40) (hn : sz = n) (hn1 : n ≤ 1000) (h : ∀ bv p, p.Perm (rangeI n) → Q (.ref bv) ((bv, isInts p) :: l)) :
    T b A (call (.ref 184) [.int i t, .int sz u]) Q l := by
  refine T.enter (binds := [("number", .int i t), ("size", .int sz u)]) hA (by exact rfl) (by kernel_rfl) (fun _ _ => BindsTo.of_eq rfl) (by rfl) (fun L K hK => ?_)
  walk_at "go"
  refine T.range1 fun r => ?_
  walk_at "go"
  refine T.listRange hA.deeper.hh (by walk_at "mem") (small_of (by omega) (by omega) (.inl rfl)) (size_up hn) (by omega) fun lv => ?_
  walk_at "go"
  refine T.newI .nil fun bv => ?_
  walk_at "go"
  refine T.range3 (by decide) (PyProof.noPylong_small (by omega)) fun r3 => ?_
  try dsimp only
  refine T.iterRange (by walk_at "mem") (small_of (by omega) (by omega) (.inr rfl)) (size_down hn) fun it => ?_
  refine T.forLoop (rest := l) (lj₀ := [(bv, isInts []), (lv, isInts (progI 0 1 n)), (L, isNs _)]) (It.range hA.deeper.hh) (fun i lj => ∃ m bal lft num t, lj = [(bv, isInts bal), (lv, isInts lft), (L, isNs m)] ∧ m "number" = some (.int num t) ∧ m "left" = some (.ref lv) ∧ m "ballot" = some (.ref bv) ∧ 0 ≤ num ∧ num < 2 ^ 40 ∧ lft.length = n - i ∧ (bal ++ lft).Perm (progI 0 1 n) ∧ bal.length = i)
    (by walk_at "pick") ⟨_, _, _, i, _, rfl, rfl, rfl, rfl, h0, h1, progI_length .., .refl _, rfl⟩ (fun _ _ _ _ _ _ => trivial) ?_ ?_
  · rintro j v lj KQ hK hj ⟨tv, rfl⟩ ⟨m, bal, lft, num, tn, rfl, hm1, hm2, hm3, hn0, hn1, hlen, hperm, hbl⟩
    simp only [List.cons_append, List.nil_append] at hK ⊢
    walk_at "go"
    refine T.gmInts (by walk_at "mem") F.slot_list_append F.type_list_append ?_
    walk_at "go"
    refine T.gmInts (by walk_at "mem") F.slot_list_pop F.type_list_pop ?_
    walk_at "go"
    have hk : sz + (j : Int) * -1 = (n : Int) - j := by omega
    have ef := Int.fmod_eq_emod_of_nonneg num (b := sz + (j : Int) * -1) (by omega)
    have ed := Int.fdiv_eq_ediv_of_nonneg num (b := sz + (j : Int) * -1) (by omega)
    have e0 := Int.emod_nonneg num (b := sz + (j : Int) * -1) (by omega)
    have e1 := Int.emod_lt_of_pos num (b := sz + (j : Int) * -1) (by omega)
    have e2 := Int.ediv_nonneg hn0 (b := sz + (j : Int) * -1) (by omega)
    have e3 : num / (sz + (j : Int) * -1) ≤ num := Int.ediv_le_self _ hn0
    have hsl : sizeLine = 2 ^ 24 := rfl
    rw [← ef] at e0 e1
    rw [← ed] at e2 e3
    refine T.mod (by omega) fun t => ?_
    walk_at "go"
    refine T.popAt (by walk_at "rep") e0 (by omega) (by omega) fun t => ?_
    walk_at "go"
    refine T.appI (by walk_at "rep") (by omega) ?_
    dsimp only
    refine ⟨trivial, ?_⟩
    walk_at "go"
    refine T.fdiv hA.deeper.hh (by omega) (PyProof.noPylong_small (by omega)) fun t => ?_
    walk_at "go"
    refine hK _ _ ?_
    refine ⟨[(bv, _), (lv, _), (L, isNs _)], by walk_at "pick", ?_⟩
    refine ⟨_, _, _, _, _, rfl, rfl, hm2, hm3, e2, by omega, ?_, ?_, by simp [hbl]⟩
    · rw [List.length_eraseIdx_of_lt (by omega)]; omega
    · refine List.Perm.trans ?_ hperm
      rw [List.append_assoc]
      refine List.Perm.append_left _ ?_
      have hlt : (num.fmod (sz + (j : Int) * -1)).toNat < lft.length := by omega
      rw [List.getD_eq_getElem?_getD, List.getElem?_eq_getElem hlt]
      exact perm_cons_erase _ _ hlt
  · rintro lj ⟨m, bal, lft, num, tn, rfl, hm1, hm2, hm3, hn0, hn1, hlen, hperm, hbl⟩
    simp only [List.cons_append, List.nil_append]
    walk_at "go"
    have hl0 : lft = [] := List.eq_nil_of_length_eq_zero (by omega)
    subst hl0
    refine hK _ _ ?_
    exact ⟨(bv, isInts bal) :: l, by walk_at "pick", h bv bal (by simpa using hperm)⟩
end

theorem S.new {h₀ h h' : Heap} {l : Led} {a : Addr} {p : OP} (H : S h₀ l h) (k : ∀ b o, h.get? b = some o → h'.get? b = some o) (ha : h.objs.size ≤ a) (hn : ∃ o, h'.get? a = some o ∧ p o) : S h₀ ((a, p) :: l) h' := by
  have H' := H.ext k
  refine ⟨H'.keep, fun q hq => ?_, fun q hq => ?_, List.nodup_cons.mpr ⟨fun hm => ?_, H.nd⟩⟩
  · rcases List.mem_cons.mp hq with rfl | hq
    · exact hn
    · exact H'.led q hq
  · rcases List.mem_cons.mp hq with rfl | hq
    · cases e : h₀.get? a with
      | none => rfl
      | some o' => exact absurd (Heap.lt_size (H.keep _ _ e)) (Nat.not_lt.mpr ha)
    · exact H.fresh q hq
  · obtain ⟨q, hq, e⟩ := List.mem_map.mp hm
    have := H.lt (a := q.1) (p := q.2) hq
    rw [e] at this; exact Nat.not_lt.mpr ha this
namespace T
section
variable {b : Bs} {A : Around} {l : Led} {Q : Value → Led → Prop} {a : Addr} {ns : List Int} {d : Nat}
theorem sortedI (hm : (a, isInts ns) ∈ l) (hlen : ns.length < 64) (h : ∀ r ns', ns'.Perm ns → ns'.Pairwise (fun x y => x ≤ y) → Q (.ref r) ((r, isInts ns') :: l)) : T b A (call (.builtin "sorted") [.ref a]) Q l := fun s I => by
  obtain ⟨vs, n, hi, e⟩ := I.st.intsAt hm
  refine sorted_ints ⟨_, e, rfl, _, rfl⟩ hi (by rw [hi.length]; exact hlen) fun out ns' hi' hp hs => ?_
  obtain ⟨k, he⟩ := sortedAll_at s.heap vs out
  exact ⟨_, I.up (I.st.new (fun _ _ => sortedAll_old) (Nat.le_succ _) ⟨_, he, out.toList, hi', k, by simp [lsO, seqObj]⟩), h (s.heap.objs.size + 1) ns' hp hs⟩
end
end T
section
variable {b : Bs} {A : Around} {l : Led} {n d : Nat}
set_option maxHeartbeats 8000000 in
theorem medianT {a : Addr} {ns : List Int} {k : Nat} {Q : Value → Led → Prop} (hA : Ok A (d + 1)) (hm : (a, isInts ns) ∈ l) (hlen : ns.length = 2 * k + 1) (hk : k < 20)
    (h : ∀ v t (ns' : List Int), ns'.Perm ns → ns'.Pairwise (fun x y => x ≤ y) → ns'[k]? = some v → Q (.int v t) l) : T b A (call (.ref 41) [.ref a]) Q l := by
  refine T.enter (binds := [("data", .ref a)]) hA (by exact rfl) (by kernel_rfl) (fun _ _ => BindsTo.of_eq rfl) (by rfl) (fun L K hK => ?_)
  walk_at "go"
  refine T.sortedI (.tail _ hm) (by omega) fun r ns' hp hs => ?_
  have hl := hp.length_eq
  walk_at "go"
  rw [hlen] at hl
  refine T.lenI (by walk_at "mem") (by rw [hl]; omega) fun t => ?_
  walk_at "go"
  have e1 : ((ns'.length : Int) == 0) = false := by rw [hl]; exact beq_false_of_ne (by omega)
  rw [if_neg (by rw [e1]; decide)]
  walk_at "go"
  refine T.mod (by decide) fun t => ?_
  walk_at "go"
  have e2 : ((ns'.length : Int)).fmod 2 = 1 := by rw [Int.fmod_eq_emod_of_nonneg _ (by decide)]; omega
  have e3 : ((ns'.length : Int)).fdiv 2 = k := by rw [Int.fdiv_eq_ediv_of_nonneg _ (by decide)]; omega
  rw [if_pos (by simp [e2])]
  walk_at "go"
  refine T.fdiv hA.deeper.hh (by decide) (PyProof.noPylong_small (by omega)) fun t => ?_
  rw [e3]
  dsimp only
  obtain ⟨v, hv⟩ : ∃ v, ns'[k]? = some v := ⟨ns'[k], by rw [List.getElem?_eq_getElem (by omega)]⟩
  refine T.itemI (by walk_at "mem") (by omega) (by omega) (by simpa using hv) fun t => ?_
  refine hK _ _ ?_
  exact ⟨l, by walk_at "pick", h v t ns' hp hs hv⟩
end

theorem It.drop {w : World} {A : Around} {it : Addr} {n k : Nat} {val : Nat → Value → Prop} {P : Nat → OP} {side : Heap → Prop} (X : It w A it n val P side) (hk : k ≤ n) : It w A it (n - k) (fun i => val (k + i)) (fun i => P (k + i)) side where
  step := fun i s Q E hi h hs hQ => X.step (k + i) s Q E (by omega) h hs hQ
  stop := fun s Q E h hs hQ => X.stop s Q E (by rwa [show k + (n - k) = n by omega] at h) hs hQ
  self := fun i s Q E h hQ => X.self (k + i) s Q E h hQ
namespace T
section
variable {b : Bs} {A : Around} {l l' : Led} {Q : Value → Led → Prop} {a x it : Addr} {ns : List Int} {xs : List Value} {d i : Nat} {v : Value}
theorem iterI (hm : (a, isInts ns) ∈ l) (h : ∀ it, Q (.ref it) ((it, isListIt a 0) :: l)) : T b A (pyIter (.ref a)) Q l := fun s I => by
  obtain ⟨vs, n, hi, e⟩ := I.st.intsAt hm
  exact wpAny_pyIter_list ⟨_, e, rfl, _, rfl⟩ ⟨_, I.up (tk := s.toks) (I.st.push ⟨rfl, rfl⟩), h _⟩
/-- the function iter -/
theorem iterB (h : T b A.in1 (pyIter v) Q l) : T b A (call (.builtin "iter") [v]) Q l := fun s I => by
  refine call_function_entry (by decide +kernel) (by decide +kernel) kdk_entry_iter (kdk_args_iter _) ?_
  unfold Builtin.«iter»
  refine wpAny_bind (m := someArgs "iter" 1 2 _) (wpAny_of_eq (a := [v]) (by first | rfl | kernel_rfl!) ?_)
  show wpAny _ _ (pyIter v >>= _) _ _ _
  exact wpAny_bind (h.to I fun r s' l' I' h' => wpAny_pure ⟨_, rfl, l', I', h'⟩)
/-- one step of the method of a list's iterator -/
theorem liSpecial {E : Value → Shared → Prop} {s : Shared} {Q : Option Value → Shared → Prop} {items : Array Value} (hit : s.heap.IsListIter it a i) (hl : s.heap.IsList a items) (hx : items[i]? = some v)
    (hQ : ∀ h', h'.IsListIter it a (i + 1) → Heap.SameBut it s.heap h' → Q (some v) { s with heap := h' }) : wpAny (model pg b.w) A (callSpecial? (.ref it) (Str.ofString "__next__")) Q E s := by
  obtain ⟨o, ho, hc, hd⟩ := id hit
  obtain ⟨ol, hol, _, nl, hdl⟩ := hl
  refine wpAny_callSpecial?_slot (name := Str.ofString "__next__") hit.typeIs slot_listiter_next (wpAny_call_entry slot_listiter_next hit.typeIs entry_listiter_next ?_ (args_listiter_next _))
  show wpAny _ _ (field (.ref it) 0 >>= _) _ _ s
  refine wpAny_bind (wpAny_field ho hd (x := .ref a) rfl ?_)
  show wpAny _ _ (if (Value.ref a == Value.none) = true then _ else _) _ _ s
  rw [if_neg (show ¬ ((Value.ref a == Value.none) = true) from Bool.false_ne_true)]
  show wpAny _ _ (field (.ref it) 1 >>= _) _ _ s
  refine wpAny_bind (wpAny_field ho hd (x := .int i 0) rfl ?_)
  show wpAny _ _ (seqItems? (.ref a) >>= _) _ _ s
  refine wpAny_bind (wpAny_seqItems hol hdl ?_)
  simp only [Int.toNat_natCast, hx]
  refine wpAny_bind (wpAny_setField ho hd (by simp) (wpAny_pure ⟨v, rfl, hQ _ ?_ (Heap.SameBut.update ..)⟩))
  exact ⟨_, Heap.get?_update_self _ ho (Obj.isFreed_of_fields (Obj.data_mapFields hd _)), (Obj.cls_mapFields ..).trans hc, by rw [Obj.data_mapFields hd]; simp [rawInt]⟩
theorem nextI {t : Int} {l' : Led} (hm : (a, isInts ns) ∈ l) (R : Rep it (isListIt a i) (isListIt a (i + 1)) l l') (hx : ns[i]? = some t) (h : ∀ u, Q (.int t u) l') : T b A (call (.builtin "next") [.ref it]) Q l := fun s I => by
  obtain ⟨vs, n, hi, e⟩ := I.st.intsAt hm
  obtain ⟨u, hy⟩ := hi.get i t hx
  obtain ⟨io, hio, hcd⟩ := I.st.get R.mem
  have hit : s.heap.IsListIter it a i := ⟨io, hio, hcd.1, hcd.2⟩
  refine call_function_entry (by decide +kernel) (by decide +kernel) kdk_entry_next (kdk_args_next _) ?_
  unfold Builtin.«next»
  refine wpAny_bind (m := someArgs "next" 1 2 _) (wpAny_of_eq (a := [Value.ref it]) (by first | rfl | kernel_rfl!) ?_)
  dsimp only
  refine wpAny_bind (wpAny_specialOf (name := Str.ofString "__next__") hit.typeIs slot_listiter_next.lookup ?_)
  refine wpAny_ite_split (fun hab => absurd hab (by decide)) (fun _ => ?_)
  refine wpAny_bind (liSpecial hit ⟨_, e, rfl, _, rfl⟩ (by simpa using hy) fun h' hit' hs => ?_)
  obtain ⟨o', ho', hc', hd'⟩ := hit'
  exact wpAny_pure ⟨_, rfl, l', I.up (tk := s.toks) (I.st.same R hs ⟨o', ho', hc', hd'⟩), h u⟩
theorem isSelf {Q : Value → Led → Prop} (h : Q (.bool true) l) : T b A (compareOp .Is (.ref a) (.ref a)) Q l := fun s I => wpAny_is_ref_self ⟨l, I, h⟩
end
end T

/-- a function made by the run: its data, and that its code bears its name -/
def isFun (fd : FuncData) : OP := fun o => ∃ oc od sl, o = ⟨oc, od, .func fd, sl⟩
theorem It.ints {w : World} {A : Around} (hh : A.handled = none) {it x : Addr} {ns : List Int} : It w A it ns.length (fun i v => ∃ t j, ns[i]? = some j ∧ v = .int j t) (isListIt x) (fun h => ∃ vs, IntsAre vs ns ∧ h.IsList x vs.toArray) where
  step := fun i s Q E hi ho ⟨vs, hv, hl⟩ hQ => (It.list (w := w) hh (it := it) (x := x) (xs := vs)).step i s Q E (by rw [hv.length]; exact hi) ho hl fun v h' tk hx hs hn => by
    obtain ⟨t, hy⟩ := hv.get i ns[i] (by simp [hi])
    rw [hy] at hx; cases hx
    exact hQ _ h' tk ⟨t, ns[i], by simp [hi], rfl⟩ hs hn
  stop := fun s Q E ho ⟨vs, hv, hl⟩ hQ => (It.list (w := w) hh (it := it) (x := x) (xs := vs)).stop s Q E (by rw [hv.length]; exact ho) hl hQ
  self := fun i s Q E ho hQ => (It.list (w := w) hh (it := it) (x := x) (xs := [])).self i s Q E ho hQ
theorem S.sideI {h₀ h : Heap} {l : Led} {a : Addr} {ns : List Int} (H : S h₀ l h) (hm : (a, isInts ns) ∈ l) : ∃ vs, IntsAre vs ns ∧ h.IsList a vs.toArray := by
  obtain ⟨vs, n, hi, e⟩ := H.intsAt hm; exact ⟨vs, hi, _, e, rfl, n, rfl⟩
namespace T
section
variable {b : Bs} {A : Around} {l : Led} {Q : Value → Led → Prop} {g : Addr} {fd : FuncData} {pos : Pos} {env : Env} {first : List Value} {e : Expr} {rest : List Expr}
theorem cwF1 (hm : (g, isFun fd) ∈ l) (h : T b A (spliced (backTo pos (starEach (e :: rest) env))) (fun vs l₁ => (g, isFun fd) ∈ l₁ ∧ T b A (call (.ref g) (first ++ vs)) Q l₁) l)
    (he : starEach (e :: rest) env = (false, eval e env) :: starEach rest env := by k_dflt rfl) (hp : ((backTo pos (starEach rest env)).any fun x => x.fst) = false := by k_dflt rfl) :
    T b A (callWith pos (.ref g) first (backTo pos (starEach (e :: rest) env)) []) Q l := fun s I => by
  have fn : ∀ {l s}, In b l s → (g, isFun fd) ∈ l → FnAt g s.heap := fun I hm => by
    obtain ⟨o, e, oc, od, sl, rfl⟩ := I.st.get hm; exact ⟨oc, od, fd, sl, e⟩
  exact callWith_F (fn I hm) (h.to I fun vs s₁ l₁ I₁ ⟨hm', h'⟩ => ⟨fn I₁ hm', h' s₁ I₁⟩) he hp
theorem iterSelf {it : Addr} {n i : Nat} {val : Nat → Value → Prop} {P : Nat → OP} {side : Heap → Prop} (X : It b.w A it n val P side) (hm : (it, P i) ∈ l) (h : Q (.ref it) l) : T b A (pyIter (.ref it)) Q l := fun s I =>
  X.self i s _ _ (I.st.get hm) ⟨l, I, h⟩
end
end T
/-- the two-place function that g is over the ledger l -/
def Acts (b : Bs) (g : Addr) (P : Int → Prop) (F : Int → Int → Int) (d : Nat) (l : Led) : Prop :=
  ∀ A' l₁ u v t t' (Q : Value → Led → Prop), Ok A' d → (∀ p ∈ l, p ∈ l₁) → P u → P v → (∀ t, Q (.int (F u v) t) l₁) → T b A' (call (.ref g) [.int u t, .int v t']) Q l₁
section
variable {b : Bs} {A : Around} {l : Led} {n d : Nat}
set_option maxHeartbeats 8000000 in
theorem reduceT {g a : Addr} {fd : FuncData} {x : Int} {xs : List Int} {P : Int → Prop} {F : Int → Int → Int} {Q : Value → Led → Prop} (hA : Ok A (d + 1)) (hg : (g, isFun fd) ∈ l) (hm : (a, isInts (x :: xs)) ∈ l)
    (hF : Acts b g P F d l) (hP : ∀ y ∈ x :: xs, P y) (hPF : ∀ u v, P u → P v → P (F u v)) (h : ∀ t, Q (.int (xs.foldl F x) t) l) : T b A (call (.ref 57) [.ref g, .ref a]) Q l := by
  refine T.enter (binds := [("function", .ref g), ("sequence", .ref a), ("initial", .ref 49)]) hA (by exact rfl) (by kernel_rfl) (fun s I => ?_) (by rfl) (fun L K hK => ?_)
  · exact BindsTo.of_defaults (T := 50) (n := 0) (items := #[.ref 49]) rfl (b.B.X.keeps I.st.keep _ _ (by exact rfl)) rfl rfl rfl
  walk_at "go"
  refine T.iterB (T.iterI (.tail _ hm) fun it => ?_)
  walk_at "go"
  refine T.isSelf ?_
  walk_at "go"
  rw [if_pos rfl]
  walk_at "go"
  refine T.nextI (ns := x :: xs) (by exact .tail _ (.tail _ hm)) .head rfl fun u => ?_
  walk_at "go"
  refine T.iterSelf (It.ints hA.deeper.hh (x := a) (ns := x :: xs)) (i := 1) (.head _) ?_
  refine T.forLoop (rest := l) (lj₀ := [(L, isNs _)]) ((It.ints hA.deeper.hh (x := a) (ns := x :: xs)).drop (k := 1) (by simp)) (fun i lj => ∃ m t, lj = [(L, isNs m)] ∧ m "function" = some (.ref g) ∧ m "value" = some (.int ((xs.take i).foldl F x) t))
    (by walk_at "pick") ⟨_, _, rfl, rfl, rfl⟩ (fun i lj h hi hj H => ?_) ?_ ?_
  · obtain ⟨m, t, rfl, -, -⟩ := hj
    exact H.sideI (.tail _ (.tail _ hm))
  · rintro i v lj KQ hK hi ⟨tv, y, hy, rfl⟩ ⟨m, t, rfl, hm1, hm2⟩
    simp only [List.cons_append, List.nil_append] at hK ⊢
    rw [Nat.add_comm, List.getElem?_cons_succ] at hy
    walk_at "go"
    refine T.cwF1 (.tail _ (.tail _ hg)) ?_
    walk_at "go"
    refine ⟨.tail _ (.tail _ hg), ?_⟩
    have hlt : i < xs.length := by simpa using hi
    have hall : ∀ k, P ((xs.take k).foldl F x) := by
      intro k
      have : ∀ (ys : List Int) (z : Int), P z → (∀ q ∈ ys, P q) → P (ys.foldl F z) := by
        intro ys
        induction ys with
        | nil => intro z hz _; exact hz
        | cons q r ih => intro z hz hq; exact ih _ (hPF _ _ hz (hq q (.head _))) fun p hp => hq p (.tail _ hp)
      exact this _ _ (hP x (.head _)) fun q hq => hP q (.tail _ (List.mem_of_mem_take hq))
    refine hF _ _ _ _ _ _ _ hA.deeper (fun p hp => .tail _ (.tail _ hp)) (hall i) (hP y (.tail _ (List.mem_of_getElem? hy))) fun t => ?_
    walk_at "go"
    refine hK _ _ ?_
    refine ⟨[(L, isNs (put "value" (.int (F ((xs.take i).foldl F x) y) t) (put "element" (.int y tv) m)))], by walk_at "pick", _, t, rfl, hm1, ?_⟩
    show some (Value.int (F ((xs.take i).foldl F x) y) t) = _
    have e1 : xs.take (i + 1) = xs.take i ++ [y] := by
      rw [List.take_succ, hy]; rfl
    rw [e1, List.foldl_append]; rfl
  · rintro lj ⟨m, t, rfl, hm1, hm2⟩
    simp only [List.cons_append, List.nil_append, List.length_cons, Nat.add_sub_cancel] at hm2 ⊢
    rw [List.take_length] at hm2
    walk_at "go"
    refine hK _ _ ?_
    exact ⟨l, by walk_at "pick", h t⟩
end

/-- what the tree's loop grows: the known ones and the edges, the last one first -/
inductive Grown (M : Nat → Nat → Bool) (n root : Nat) : List Nat → List (Nat × Nat) → Prop
  | nil : Grown M n root [root] []
  | step {kn es p c} : Grown M n root kn es → p ∈ kn → M p c = true → c ∉ kn → c < n → Grown M n root (kn ++ [c]) ((p, c) :: es)
theorem nodup_le : ∀ (n : Nat) (xs : List Nat), xs.Nodup → (∀ x ∈ xs, x < n) → xs.length ≤ n
  | 0, [], _, _ => Nat.le_refl _
  | 0, x :: _, _, h => absurd (h x (.head _)) (Nat.not_lt_zero _)
  | n + 1, xs, hd, h => by
    have := nodup_le n (xs.erase n) (hd.erase n) fun x hx => by
      have h1 := h x (List.mem_of_mem_erase hx)
      have h2 : x ≠ n := fun e => by subst e; exact (hd.not_mem_erase) hx
      omega
    by_cases hm : n ∈ xs
    · rw [List.length_erase_of_mem hm] at this; omega
    · rw [List.erase_of_not_mem hm] at this; omega
theorem Grown.nodup {M n root kn es} (g : Grown M n root kn es) : kn.Nodup := by
  induction g with
  | nil => simp
  | step _ _ _ hc _ ih => exact List.nodup_append.mpr ⟨ih, by simp, fun a ha b hb e => by simp at hb; subst hb; subst e; exact hc ha⟩
theorem Grown.lt {M n root kn es} (g : Grown M n root kn es) (hr : root < n) : ∀ x ∈ kn, x < n := by
  induction g with
  | nil => simpa using hr
  | step _ _ _ _ hcn ih => intro x hx; rcases List.mem_append.mp hx with hx | hx; exact ih x hx; simp at hx; omega
theorem Grown.len {M n root kn es} (g : Grown M n root kn es) : kn.length = es.length + 1 := by
  induction g with
  | nil => rfl
  | step _ _ _ _ _ ih => simp [ih]
def natI (kn : List Nat) : List Int := kn.map fun (x : Nat) => (x : Int)
theorem any_natI {kn : List Nat} {c : Nat} : ((natI kn).any fun x => x == (c : Int)) = decide (c ∈ kn) := by
  rw [Bool.eq_iff_iff]; simp only [natI, List.any_eq_true, List.mem_map, beq_iff_eq, decide_eq_true_eq]
  refine ⟨?_, fun h => ⟨_, ⟨c, h, rfl⟩, rfl⟩⟩
  rintro ⟨x, ⟨y, hy, e1⟩, e2⟩
  have e3 : y = c := by omega
  rwa [← e3]
def ent (e : Addr × Nat × Nat) : Addr × OP := (e.1, isInts [(e.2.1 : Int), (e.2.2 : Int)])
def boolRow (M : Nat → Nat → Bool) (n x : Nat) : List Value := (List.range n).map fun y => .bool (M x y)
theorem turn_onto {n : Nat} {turn : Int} (hn : 1 ≤ n) (ht : 0 ≤ turn) {y : Nat} (hy : y < n) : ∃ j : Nat, j < n ∧ ((j : Int) + turn).fmod n = y := by
  have hnz : (0 : Int) < n := by omega
  refine ⟨(((y : Int) - turn) % n).toNat, ?_, ?_⟩
  · have := Int.emod_lt_of_pos ((y : Int) - turn) hnz
    have := Int.emod_nonneg ((y : Int) - turn) (b := (n : Int)) (by omega)
    omega
  · have h0 := Int.emod_nonneg ((y : Int) - turn) (b := (n : Int)) (by omega)
    rw [Int.toNat_of_nonneg h0, Int.fmod_eq_emod_of_nonneg _ (by omega), Int.emod_add_emod]
    rw [show (y : Int) - turn + turn = y by omega]
    exact Int.emod_eq_of_lt (by omega) (by omega)
section
variable {b : Bs} {A : Around} {l : Led} {n d : Nat}
set_option maxHeartbeats 8000000 in
theorem treeT {root : Nat} {ah : Addr} {rows : List Addr} {M : Nat → Nat → Bool} {turn : Int} {t u : Tok} {Q : Value → Led → Prop} (hA : Ok A (d + 1)) (hah : (ah, isList (rows.map .ref)) ∈ l) (hrows : rows.length = n) (hrow : ∀ x r, rows[x]? = some r → (r, isList (boolRow M n x)) ∈ l)
    (hn : 1 ≤ n) (hn5 : n ≤ 5) (hr : root < n) (ht : 0 ≤ turn) (ht2 : turn < 2 ^ 40)
    (h : ∀ tv kn (es : List (Addr × Nat × Nat)), Grown M n root kn (es.map (·.2)) → (kn.length = n ∨ ∀ p ∈ kn, ∀ y, y < n → M p y = true → y ∈ kn) → Q (.ref tv) ((tv, isList (es.reverse.map fun e => .ref e.1)) :: (es.map ent ++ l))) :
    T b A (call (.ref 191) [.int root t, .ref ah, .int turn u]) Q l := by
  refine T.enter (binds := [("root", .int root t), ("ahead", .ref ah), ("turn", .int turn u)]) hA (by exact rfl) (by kernel_rfl) (fun _ _ => BindsTo.of_eq rfl) (by rfl) (fun L K hK => ?_)
  walk_at "go"
  refine T.newI (ns := natI [root]) (.cons _ _ .nil) fun kv => ?_
  walk_at "go"
  refine T.newL fun tv => ?_
  walk_at "go"
  refine T.whileS (T.whileLoop (fun c lj => ∃ m kn es k tk, lj = (kv, isInts (natI kn)) :: (tv, isList (es.reverse.map fun e => .ref e.1)) :: (L, isNs m) :: (es.map ent ++ l) ∧ m "ahead" = some (.ref ah) ∧ m "turn" = some (.int turn u) ∧ m "known" = some (.ref kv) ∧ m "tree" = some (.ref tv) ∧ m "k" = some (.int (k : Nat) tk)
    ∧ Grown M n root kn (es.map (·.2)) ∧ (∀ p ∈ kn.take k, ∀ y, y < n → M p y = true → y ∈ kn) ∧ c = n - k ∧ k ≤ n)
    (n := n) (t := (kv, isInts (natI [root])) :: (tv, isList []) :: (L, isNs _) :: l) (by walk_at "pick") ⟨_, _, [], 0, _, rfl, rfl, rfl, rfl, rfl, rfl, .nil, by simp, rfl, Nat.zero_le _⟩ ?_)
  rintro c lj KW1 hW1 ⟨m, kn, es, k, tk, rfl, hm1, hm2, hm3, hm4, hm5, hg, hcl, rfl, hkn⟩
  have hlen : kn.length ≤ n := nodup_le n kn hg.nodup (hg.lt hr)
  have hki : (natI kn).length = kn.length := by simp [natI]
  walk_at "go"
  refine T.lenI (by walk_at "mem") (by omega) fun t => ?_
  walk_at "go"
  rw [hki]
  by_cases hc1 : k < kn.length
  case neg =>
    rw [if_neg (by simpa using hc1), if_neg (by decide)]
    walk_at "go"
    refine hK _ _ ?_
    refine ⟨(tv, isList (es.reverse.map fun e => .ref e.1)) :: (es.map ent ++ l), by walk_at "pick", h tv kn es hg (.inr ?_)⟩
    rwa [List.take_of_length_le (by omega)] at hcl
  rw [if_pos (by simpa using hc1)]
  walk_at "go"
  refine T.lenI (by walk_at "mem") (by omega) fun t => ?_
  walk_at "go"
  refine T.lenL (xs := rows.map .ref) (by walk_at "mm") (by simp [hrows]; omega) fun t => ?_
  walk_at "go"
  rw [hki, List.length_map, hrows]
  by_cases hc2 : kn.length < n
  case neg =>
    rw [if_neg (by simpa using hc2), if_neg (by decide)]
    walk_at "go"
    refine hK _ _ ?_
    exact ⟨(tv, isList (es.reverse.map fun e => .ref e.1)) :: (es.map ent ++ l), by walk_at "pick", h tv kn es hg (.inl (by omega))⟩
  rw [if_pos (by simpa using hc2)]
  walk_at "go"
  rw [if_pos rfl]
  walk_at "go"
  refine T.lenL (xs := rows.map .ref) (by walk_at "mm") (by simp [hrows]; omega) fun t => ?_
  walk_at "go"
  rw [List.length_map, hrows]
  refine T.range1 fun r => ?_
  walk_at "go"
  refine T.iterRange (n := n) (by walk_at "mem") (small_of (by omega) (by omega) (.inl rfl)) (size_up rfl) fun it => ?_
  obtain ⟨p, hp⟩ : ∃ p, kn[k]? = some p := ⟨kn[k], by simp [hc1]⟩
  have hpl : p < n := hg.lt hr p (List.mem_of_getElem? hp)
  refine T.forLoop (rest := l) (lj₀ := (kv, isInts (natI kn)) :: (tv, isList (es.reverse.map fun e => .ref e.1)) :: (L, isNs m) :: es.map ent) (It.range hA.deeper.hh) (fun i lj => ∃ m kn' es', lj = (kv, isInts (natI kn')) :: (tv, isList (es'.reverse.map fun e => .ref e.1)) :: (L, isNs m) :: es'.map ent ∧ m "ahead" = some (.ref ah) ∧ m "turn" = some (.int turn u) ∧ m "known" = some (.ref kv) ∧ m "tree" = some (.ref tv) ∧ m "k" = some (.int (k : Nat) tk)
    ∧ Grown M n root kn' (es'.map (·.2)) ∧ (∀ x ∈ kn, x ∈ kn') ∧ kn'.take (k + 1) = kn.take (k + 1) ∧ kn'[k]? = some p ∧ ∀ j : Nat, j < i → ∀ y, ((j : Int) + turn).fmod n = (y : Nat) → M p y = true → y ∈ kn')
    (by walk_at "pick") ⟨_, kn, es, rfl, hm1, hm2, hm3, hm4, hm5, hg, fun _ h => h, rfl, hp, fun j hj => absurd hj (Nat.not_lt_zero _)⟩ (fun _ _ _ _ _ _ => trivial) ?_ ?_
  · rintro j v lj KQ hK hj ⟨tj, rfl⟩ ⟨m, kn', es', rfl, hm1, hm2, hm3, hm4, hm5, hg', hsub, htk, hpk, hdone⟩
    simp only [List.cons_append, List.nil_append] at hK ⊢
    have hlen' : kn'.length ≤ n := nodup_le n kn' hg'.nodup (hg'.lt hr)
    have hki' : (natI kn').length = kn'.length := by simp [natI]
    rw [show (0 : Int) + (j : Int) * 1 = (j : Int) by omega]
    walk_at "go"
    refine T.lenL (xs := rows.map .ref) (by walk_at "mm") (by simp [hrows]; omega) fun t => ?_
    walk_at "go"
    rw [List.length_map, hrows]
    refine T.mod (by omega) fun t => ?_
    have hn0 : (0 : Int) < n := by omega
    obtain ⟨y, hy⟩ : ∃ y : Nat, ((j : Int) + turn).fmod n = y := ⟨(((j : Int) + turn).fmod n).toNat, by
      rw [Int.fmod_eq_emod_of_nonneg _ (by omega)]
      exact (Int.toNat_of_nonneg (Int.emod_nonneg _ (by omega))).symm⟩
    have hyn : y < n := by
      have h1 := Int.emod_lt_of_pos ((j : Int) + turn) hn0
      rw [← Int.fmod_eq_emod_of_nonneg _ (by omega), hy] at h1; omega
    obtain ⟨rp, hrp⟩ : ∃ r, rows[p]? = some r := ⟨rows[p], by simp [hrows, hpl]⟩
    have hrow' := hrow p rp hrp
    rw [hy]
    walk_at "go"
    have hkI : (natI kn')[k]? = some (p : Int) := by simp [natI, hpk]
    refine T.itemI (by walk_at "mem") (by omega) (by omega) (by simpa using hkI) fun t => ?_
    try dsimp only
    refine T.item (xs := rows.map .ref) (v := .ref rp) (by walk_at "mm") (by omega) (by omega) (by simp [hrp]) ?_
    walk_at "go"
    refine T.item (xs := boolRow M n p) (v := .bool (M p y)) (by walk_at "mm") (by omega) (by omega) (by simp [boolRow, hyn]) ?_
    walk_at "go"
    have fin : ∀ kn'' : List Nat, (∀ x ∈ kn', x ∈ kn'') → (M p y = true → y ∈ kn'') → ∀ i : Nat, i < j + 1 → ∀ z, ((i : Int) + turn).fmod n = (z : Nat) → M p z = true → z ∈ kn'' := by
      intro kn'' h1 h2 i hi z hz hM
      by_cases e : i = j
      · subst e
        have : z = y := by omega
        rw [this] at hM ⊢; exact h2 hM
      · exact h1 _ (hdone i (by omega) z hz hM)
    cases hM : M p y with
    | false =>
      rw [if_neg (by decide), if_neg (by decide)]
      walk_at "go"
      refine hK _ _ ?_
      refine ⟨(kv, isInts (natI kn')) :: (tv, isList (es'.reverse.map fun e => .ref e.1)) :: (L, isNs _) :: es'.map ent, by walk_at "pick", ?_⟩
      exact ⟨_, kn', es', rfl, hm1, hm2, hm3, hm4, hm5, hg', hsub, htk, hpk, fin kn' (fun _ h => h) (fun e => absurd (hM.symm.trans e) (by decide))⟩
    | true =>
      rw [if_pos rfl]
      walk_at "go"
      refine T.notinI (by walk_at "mem") ?_
      walk_at "go"
      rw [any_natI]
      by_cases hc : y ∈ kn'
      · rw [if_neg (by simp [hc]), if_neg (by decide)]
        walk_at "go"
        refine hK _ _ ?_
        refine ⟨(kv, isInts (natI kn')) :: (tv, isList (es'.reverse.map fun e => .ref e.1)) :: (L, isNs _) :: es'.map ent, by walk_at "pick", ?_⟩
        exact ⟨_, kn', es', rfl, hm1, hm2, hm3, hm4, hm5, hg', hsub, htk, hpk, fin kn' (fun _ h => h) (fun _ => hc)⟩
      · rw [if_pos (by simp [hc])]
        walk_at "go"
        rw [if_pos rfl]
        walk_at "go"
        refine T.gmInts (by walk_at "mem") F.slot_list_append F.type_list_append ?_
        walk_at "go"
        refine T.appI (by walk_at "rep") (by rw [hki']; have : sizeLine = 2 ^ 24 := rfl; omega) ?_
        refine ⟨trivial, ?_⟩
        walk_at "go"
        refine T.gmList (by walk_at "mem") F.slot_list_append F.type_list_append ?_
        walk_at "go"
        have hkI : (natI kn' ++ [(y : Int)])[k]? = some (p : Int) := by
          have hk' : k < kn'.length := by
            rcases Nat.lt_or_ge k kn'.length with h | h
            · exact h
            · rw [List.getElem?_eq_none h] at hpk; cases hpk
          rw [List.getElem?_append_left (by omega)]; simp [natI, hpk]
        refine T.itemI (by walk_at "mem") (by omega) (by omega) (by simpa using hkI) fun t => ?_
        walk_at "go"
        refine T.newI (ns := [(p : Int), (y : Int)]) (.cons _ _ (.cons _ _ .nil)) fun ev => ?_
        walk_at "go"
        have hes := hg'.len
        rw [List.length_map] at hes
        refine T.appL (by walk_at "rep") (by have : sizeLine = 2 ^ 24 := rfl; rw [List.length_map, List.length_reverse]; omega) ?_
        refine ⟨trivial, ?_⟩
        walk_at "go"
        have e0 : ∀ m' : Str → Option Value, (kv, isInts (natI kn' ++ [(y : Int)])) :: (tv, isList ((es'.reverse.map fun e => Value.ref e.1) ++ [.ref ev])) :: (L, isNs m') :: (ev, isInts [(p : Int), (y : Int)]) :: es'.map ent =
            (kv, isInts (natI (kn' ++ [y]))) :: (tv, isList (((ev, p, y) :: es').reverse.map fun e => Value.ref e.1)) :: (L, isNs m') :: ((ev, p, y) :: es').map ent := by
          intro m'
          rw [show natI (kn' ++ [y]) = natI kn' ++ [(y : Int)] by simp [natI], List.reverse_cons, List.map_append]; rfl
        refine hK _ _ ?_
        refine ⟨(kv, isInts (natI kn' ++ [(y : Int)])) :: (tv, isList ((es'.reverse.map fun e => .ref e.1) ++ [.ref ev])) :: (L, isNs _) :: (ev, isInts [(p : Int), (y : Int)]) :: es'.map ent, by walk_at "pick", ?_⟩
        refine ⟨_, kn' ++ [y], (ev, p, y) :: es', e0 _, hm1, hm2, hm3, hm4, hm5,
          hg'.step (List.mem_of_getElem? hpk) hM hc hyn, fun x hx => List.mem_append_left _ (hsub x hx), ?_, ?_, fin _ (fun _ h => List.mem_append_left _ h) (fun _ => by simp)⟩
        · rw [List.take_append_of_le_length (by have := (List.getElem?_eq_some_iff.mp hpk).1; omega)]; exact htk
        · rw [List.getElem?_append_left (List.getElem?_eq_some_iff.mp hpk).1]; exact hpk
  · rintro lj ⟨m, kn', es', rfl, hm1, hm2, hm3, hm4, hm5, hg', hsub, htk, hpk, hdone⟩
    simp only [List.cons_append, List.nil_append]
    walk_at "go"
    refine hW1 _ _ ?_
    refine ⟨n - (k + 1), (kv, isInts (natI kn')) :: (tv, isList (es'.reverse.map fun e => .ref e.1)) :: (L, isNs _) :: (es'.map ent ++ l), by omega, by walk_at "pick", ?_⟩
    refine ⟨_, kn', es', k + 1, _, rfl, hm1, hm2, hm3, hm4, rfl, hg', ?_, rfl, by omega⟩
    intro q hq y hy hM
    rw [htk] at hq
    rw [List.take_add_one, hp] at hq
    rcases List.mem_append.mp hq with hq | hq
    · exact hsub _ (hcl q hq y hy hM)
    · simp at hq
      obtain ⟨j, hj, he⟩ := turn_onto hn ht hy
      exact hdone j hj y he (by rw [← hq]; exact hM)
end

def others (h : Heap) (x L : Addr) : List (Addr × Obj) := (List.range h.objs.size).filterMap fun a => if a = x ∨ a = L then none else (h.get? a).map fun o => (a, o)
theorem mem_others {h : Heap} {x L a : Addr} {o : Obj} : (a, o) ∈ others h x L ↔ a ≠ x ∧ a ≠ L ∧ h.get? a = some o := by
  unfold others
  rw [List.mem_filterMap]
  constructor
  · rintro ⟨c, hc, e⟩
    split at e
    · cases e
    · rename_i hn
      cases q : h.get? c with
      | none => rw [q] at e; cases e
      | some o' => rw [q] at e; cases e; exact ⟨fun e => hn (.inl e), fun e => hn (.inr e), q⟩
  · rintro ⟨h1, h2, h3⟩
    exact ⟨a, List.mem_range.mpr (Heap.lt_size h3), by rw [if_neg (fun e => e.elim h1 h2), h3]; rfl⟩
theorem get_empty (a : Addr) : ({} : Heap).get? a = none := by unfold Heap.get?; rfl
theorem S.news {h₀ h : Heap} {l : Led} {x L : Addr} {ox : Obj} {m : Str → Option Value} (H : S h₀ l h) (hL : (L, isNs m) ∈ l) (hx : h.get? x = some ox) (hne : x ≠ L) : Fr {} L h m ∧ News {} L h ((x, ox) :: others h x L) := by
  refine ⟨⟨H.ns hL, fun b o e => (by rw [get_empty] at e; cases e), Nat.zero_le _⟩, fun q hq => ?_⟩
  rcases List.mem_cons.mp hq with rfl | hq
  · exact ⟨hx, hne, get_empty _⟩
  · obtain ⟨a, o⟩ := q
    obtain ⟨h1, h2, h3⟩ := mem_others.mp hq
    exact ⟨h3, h2, get_empty _⟩
theorem Rep.other {a : Addr} {p p' : OP} {l l' : Led} (R : Rep a p p' l l') : ∀ q ∈ l, q.1 ≠ a → q ∈ l' := by
  obtain ⟨u, v, rfl, rfl⟩ := R.split
  intro q hq hn
  rcases List.mem_append.mp hq with h | h
  · exact List.mem_append_left _ h
  · rcases List.mem_cons.mp h with rfl | h
    · exact absurd rfl hn
    · exact List.mem_append_right _ (.tail _ h)
theorem Rep.back {a : Addr} {p p' : OP} {l l' : Led} (R : Rep a p p' l l') : ∀ q ∈ l', q = (a, p') ∨ q ∈ l := by
  obtain ⟨u, v, rfl, rfl⟩ := R.split
  intro q hq
  rcases List.mem_append.mp hq with h | h
  · exact .inr (List.mem_append_left _ h)
  · rcases List.mem_cons.mp h with rfl | h
    · exact .inl rfl
    · exact .inr (List.mem_append_right _ (.tail _ h))
theorem Rep.keys {a : Addr} {p p' : OP} {l l' : Led} (R : Rep a p p' l l') : l'.map (·.1) = l.map (·.1) := by
  obtain ⟨u, v, rfl, rfl⟩ := R.split; simp
theorem nodup_key {l : Led} (hd : (l.map (·.1)).Nodup) {a : Addr} {p q : OP} (hp : (a, p) ∈ l) (hq : (a, q) ∈ l) : p = q := by
  induction l with
  | nil => cases hp
  | cons x r ih =>
    simp only [List.map_cons, List.nodup_cons] at hd
    rcases List.mem_cons.mp hp with e | hp
    · rcases List.mem_cons.mp hq with e' | hq2
      · rw [← e] at e'; cases e'; rfl
      · have := List.mem_map_of_mem (f := (·.1)) hq2
        rw [← e] at hd; exact absurd this hd.1
    · rcases List.mem_cons.mp hq with e' | hq2
      · have := List.mem_map_of_mem (f := (·.1)) hp
        rw [← e'] at hd; exact absurd this hd.1
      · exact ih hd.2 hp hq2
theorem S.ofNews {h₀ h h' : Heap} {l l' : Led} {x L : Addr} {ox' : Obj} {p p' : OP} {m : Str → Option Value} (H : S h₀ l h) (R : Rep x p p' l l') (hL : (L, isNs m) ∈ l) (F : Fr {} L h' m) (N : News {} L h' ((x, ox') :: others h x L)) (hp : p' ox') : S h₀ l' h' := by
  have kp : ∀ b o, b ≠ x → b ≠ L → h.get? b = some o → h'.get? b = some o := fun b o h1 h2 e => (N _ (.tail _ (mem_others.mpr ⟨h1, h2, e⟩))).1
  have fx : h₀.get? x = none := H.fresh _ R.mem
  have fL : h₀.get? L = none := H.fresh _ hL
  have nd : (l'.map (·.1)).Nodup := by rw [R.keys]; exact H.nd
  refine ⟨fun b o e => kp b o (fun q => by rw [q, fx] at e; cases e) (fun q => by rw [q, fL] at e; cases e) (H.keep b o e), fun q hq => ?_, fun q hq => ?_, nd⟩
  · obtain ⟨a, pa⟩ := q
    by_cases h1 : a = x
    · subst h1
      rcases R.back _ hq with e | hq'
      · cases e; exact ⟨ox', (N _ (.head _)).1, hp⟩
      · have := nodup_key nd hq (R.split.elim fun u ⟨v, e1, e2⟩ => by rw [e2]; exact List.mem_append_right _ (.head _) : (a, p') ∈ l')
        rw [this]; exact ⟨ox', (N _ (.head _)).1, hp⟩
    · by_cases h2 : a = L
      · subst h2
        rw [nodup_key nd hq (R.other _ hL h1)]
        exact isNs_of F.ns
      · rcases R.back _ hq with e | hq'
        · cases e; exact absurd rfl h1
        · obtain ⟨o, e, r⟩ := H.led _ hq'; exact ⟨o, kp _ _ h1 h2 e, r⟩
  · rcases R.back _ hq with rfl | hq'
    · exact fx
    · exact H.fresh _ hq'

theorem ns_cls {m : Str → Option Value} {o : Obj} (c : Value) (h : isNs m o) : isNs m { o with cls := c } := h
theorem isO_ne {o : Obj} {m : Str → Option Value} : isO o ≠ isNs m := fun e => by
  have h : isNs m o := e ▸ (rfl : isO o o)
  have h1 : isO o { o with cls := .bool true } := e ▸ ns_cls (.bool true) h
  have h2 : isO o { o with cls := .bool false } := e ▸ ns_cls (.bool false) h
  have h3 : ({ o with cls := .bool true } : Obj).cls = ({ o with cls := .bool false } : Obj).cls := congrArg Obj.cls ((show _ = o from h1).trans (show _ = o from h2).symm)
  cases h3
theorem S.ne {h₀ h : Heap} {l : Led} {a L : Addr} {p : OP} {m : Str → Option Value} (H : S h₀ l h) (ha : (a, p) ∈ l) (hL : (L, isNs m) ∈ l) (hp : p ≠ isNs m) : a ≠ L := fun e => by
  subst e; exact hp (nodup_key H.nd ha hL)

/-- the entries of a made object's own dict: names and values in order -/
inductive Ats : List DictEntry → List (Str × Value) → Prop
  | nil : Ats [] []
  | cons {es xs} (h : Int) (k : Str) (t : Tok) (v : Value) : Ats es xs → Ats (⟨h, .str k t, v⟩ :: es) ((k, v) :: xs)
def isAt (xs : List (Str × Value)) : OP := fun o => ∃ es n, o = dictOf es n ∧ Ats es xs
def setA (x : Str) (v : Value) : List (Str × Value) → List (Str × Value)
  | [] => [(x, v)]
  | (k, u) :: r => if k = x then (k, v) :: r else (k, u) :: setA x v r
theorem isStr_str {k x : Str} {t : Tok} : (Value.str k t).isStr x = (k == x) := by
  unfold Value.isStr; rfl
theorem Ats.len {es xs} (a : Ats es xs) : es.length = xs.length := by
  induction a with
  | nil => rfl
  | cons _ _ _ _ _ ih => simp [ih]
theorem Ats.noRef {es xs} (a : Ats es xs) : es.any (·.refKey) = false := by
  induction a with
  | nil => rfl
  | cons _ _ _ _ _ ih => rw [List.any_cons, ih]; rfl
theorem Ats.get {es xs} (a : Ats es xs) (x : Str) : getL x es = some (xs.lookup x) := by
  have key : (es.find? (·.key.isStr x)).map (·.val) = xs.lookup x := by
    induction a with
    | nil => rfl
    | cons h k t v _ ih =>
      rw [List.find?_cons, List.lookup_cons, isStr_str]
      by_cases e : k = x
      · subst e; simp
      · rw [beq_false_of_ne e, beq_false_of_ne (Ne.symm e)]; exact ih
  unfold getL
  cases q : es.find? (·.key.isStr x) with
  | some e => rw [q] at key; rw [← key]; rfl
  | none => rw [q] at key; simp only [a.noRef]; rw [← key]; rfl
theorem Ats.put {es xs} (a : Ats es xs) (x : Str) (h : Int) (t : Tok) (v : Value) : Ats (putL x h (.str x t) v es) (setA x v xs) := by
  induction a with
  | nil => exact .cons _ _ _ _ .nil
  | cons h' k t' u a ih =>
    unfold putL setA
    simp only [isStr_str]
    by_cases e : k = x
    · rw [if_pos (by simpa using e), if_pos e]; exact .cons _ _ _ _ a
    · rw [if_neg (by simpa using e), if_neg e]; exact .cons _ _ _ _ ih
theorem setA_len (x : Str) (v : Value) : ∀ xs, (setA x v xs).length ≤ xs.length + 1
  | [] => Nat.le_refl _
  | (k, u) :: r => by
    unfold setA
    split
    · simp
    · have := setA_len x v r; simp only [List.length_cons]; omega
theorem isAt_ne {xs : List (Str × Value)} {m : Str → Option Value} : isAt xs ≠ isNs m := fun e => by
  by_cases h : ∃ o, isAt xs o
  · obtain ⟨o, ho⟩ := h
    have h1 : isNs m o := e ▸ ho
    obtain ⟨es, n, h2, -⟩ : isAt xs { o with cls := .none } := e ▸ ns_cls .none h1
    have := congrArg Obj.cls h2
    cases this
  · exact h ⟨dictOf (xs.map fun p => ⟨0, .str p.1 0, p.2⟩) 0, _, _, rfl, by
      clear h e
      induction xs with
      | nil => exact .nil
      | cons p r ih => exact .cons _ _ _ _ ih⟩
theorem inst_at {h : Heap} {x C dx : Addr} {od : Obj} (hx : h.get? x = some (instObj C dx)) (hd : h.get? dx = some od) : InstAt h x (instObj C dx) C (some od) := ⟨hx, rfl, rfl, hd⟩
/-- the pieces of K stand in every heap that bears l -/
def Kin (b : Bs) (l : Led) (K : Frag) : Prop := ∀ s, In b l s → K.In s.heap
theorem kin (b : Bs) (l : Led) : Kin b l (hd.heap_1 b.w.params) := fun s I => b.B.X.keeps I.st.keep
namespace T
section
variable {b : Bs} {A : Around} {l l' : Led} {Q : Value → Led → Prop} {x C dx L f : Addr} {xs : List (Str × Value)} {name : Str} {v : Value} {m : Str → Option Value} {K : Frag}
theorem getA {at_ : Option Value} (X : Kin b l K) (hx : (x, isO (instObj C dx)) ∈ l) (hda : (dx, isAt xs) ∈ l) (hg : plainGet K C name = true) (hh : hasDictIn K C = true) (ha : findIn K (.ref C) name = some at_)
    (hn : noGet K at_ = true) (hl : xs.lookup name = some v) (hv : handedIn v = true) (h : Q v l) {e : Bool} : T b A (getAttr (.ref x) name e) Q l := fun s I => by
  obtain ⟨o, e1, rfl⟩ := I.st.get hx
  obtain ⟨o, e2, es, n, rfl, at1⟩ := I.st.get hda
  exact get_value (X s I) (inst_at e1 e2) (plainGet_of hg).1 (findObj_own hh ha hn (by rw [lookIn_dict, at1.get, hl])) hv ⟨l, I.up I.st, h⟩
theorem setAt (X : Kin b l K) (hx : (x, isO (instObj C dx)) ∈ l) (R : Rep dx (isAt xs) (isAt (setA name v xs)) l l') (hL : (L, isNs m) ∈ l) (hs : findIn K (.ref C) "__setattr__" = some (some (.builtin "object.__setattr__"))) (hp : plainOver K C = true)
    (ht : takerIn K C name = some none) (hh : hasDictIn K C = true) (hz : xs.length ≤ 100) {Q : Unit → Led → Prop} (h : Q () l') : T b A (setAttr (.ref x) name v) Q l := fun s I => by
  obtain ⟨o, e1, rfl⟩ := I.st.get hx
  obtain ⟨o, e2, es, n, rfl, at1⟩ := I.st.get R.mem
  obtain ⟨F, N⟩ := I.st.news hL e2 (I.st.ne R.mem hL isAt_ne)
  have X' := X s I
  refine set_plain X' (inst_at e1 e2) hs (osa_dict (pre := []) (s := { s with toks := s.toks + 1 }) F N X' (inst_at e1 e2) rfl hp ht hh (by rw [lookIn_dict, at1.get]; rfl) (fun _ h => nomatch h) (fun p hp => (mem_others.mp hp).1) (putName_dict ..) rfl ?_ fun h' F' N' => ?_)
  · rw [(at1.put ..).len]; have := setA_len name v xs; omega
  · exact ⟨l', I.up (I.st.ofNews R hL F' N' ⟨_, _, rfl, at1.put ..⟩), h⟩
theorem gmInst {pl : Sem Bool} {Q : Value × List Value → Led → Prop} (X : Kin b l K) (hx : (x, isO (instObj C dx)) ∈ l) (hda : (dx, isAt xs) ∈ l) (hg : plainGet K C name = true) (hf : findIn K (.ref C) name = some (some (.ref f)))
    (ht : isFn K (.ref f) = true) (hl : xs.lookup name = none) (h : Q (.ref f, [.ref x]) l) : T b A (getMethod (.ref x) name pl) Q l := fun s I => by
  obtain ⟨o, e1, rfl⟩ := I.st.get hx
  obtain ⟨o, e2, es, n, rfl, at1⟩ := I.st.get hda
  refine method_fn (X s I) (inst_at e1 e2) (plainGet_of hg).1 (plainGet_of hg).2 hf (beq_iff_eq.mp ht) ?_ ⟨l, I, h⟩
  show (lookIn name (dictOf es n)).map _ = _
  rw [lookIn_dict, at1.get, hl]; rfl
end
end T

def slotObj (C dx : Addr) (vs : List Value) : Obj := { cls := .ref C, dict := some dx, data := .plain, slots := (vs.map some).toArray }
theorem slot_at {h : Heap} {x C dx : Addr} {vs : List Value} {od : Obj} (hx : h.get? x = some (slotObj C dx vs)) (hd : h.get? dx = some od) : InstAt h x (slotObj C dx vs) C (some od) := ⟨hx, rfl, rfl, hd⟩
/-- a slotted object: what its class gives for a slot -/
structure SlotOf (K : Frag) (C p : Addr) (name : Str) (i : Nat) : Prop where
  gt : plainGet K C name = true
  cl : isClsIn K C = true
  fd : findIn K (.ref C) name = some (some (.ref p))
  get : specialIn K (.ref p) "__get__" = some (some (.builtin "member_descriptor.__get__"))
  tk : takesIn K (.ref p) = some true
  sl : slotIn K p C = some i
  st : findIn K (.ref C) "__setattr__" = some (some (.builtin "object.__setattr__"))
  pl : plainOver K C = true
  tr : takerIn K C name = some (some (.ref p))
  ty : typeIn K (.ref p) = some (.type "member_descriptor")
namespace T
section
variable {b : Bs} {A : Around} {l l' : Led} {Q : Value → Led → Prop} {x C dx L p : Addr} {i : Nat} {vs : List Value} {name : Str} {v : Value} {m : Str → Option Value} {K : Frag} {od : Obj}
theorem getS (X : Kin b l K) (Y : SlotOf K C p name i) (hx : (x, isO (slotObj C dx vs)) ∈ l) (hda : (dx, isO od) ∈ l) (hl : vs[i]? = some v) (hv : handedIn v = true) (h : Q v l) {e : Bool} : T b A (getAttr (.ref x) name e) Q l := fun s I => by
  obtain ⟨o, e1, rfl⟩ := I.st.get hx
  obtain ⟨o, e2, rfl⟩ := I.st.get hda
  have X' := X s I
  refine get_bind X' (slot_at e1 e2) (plainGet_of Y.gt).1 (findObj_data Y.cl Y.fd Y.get Y.tk) (plainGet_of Y.gt).2 (wpAny_call (slot_get (s := { s with toks := s.toks + 1 }) X' (slot_at e1 e2) Y.sl (v := v) ?_ (handed_on hv ⟨l, I.up I.st, h⟩)))
  simp [slotObj, hl]
theorem setS {vs' : List Value} (X : Kin b l K) (Y : SlotOf K C p name i) (R : Rep x (isO (slotObj C dx vs)) (isO (slotObj C dx vs')) l l') (hda : (dx, isO od) ∈ l) (hL : (L, isNs m) ∈ l) (hi : i < 100)
    (hz : (if i < vs.length then vs.set i v else vs ++ [v]) = vs') (hz' : i ≤ vs.length) {Q : Unit → Led → Prop} (h : Q () l') : T b A (setAttr (.ref x) name v) Q l := fun s I => by
  obtain ⟨o, e1, rfl⟩ := I.st.get R.mem
  obtain ⟨o, e2, rfl⟩ := I.st.get hda
  obtain ⟨F, N⟩ := I.st.news hL e1 (I.st.ne R.mem hL isO_ne)
  have X' := X s I
  refine set_plain X' (slot_at e1 e2) Y.st (osa_descr (s := { s with toks := s.toks + 1 }) KF.slot_mset X' (slot_at e1 e2) Y.pl Y.tr Y.ty (slot_set (pre := []) (ox' := slotObj C dx vs') (s := { s with toks := s.toks + 1 }) F N X' (slot_at e1 e2) Y.sl (by omega) (fun _ h => nomatch h) (fun p hp => (mem_others.mp hp).1) ?_ rfl fun h' F' N' => ?_))
  · subst hz
    unfold slotObj
    simp only [List.size_toArray, List.length_map]
    by_cases hlt : i < vs.length
    · rw [if_pos hlt, show i + 1 - vs.length = 0 by omega]
      simp [List.map_set]
    · have : i = vs.length := by omega
      subst this
      rw [if_neg hlt, show vs.length + 1 - vs.length = 1 by omega]
      congr 1
      apply Array.ext'
      simp
  · exact ⟨l', I.up (I.st.ofNews R hL F' N' rfl), h⟩
end
end T
section
variable {P : Params}
theorem slotN : SlotOf (hd.heap_1 P) 76 77 "node" 0 := ⟨by kernel_rfl, by kernel_rfl, by kernel_rfl, by kernel_rfl, by kernel_rfl, by kernel_rfl, by kernel_rfl, by kernel_rfl, by kernel_rfl, by kernel_rfl⟩
theorem slotP : SlotOf (hd.heap_1 P) 76 78 "npredecessors" 1 := ⟨by kernel_rfl, by kernel_rfl, by kernel_rfl, by kernel_rfl, by kernel_rfl, by kernel_rfl, by kernel_rfl, by kernel_rfl, by kernel_rfl, by kernel_rfl⟩
theorem slotU : SlotOf (hd.heap_1 P) 76 79 "successors" 2 := ⟨by kernel_rfl, by kernel_rfl, by kernel_rfl, by kernel_rfl, by kernel_rfl, by kernel_rfl, by kernel_rfl, by kernel_rfl, by kernel_rfl, by kernel_rfl⟩
end

theorem Ok.under {A : Around} {n : Nat} {C : Addr} {vals : List Value} (x : Ok A (n + 1)) : Ok (A.under (.builtin "type.__call__" ⟨.ref C :: vals, []⟩)) n :=
  ⟨x.hh, by have := x.dep; rw [depth_under_kw]; omega, by have := x.un; rw [units_under_make]; omega⟩
/-- the code's triple: it ends in a value -/
def TK (b : Bs) (A : Around) (c : Code) (Q : Value → Led → Prop) (l : Led) : Prop :=
  ∀ s, In b l s → codeAny (model pg b.w) A c (fun r s' => match r with | .ok (.ret v) => ∃ l', In b l' s' ∧ Q v l' | _ => False) s
namespace T
section
variable {b : Bs} {A : Around} {l : Led} {Q : Value → Led → Prop} {K : Frag} {C fI : Addr} {rest : List Value}
theorem ofTK {f : Value} {args : List Value} {kw : List (Str × Value)} (h : TK b A (.call f ⟨args, kw⟩) Q l) : T b A (call f args kw) Q l := fun s I =>
  wpAny_call (codeAny_mono (h s I) fun r s' z => by rcases r with e | (v | _ | _ | _) <;> first | exact z | exact z.elim)
theorem enterK {n : Nat} {name qual : Str} {params : Arguments} {body : List Stmt} {scope : Scope} {dV kV doc pm cdv ct oc : Value} {an od : Option Addr} {osl : Array (Option Value)} {f : Addr} {args : Args} {binds : List (Str × Value)}
    (hA : Ok A (n + 1)) (ho : (hd.heap_1 b.w.params).lookup f = some ⟨oc, od, .func (fnOf name qual params body scope dV kV doc pm an cdv ct), osl⟩) (hcd : codeIn (hd.heap_1 b.w.params) cdv qual = true)
    (hbind : ∀ s, In b l s → BindsTo s (fnOf name qual params body scope dV kV doc pm an cdv ct) args binds) (hloc : (binds.all fun x => decide (scope.names.lookup x.1 = some .local)) = true)
    (h : ∀ L (K : Flow → Led → Prop), (∀ fl l', Out (Q (match fl with | .ret v => v | _ => .none)) l' → K fl l') → T b (A.deeper (envX qual scope L f cdv [])) (execs body (envX qual scope L f cdv [])) K ((L, isNs (ofB binds)) :: l))
    (hcell : ∀ x ∈ scope.names, x.2 ≠ .cell := by decide) (hco : scope.isCoroutine = false := by k_dflt rfl) (hgen : scope.isGenerator = false := by k_dflt rfl) (hk : scope.kind = .function := by k_dflt rfl) :
    TK b A (.call (.ref f) args) Q l := fun s I =>
  Mine.enterC b.B I.st hA.room ho hcd (hbind s I) hloc (fun L h₁ tk H => (h L _ fun _ _ x => x).to (I.up H) fun fl s' l' I' ⟨t, x, h'⟩ => ⟨t, I'.pick x, h'⟩) hcell hco hgen hk
theorem make (X : Kin b l K) (hm : makesIn K C = true) (hi : findIn K (.ref C) "__init__" = some (some (.ref fI))) (hf : typeIn K (.ref fI) = some (.type "function"))
    (h : ∀ x dx, TK b (A.under (.builtin "type.__call__" ⟨.ref C :: rest, []⟩)) (.call (.ref fI) ⟨.ref x :: rest, []⟩) (fun r l' => r = .none ∧ Q (.ref x) l') ((x, isO (instObj C dx)) :: (dx, isO emptyDict) :: l)) : T b A (call (.ref C) rest) Q l := fun s I => by
  refine wpAny_call ?_
  have X' := X s I
  have H1 := I.st.push (p := isO emptyDict) (o := emptyDict) rfl
  have H2 := H1.push (p := isO (instObj C s.heap.objs.size)) (o := instObj C s.heap.objs.size) rfl
  rw [Heap.size_push] at H2
  have I2 := I.up (tk := s.toks) H2
  have h' := h _ _ _ I2
  obtain ⟨hh, g, d, t, os⟩ := s
  refine make_core (makes_of X' hm) (looks_findIn X' hi) (fun self => bind_fn X' self hf) (.inl rfl) (codeAny_mono h' fun r s' z => ?_)
  rcases r with e | (v | _ | _ | _)
  · exact z.elim
  · exact z.elim
  · exact z.elim
  · exact z.elim
  · obtain ⟨l', I', e, q⟩ := z; exact ⟨e, l', I', q⟩
end
end T

namespace T
section
variable {b : Bs} {A : Around} {l : Led} {env : Env} {pos pos' : Pos}
end
end T
section
variable {b : Bs} {A : Around} {l : Led} {n d : Nat}
set_option maxHeartbeats 8000000 in
theorem nodeT {i : Int} {t : Tok} {Q : Value → Led → Prop} (hA : Ok A (d + 2)) (h : ∀ x dx sx t', Q (.ref x) ((x, isO (slotObj 76 dx [.int i t, .int 0 t', .ref sx])) :: (dx, isO emptyDict) :: (sx, isInts []) :: l)) : T b A (call (.ref 76) [.int i t]) Q l := by
  refine T.make (kin b l) (by kernel_rfl) (fI := 72) (by kernel_rfl) (by kernel_rfl) fun x dx => ?_
  refine T.enterK (binds := [("self", .ref x), ("node", .int i t)]) (Ok.under hA) (by exact rfl) (by kernel_rfl) (fun _ _ => BindsTo.of_eq rfl) (by rfl) (fun L K hK => ?_)
  walk_at "go"
  (try refine T.asgA ?_)
  walk_at "go"
  refine T.setS (vs := []) (vs' := [.int i t]) (kin _ _) slotN (.tail .head) (by walk_at "mem") (.head _) (by decide) rfl (by simp) ?_
  walk_at "go"
  (try refine T.asgA ?_)
  walk_at "go"
  refine T.setS (vs := [.int i t]) (vs' := [.int i t, .int 0 _]) (kin _ _) slotP (.tail .head) (by walk_at "mem") (.head _) (by decide) rfl (by simp) ?_
  walk_at "go"
  (try refine T.asgA ?_)
  walk_at "go"
  refine T.newI .nil fun sx => ?_
  walk_at "go"
  refine T.setS (vs := [.int i t, .int 0 _]) (vs' := [.int i t, .int 0 _, .ref sx]) (kin _ _) slotU (.tail (.tail .head)) (by walk_at "mem") (by walk_at "mem") (by decide) rfl (by simp) ?_
  walk_at "go"
  refine hK _ _ ?_
  exact ⟨(x, _) :: (dx, _) :: (sx, _) :: l, by walk_at "pick", rfl, h _ _ _ _⟩
end

def isDict (b : Bs) (kvs : List (Int × Value)) : OP := fun o => o.IsDictOf (intKind pg b.w) kvs
theorem In.big {b : Bs} {l : Led} {s : Shared} (I : In b l s) : (s.heap.objs.size == sysModules) = false := by
  have h : s.heap.get? 47 ≠ none := by
    obtain ⟨o, vs, file, tf, flags, tg, inF, text, tt, e, r⟩ := b.B.code47.keeps I.st.keep
    rw [e]; simp
  have h2 : 47 < s.heap.objs.size := by
    cases e : s.heap.get? 47 with
    | none => exact absurd e h
    | some o => exact Heap.lt_size e
  exact beq_false_of_ne (fun e => by rw [e] at h2; exact absurd h2 (by decide))
theorem S.dict {b : Bs} {h₀ h : Heap} {l : Led} {d : Addr} {kvs : List (Int × Value)} (H : S h₀ l h) (hm : (d, isDict b kvs) ∈ l) : h.DictOf (intKind pg b.w) d kvs := by
  obtain ⟨o, e, r⟩ := H.get hm; exact Heap.dictOf_iff.mpr ⟨o, e, r⟩
namespace T
section
variable {b : Bs} {A : Around} {l l' : Led} {env : Env} {pos : Pos} {Q : Value → Led → Prop} {d : Addr} {kvs : List (Int × Value)} {i : Int} {t : Tok} {v : Value}
theorem newD (h : ∀ d, (d == sysModules) = false → Q (.ref d) ((d, isDict b []) :: l)) : T b A (eval (.Dict [] [] pos) env) Q l := fun s I =>
  wpAny_Dict_empty ⟨_, I.up (tk := s.toks) (I.st.push ⟨#[], 0, ⟨rfl, rfl, rfl⟩, rfl, fun e he => by simp at he, .nil, by simp⟩), h _ I.big⟩
theorem gmDict {name : Str} {id : String} {pl : Sem Bool} {Q : Value × List Value → Led → Prop} (hm : (d, isDict b kvs) ∈ l) (slot : Slot "dict" name id) (hty : typeOf (.builtin id) = pure (.type "method_descriptor")) (h : Q (.builtin id, [.ref d]) l) : T b A (getMethod (.ref d) name pl) Q l := fun s I =>
  have D := I.st.dict hm
  getMethod_builtin D.typeIs PySem.F.plainAttrs_dict slot hty D.mapOf.noDict ⟨l, I, h⟩
theorem dGet (hm : (d, isDict b kvs) ∈ l) (lo : (d == sysModules) = false) (h : Q ((valueAt kvs i).getD .none) l) : T b A (call (.builtin "dict.get") [.ref d, .int i t]) Q l := fun s I =>
  have D := I.st.dict hm
  call_meetsIn PySem.F.slot_dict_get D.typeIs PySem.F.entry_dict_get (PySem.F.args_dict_get_2 _ _) (meets_dict_get (intKind pg b.w) d (intKind_is _ _ i t) lo) ⟨_, D.mapOf, l, I.up I.st, h⟩
theorem dItem {value slice : Expr} (hm : (d, isDict b kvs) ∈ l) (hv : valueAt kvs i = some v) (h : Q v l) (hs : subscripted slice false (.ref d) (.int i t) = operate [.ref d, .int i t] (getItem (.ref d) (.int i t)) := by with_unfolding_all rfl) : T b A (subscriptTail value slice (.ref d) (.int i t)) Q l := fun s I =>
  have D := I.st.dict hm
  PyProof.Rows.tail_any D.typeIs slot_dict_getitem.lookup (wpAny_getItem_of (intKind_is _ _ i t) D.mapOf hv ⟨l, I.up I.st, h⟩) hs
theorem dSet {Q : Unit → Led → Prop} (R : Rep d (isDict b kvs) (isDict b (stored kvs i v)) l l') (hz : kvs.length ≤ 1000) (h : Q () l') : T b A (setItem (.ref d) (.int i t) v) Q l := fun s I =>
  wpAny_setItem_pairs (hsz := by have : sizeLine = 2 ^ 24 := rfl; omega) (intKind_is _ _ i t) (I.st.dict R.mem) fun h' hd hs => ⟨l', I.up (I.st.same R hs (Heap.dictOf_iff.mp hd)), h⟩
theorem dIn (hm : (d, isDict b kvs) ∈ l) (lo : (d == sysModules) = false) (h : Q (.bool (valueAt kvs i).isSome) l) : T b A (compareOp .In (.int i t) (.ref d)) Q l := fun s I =>
  wpAny_in_of (intKind_is _ _ i t) lo (I.st.dict hm).mapOf ⟨l, I.up I.st, h⟩
end
end T

def isSet (b : Bs) (S : Int → Bool) (n : Nat) : OP := fun o => ∃ (h : Heap) (a : Addr), h.get? a = some o ∧ h.SetOf (intKind pg b.w) a S n
theorem set_of {b : Bs} {h : Heap} {a : Addr} {S : Int → Bool} {n : Nat} {o : Obj} (e : h.get? a = some o) (x : isSet b S n o) : h.SetOf (intKind pg b.w) a S n := by
  obtain ⟨h', a', e', o', es, ep, t, g, r⟩ := x
  rw [e'] at g; cases g
  exact ⟨o, es, ep, t, e, r⟩
theorem isSet_of {b : Bs} {h : Heap} {a : Addr} {S : Int → Bool} {n : Nat} (x : h.SetOf (intKind pg b.w) a S n) : ∃ o, h.get? a = some o ∧ isSet b S n o := by
  obtain ⟨o, es, ep, t, g, r⟩ := x
  exact ⟨o, g, h, a, g, o, es, ep, t, g, r⟩
namespace T
section
variable {b : Bs} {A : Around} {l l' : Led} {Q : Value → Led → Prop} {a : Addr} {S : Int → Bool} {n : Nat} {i : Int} {t : Tok}
theorem newSet (h : ∀ a, Q (.ref a) ((a, isSet b (fun _ => false) 0) :: l)) : T b A (call (.type "set") []) Q l := fun s I =>
  call_set_0 fun led => ⟨_, I.up (tk := s.toks) (I.st.push ⟨s.heap.push { cls := .type "set", dict := none, data := .set #[] 0 (.fresh 0 0 led) }, s.heap.objs.size, Heap.get?_push_size _ rfl, _, _, _, _, Heap.get?_push_size _ rfl, ⟨rfl, rfl, rfl⟩, rfl, fun e he => by simp at he, fun k => by simp, by decide, by cases led <;> decide, rfl⟩), h _⟩
theorem inSet (hm : (a, isSet b S n) ∈ l) (h : Q (.bool (S i)) l) : T b A (compareOp .In (.int i t) (.ref a)) Q l := fun s I => by
  obtain ⟨o, e, r⟩ := I.st.get hm
  exact wpAny_inSet_of (intKind_is _ _ i t) rfl (set_of e r) ⟨l, I.up I.st, h⟩
theorem gmSet {pl : Sem Bool} {Q : Value × List Value → Led → Prop} (hm : (a, isSet b S n) ∈ l) (h : Q (.builtin "set.add", [.ref a]) l) : T b A (getMethod (.ref a) "add" pl) Q l := fun s I => by
  obtain ⟨o, e, r⟩ := I.st.get hm
  exact getMethod_set_add (set_of e r) ⟨l, I, h⟩
theorem addSet (R : Rep a (isSet b S n) (isSet b (fun k' => S k' || decide (k' = i)) (if S i then n else n + 1)) l l') (hn : n < 1000) (h : Q .none l') : T b A (call (.builtin "set.add") [.ref a, .int i t]) Q l := fun s I => by
  obtain ⟨o, e, r⟩ := I.st.get R.mem
  exact call_set_add (intKind_is _ _ i t) rfl (set_of e r) (by have : scanBound = 4096 := rfl; omega) fun h' hs hS => ⟨l', I.up (I.st.same R hs (isSet_of hS)), h⟩
end
end T

/-! comprehensions -/
/-- the conditions of a comprehension: none or one -/
def ifsT (b : Bs) (A : Around) (ifs : List Expr) (env : Env) (Q : Bool → Led → Prop) (l : Led) : Prop :=
  match ifs with
  | [] => Q true l
  | [c] => T b A (isTrue c env (eval c env)) Q l
  | _ => False
inductive CP (b : Bs) (A : Around) (elt target : Expr) (ifs : List Expr) (scope : Scope) (cl : List (Str × Addr)) (env : Env) (use' : Option (Value → Sem Unit)) (Q : Value → Led → Prop) (itv : Value) (l : Led) : Prop
  | mk (it : Addr) (n : Nat) (val : Nat → Value → Prop) (P : Nat → OP) (side : Heap → Prop) (J : Nat → List Value → Led → Prop) (lj₀ rest : Led)
    (e : itv = .ref it)
    (X : It b.w A it n val P side)
    (ht : (∀ i v (s : Shared) (Q : Unit → Shared → Prop) (E : Value → Shared → Prop), (∃ o, s.heap.get? it = some o ∧ P i o) → Q () s → wpAny (model pg b.w) A (letOwnedTupleGo target (.ref it) v) Q E s))
    (hp : Pick ((it, P 0) :: (lj₀ ++ rest)) l)
    (hJ : J 0 [] lj₀)
    (hn : n ≤ sizeLine)
    (hside : (∀ i ys lj h, i ≤ n → J i ys lj → S b.s₀.heap ((it, P i) :: (lj ++ rest)) h → side h))
    (hlen : (∀ i ys lj, J i ys lj → ys.length ≤ i))
    (turn : (∀ C D cs mC i v ys lj, cs = cellsFrom (C + 1) scope.names [] → i < n → val i v → J i ys lj →
      T b A (assign target (envC env scope C (cs ++ cl)) v) (fun _ l₃ => ifsT b A ifs (envC env scope C (cs ++ cl)) (fun ok l₄ =>
        if ok = true then T b A (eval elt (envC env scope C (cs ++ cl))) (fun y l₅ => ∃ lj' mC', Pick ((it, P (i + 1)) :: (C, isNs mC') :: (D, isList ys) :: (someCells cs ++ (lj' ++ rest))) l₅ ∧ J (i + 1) (ys ++ [y]) lj') l₄
        else ∃ lj' mC', Pick ((it, P (i + 1)) :: (C, isNs mC') :: (D, isList ys) :: (someCells cs ++ (lj' ++ rest))) l₄ ∧ J (i + 1) ys lj') l₃) ((it, P (i + 1)) :: (C, isNs mC) :: (D, isList ys) :: (someCells cs ++ (lj ++ rest)))))
    (done : (∀ D ys lj, J n ys lj → match use' with
      | none => Q (.ref D) ((D, isList ys) :: (lj ++ rest))
      | some u => ∀ C mC, T b A (u (.ref D)) (fun _ l' => ∃ mC' t, Pick ((C, isNs mC') :: t) l' ∧ Q .none t) ((C, isNs mC) :: (D, isList ys) :: (lj ++ rest)))) : CP b A elt target ifs scope cl env use' Q itv l
theorem ifsT.go {b A ifs env Q l} (h : ifsT b A ifs env Q l) {s : Shared} (I : In b l s) {R : Bool → Shared → Prop} (k : ∀ ok s' l', In b l' s' → Q ok l' → R ok s') :
    wpAny (model pg b.w) A (forIn ifs true fun c r => if r = true then do let ok ← isTrue c env (eval c env); pure (ForInStep.yield ok) else pure (ForInStep.yield r)) R NoE s := by
  match ifs, h with
  | [], h => exact wpAny_pure (k _ _ _ I h)
  | [c], h =>
    simp only [List.forIn_cons, List.forIn_nil, if_pos]
    refine wpAny_bind (wpAny_bind (h.to I fun ok s' l' I' h' => wpAny_pure ?_))
    exact wpAny_pure (k _ _ _ I' h')
namespace T
section
variable {b : Bs} {A : Around} {l : Led} {env : Env} {elt iter target : Expr} {ifs : List Expr} {scope : Scope} {pos : Pos} {cl : List (Str × Addr)}
theorem stLC {x : Str} {v : Value} {m : Str → Option Value} {l' : Led} {env0 : Env} {C : Addr} {cells : List (Str × Addr)} {Q : Unit → Led → Prop} (hx : (envC env0 scope C cells).kindOf x = some .local) (R : Rep C (isNs m) (isNs (put x v m)) l l') (h : Q () l')
    (hp : ((envC env0 scope C cells).scope.kind == .class || ((envC env0 scope C cells).scope.kind == .module && C != env0.globals)) = false := by k_dflt rfl) : T b A (storeName (envC env0 scope C cells) x v) Q l := stL (env := envC env0 scope C cells) hx R h hp
theorem comp {use' : Option (Value → Sem Unit)} {Q : Value → Led → Prop} (hclos : closureFor scope env = pure cl) (hkind : scope.kind = .function) (hnames : ∀ x ∈ scope.names, x.2 = .local → scope.names.lookup x.1 = some .local)
    (h : T b A (eval iter env) (fun x l₁ => T b A (pyIter x) (CP b A elt target ifs scope cl env use' Q) l₁) l)
    (hs : ∀ x, foldedSetIterable iter env x = pure x := by k_dflt (intro _; rfl)) :
    T b A (comprehension (.ListComp elt [⟨target, iter, ifs, 0⟩] scope pos) scope env (firstIterPos [⟨target, iter, ifs, 0⟩] pos) (newList []) (firstAsync [⟨target, iter, ifs, 0⟩]) (firstIter [⟨target, iter, ifs, 0⟩] env) use') Q l := fun s I => by
  refine compS (h₀ := b.s₀.heap) hclos hkind hnames (h.to I fun x s₁ l₁ I₁ h₁ => h₁.to I₁ fun itv s₂ l₂ I₂ h₂ => ?_) hs
  obtain ⟨it, n, val, P, side, J, lj₀, rest, rfl, X, ht, hp, hJ, hn, hside, hlen, turn, done⟩ := h₂
  refine ⟨it, n, val, P, side, _, rest, J, lj₀, rfl, X, ht, I₂.st.pick hp, rfl, hJ, hn, hside, hlen, fun C D cs mC i v ys lj h tk hcs hi hv hj H => ?_, fun D ys lj h tk hj H => ?_⟩
  · refine (turn C D cs mC i v ys lj hcs hi hv hj).to (I₂.up H) fun _ s₃ l₃ I₃ h₃ => ifsT.go h₃ I₃ fun ok s₄ l₄ I₄ h₄ => ?_
    have hsh : ∀ {s'}, Sh b.s₀ s' → Sh s₂ s' := fun hs' => by
      obtain ⟨h1, t1, e1⟩ := I₂.sh; obtain ⟨h3, t3, e3⟩ := hs'; exact ⟨h3, t3, by rw [e3, e1]⟩
    cases ok with
    | true =>
      simp only [if_true] at h₄ ⊢
      refine h₄.to I₄ fun y s₅ l₅ I₅ ⟨lj', mC', p, hj'⟩ => ⟨lj', mC', hj', I₅.st.pick p, hsh I₅.sh⟩
    | false =>
      simp only [Bool.false_eq_true, if_false] at h₄ ⊢
      obtain ⟨lj', mC', p, hj'⟩ := h₄
      exact ⟨lj', mC', hj', I₄.st.pick p, hsh I₄.sh⟩
  · have d := done D ys lj hj
    cases use' with
    | none => exact ⟨_, I₂.up H, d⟩
    | some u =>
      intro C mC HC
      refine (d C mC).to (I₂.up HC) fun _ s₃ l₃ I₃ ⟨mC', t, p, q⟩ => ?_
      have J₃ := I₃.pick p
      refine ⟨mC', J₃.st.ns (.head _), fun h' hs' => ⟨t, ?_, q⟩⟩
      exact J₃.up (tk := s₃.toks) (J₃.st.lose (u := []) fun b o hb e => hs'.extBut b o hb e)
theorem compE {Q : Value → Led → Prop} (hclos : closureFor scope env = pure cl) (hkind : scope.kind = .function) (hnames : ∀ x ∈ scope.names, x.2 = .local → scope.names.lookup x.1 = some .local)
    (h : T b A (eval iter env) (fun x l₁ => T b A (pyIter x) (CP b A elt target ifs scope cl env none Q) l₁) l)
    (hs : ∀ x, foldedSetIterable iter env x = pure x := by k_dflt (intro _; rfl)) :
    T b A (eval (.ListComp elt [⟨target, iter, ifs, 0⟩] scope pos) env) Q l := comp hclos hkind hnames h hs
theorem compA {y : Str} {py spos : Pos} {Q : Flow → Led → Prop} (hclos : closureFor scope env = pure cl) (hkind : scope.kind = .function) (hnames : ∀ x ∈ scope.names, x.2 = .local → scope.names.lookup x.1 = some .local)
    (h : T b A (eval iter env) (fun x l₁ => T b A (pyIter x) (CP b A elt target ifs scope cl env (some (assign (.Name y py) env)) fun _ => Q .next) l₁) l)
    (hsw : swapsWith (.ListComp elt [⟨target, iter, ifs, 0⟩] scope pos) (some (.Name y py)) spos.line env = pure true := by k_dflt rfl)
    (hs : ∀ x, foldedSetIterable iter env x = pure x := by k_dflt (intro _; rfl)) :
    T b A (exec (.Assign [.Name y py] (.ListComp elt [⟨target, iter, ifs, 0⟩] scope pos) spos) env) Q l := fun s I => by
  rw [exec_Assign_Name_used _ _ _ _ hsw]
  refine wpAny_bind (wpAny_standAt (wpAny_bind ?_))
  show wpAny _ A (do let _ ← comprehension (.ListComp elt [⟨target, iter, ifs, 0⟩] scope pos) scope env _ (newList []) false (eval iter env) (some (assign (.Name y py) env))) _ _ s
  exact wpAny_bind ((comp hclos hkind hnames h hs).to I fun _ s' l' I' h' => wpAny_pure (wpAny_pure ⟨l', I', h'⟩))
end
end T

/-! walking a dict: while the walk goes on, its epoch stands in the ledger -/
def isDictAt (b : Bs) (kvs : List (Int × Value)) (ep : Nat) : OP := fun o => ∃ es, o.ExactDict ∧ o.data = .dict es ep ∧ KeysOf (intKind pg b.w) es ∧ Pairs (intKind pg b.w) es.toList kvs ∧ (kvs.map (·.1)).Nodup
def isKeyIt (d : Addr) (n ep : Nat) (i : Nat) : OP := fun o => o.cls = .type "dict_keyiterator" ∧ o.data = .fields #[.ref d, .int i 0, .int n 0, .int ep 0]
def isValIt (d : Addr) (n ep : Nat) (i : Nat) : OP := fun o => o.cls = .type "dict_valueiterator" ∧ o.data = .fields #[.ref d, .int i 0, .int n 0, .int ep 0]
def isView (d : Addr) : OP := fun o => o.cls = .type "dict_values" ∧ o.data = .fields #[.ref d]
theorem isDictAt.un {b : Bs} {kvs ep o} : isDictAt b kvs ep o → isDict b kvs o := fun ⟨es, r⟩ => ⟨es, ep, r⟩
theorem S.dictAt {b : Bs} {h₀ h : Heap} {l : Led} {d : Addr} {kvs : List (Int × Value)} {ep : Nat} (H : S h₀ l h) (hm : (d, isDictAt b kvs ep) ∈ l) : h.DictAt (intKind pg b.w) d kvs ep := by
  obtain ⟨o, e, es, r⟩ := H.get hm; exact ⟨o, es, e, r⟩
theorem S.strong {h₀ h : Heap} {l l' : Led} {a : Addr} {p p' : OP} (H : S h₀ l h) (R : Rep a p p' l l') (x : ∃ o, h.get? a = some o ∧ p' o) : S h₀ l' h := H.same R (Heap.SameBut.refl _ _) x
theorem It.keys {b : Bs} {A} (hh : A.handled = none) {it d : Addr} {kvs : List (Int × Value)} {ep : Nat} : It b.w A it kvs.length (fun i v => ∃ k x t, kvs[i]? = some (k, x) ∧ v = .int k t) (isKeyIt d kvs.length ep) (fun h => h.DictAt (intKind pg b.w) d kvs ep) where
  step := fun i s Q E hi ⟨o, e, r⟩ hd hQ => by
    obtain ⟨⟨k, x⟩, hx⟩ : ∃ p, kvs[i]? = some p := ⟨kvs[i], by simp [hi]⟩
    refine wpAny_pyNext_dict_item ⟨o, e, r⟩ hd hx fun key h' hkey ⟨o', e', r'⟩ hs' => ?_
    obtain ⟨t, rfl⟩ := Value.isInt_shape hkey
    exact hQ _ h' s.toks ⟨k, x, t, hx, rfl⟩ hs' ⟨o', e', r'⟩
  stop := fun s Q E ⟨o, e, r⟩ hd hQ => wpAny_pyNext_dict_end hh ⟨o, e, r⟩ hd (by simp) fun h' he => hQ h' s.toks he
  self := fun i s Q E ⟨o, e, r⟩ hQ => wpAny_pyIter_keyiter ⟨o, e, r⟩ hQ
theorem It.vals {b : Bs} {A} (hh : A.handled = none) {it d : Addr} {kvs : List (Int × Value)} {ep : Nat} : It b.w A it kvs.length (fun i v => ∃ k, kvs[i]? = some (k, v)) (isValIt d kvs.length ep) (fun h => h.DictAt (intKind pg b.w) d kvs ep) where
  step := fun i s Q E hi ⟨o, e, r⟩ hd hQ => by
    obtain ⟨⟨k, x⟩, hx⟩ : ∃ p, kvs[i]? = some p := ⟨kvs[i], by simp [hi]⟩
    exact wpAny_pyNext_values_item ⟨o, e, r⟩ hd hx fun h' ⟨o', e', r'⟩ hs' => hQ _ h' s.toks ⟨k, hx⟩ hs' ⟨o', e', r'⟩
  stop := fun s Q E ⟨o, e, r⟩ hd hQ => wpAny_pyNext_values_end hh ⟨o, e, r⟩ hd (by simp) fun h' he => hQ h' s.toks he
  self := fun i s Q E ⟨o, e, r⟩ hQ => wpAny_pyIter_valiter ⟨o, e, r⟩ hQ
namespace T
section
variable {b : Bs} {A : Around} {l : Led} {l' : Nat → Led} {Q : Value → Led → Prop} {d v : Addr} {kvs : List (Int × Value)} {i : Int} {t : Tok} {x : Value} {ep : Nat}
theorem iterD (R : ∀ ep, Rep d (isDict b kvs) (isDictAt b kvs ep) l (l' ep)) (lo : (d == sysModules) = false) (h : ∀ it ep, Q (.ref it) ((it, isKeyIt d kvs.length ep 0) :: l' ep)) : T b A (pyIter (.ref d)) Q l := fun s I => by
  obtain ⟨ep, D⟩ := (I.st.dict (R 0).mem).dictAt
  have H := I.st.strong (R ep) (by obtain ⟨o, es, e, r⟩ := D; exact ⟨o, e, es, r⟩)
  exact wpAny_pyIter_dict lo D ⟨_, I.up (tk := s.toks) (H.push ⟨rfl, rfl⟩), h _ ep⟩
theorem values (hm : (d, isDict b kvs) ∈ l) (lo : (d == sysModules) = false) (h : ∀ v, Q (.ref v) ((v, isView d) :: l)) : T b A (call (.builtin "dict.values") [.ref d]) Q l := fun s I =>
  have D := I.st.dict hm
  call_meetsIn PySem.F.slot_dict_values D.typeIs PySem.F.entry_dict_values (PySem.F.args_dict_values_1 _) (meets_dict_values (intKind pg b.w) d lo) ⟨⟨kvs, D⟩, _, I.up (tk := s.toks) (I.st.push ⟨rfl, rfl⟩), h _⟩
theorem iterV (hv : (v, isView d) ∈ l) (R : ∀ ep, Rep d (isDict b kvs) (isDictAt b kvs ep) l (l' ep)) (h : ∀ it ep, Q (.ref it) ((it, isValIt d kvs.length ep 0) :: l' ep)) : T b A (pyIter (.ref v)) Q l := fun s I => by
  obtain ⟨ep, D⟩ := (I.st.dict (R 0).mem).dictAt
  have H := I.st.strong (R ep) (by obtain ⟨o, es, e, r⟩ := D; exact ⟨o, e, es, r⟩)
  obtain ⟨o, e, r⟩ := I.st.get hv
  exact wpAny_pyIter_values ⟨o, e, r⟩ D ⟨_, I.up (tk := s.toks) (H.push ⟨rfl, rfl⟩), h _ ep⟩
theorem dItemAt {value slice : Expr} (hm : (d, isDictAt b kvs ep) ∈ l) (hv : valueAt kvs i = some x) (h : Q x l) (hs : subscripted slice false (.ref d) (.int i t) = operate [.ref d, .int i t] (getItem (.ref d) (.int i t)) := by with_unfolding_all rfl) : T b A (subscriptTail value slice (.ref d) (.int i t)) Q l := fun s I =>
  have D := (I.st.dictAt hm).dictOf
  PyProof.Rows.tail_any D.typeIs slot_dict_getitem.lookup (wpAny_getItem_of (intKind_is _ _ i t) D.mapOf hv ⟨l, I.up I.st, h⟩) hs
end
end T

theorem li_getattribute : Slot "list_iterator" "__getattribute__" "object.__getattribute__" :=
  .of (owner := "object") (n := "__getattribute__") (by rw [typeLookup_type, builtinLookup_eq_fast]; kernel_rfl) (by decide +kernel) (by decide +kernel) (by decide +kernel)
    (by first | exact .inl (by decide +kernel) | exact .inr (by decide +kernel)) (by rw [isSubtype_type]; kernel_rfl)
theorem li_getattr_none : typeLookup (.type "list_iterator") "__getattr__" = pure none := by rw [typeLookup_type, builtinLookup_eq_fast]; kernel_rfl
theorem li_next_get : Slot "wrapper_descriptor" "__get__" "wrapper_descriptor.__get__" :=
  .of (owner := "wrapper_descriptor") (n := "__get__") (by rw [typeLookup_type, builtinLookup_eq_fast]; kernel_rfl) (by decide +kernel) (by decide +kernel) (by decide +kernel)
    (by first | exact .inl (by decide +kernel) | exact .inr (by decide +kernel)) (by rw [isSubtype_type]; kernel_rfl)
theorem li_next_set : typeLookup (.type "wrapper_descriptor") "__set__" = pure none := by rw [typeLookup_type, builtinLookup_eq_fast]; kernel_rfl
theorem li_next_delete : typeLookup (.type "wrapper_descriptor") "__delete__" = pure none := by rw [typeLookup_type, builtinLookup_eq_fast]; kernel_rfl
theorem obj_entry_getattribute : entryFor table "object.__getattribute__" = some Builtin.«object.__getattribute__» := entryFor_of_fast (by kernel_rfl)
theorem wd_entry_get : entryFor table "wrapper_descriptor.__get__" = some Builtin.«wrapper_descriptor.__get__» := entryFor_of_fast (by kernel_rfl)
theorem obj_args_getattribute (a b : Value) : argsOk "object.__getattribute__" ⟨[a, b], []⟩ := by unfold argsOk; kernel_rfl
theorem wd_args_get (a b c : Value) : argsOk "wrapper_descriptor.__get__" ⟨[a, b, c], []⟩ := by unfold argsOk; kernel_rfl
theorem li_next_type : typeOf (.builtin "list_iterator.__next__") = pure (.type "wrapper_descriptor") := by kernel_rfl
section
variable {w : World} {A : Around} {E : Value → Shared → Prop} {s : Shared}
set_option maxHeartbeats 2000000 in
theorem wd_get_listiter {it : Addr} {oi : Obj} {Q : Fin → Shared → Prop} (s : Shared) (hc : oi.cls = .type "list_iterator") (hx : s.heap.get? it = some oi)
    (hq : Q (.done (.ret (.ref s.heap.objs.size))) { s with heap := s.heap.push { cls := .type "method-wrapper", data := .fields #[.builtin "list_iterator.__next__", .ref it] } }) :
    wpAny (model pg w) A (Builtin.«wrapper_descriptor.__get__» ⟨[.builtin "list_iterator.__next__", .ref it, .type "list_iterator"], []⟩) Q E s := by
  have hT : s.TypeIs (.ref it) "list_iterator" := ⟨_, hx, hc⟩
  obtain ⟨hp, g, d, tk, os⟩ := s
  have f1 : isSubtype (.type "list_iterator") (.type "list_iterator") = pure true := by rw [isSubtype_type]; kernel_rfl
  unfold Builtin.«wrapper_descriptor.__get__»
  repeat (any_goals (first | assumption | wp_step))
  have e : ".".intercalate ("list_iterator.__next__".cutAt '.').dropLast = "list_iterator" := by decide +kernel
  refine wpAny_of_eq (a := true) (by rw [e]; exact f1) ?_
  repeat (any_goals (first | assumption | wp_step))
theorem ls_next_of_listiter (s : Shared) {it x : Addr} {u : Tok} {oi : Obj} {Q : Fin → Shared → Prop} (hc : oi.cls = .type "list_iterator") (hd : oi.dict = none) (hdat : oi.data = .fields #[.ref x, .int 0 0]) (hx : s.heap.get? it = some oi)
    (hq : Q (.done (.ret (.ref s.heap.objs.size))) { s with heap := s.heap.push { cls := .type "method-wrapper", data := .fields #[.builtin "list_iterator.__next__", .ref it] } }) :
    wpAny (model pg w) A (Builtin.«object.__getattribute__» ⟨[.ref it, .str "__next__" u], []⟩) Q E s := by
  obtain ⟨c, dct, dat, sl⟩ := oi
  simp only at hc hd hdat
  subst hc hd hdat
  obtain ⟨hp, g, d, tk, os⟩ := s
  have hT : (⟨hp, g, d, tk, os⟩ : Shared).TypeIs (.ref it) "list_iterator" := ⟨_, hx, rfl⟩
  have hTn : (⟨hp, g, d, tk, os⟩ : Shared).TypeIs (.builtin "list_iterator.__next__") "wrapper_descriptor" := li_next_type
  have f1 := slot_listiter_next.lookup
  have f3 := li_next_get.lookup
  have f4 := li_next_set
  have f5 := li_next_delete
  unfold Builtin.«object.__getattribute__»
  repeat (any_goals (first | assumption | wp_step))
  refine codeAny_call_builtin li_next_get.plain wd_entry_get (li_next_get.check _ _ _ _ _ _ _ _ hTn (wd_args_get _ _ _) ?_)
  refine wd_get_listiter _ rfl hx ?_
  exact wpAny_pure hq
theorem getAttr_listiter_next (s : Shared) {it x : Addr} {oi : Obj} {Q : Value → Shared → Prop} (hc : oi.cls = .type "list_iterator") (hd : oi.dict = none) (hdat : oi.data = .fields #[.ref x, .int 0 0]) (hx : s.heap.get? it = some oi)
    (hq : ∀ tk, Q (.ref s.heap.objs.size) { s with heap := s.heap.push { cls := .type "method-wrapper", data := .fields #[.builtin "list_iterator.__next__", .ref it] }, toks := tk }) :
    wpAny (model pg w) A (getAttr (.ref it) "__next__" true) Q E s := by
  obtain ⟨c, dct, dat, sl⟩ := oi
  simp only at hc hd hdat
  subst hc hd hdat
  obtain ⟨hp, g, d, tk, os⟩ := s
  have hT : ∀ tk', (⟨hp, g, d, tk', os⟩ : Shared).TypeIs (.ref it) "list_iterator" := fun _ => ⟨_, hx, rfl⟩
  have f1 := li_getattribute.lookup
  have f2 := li_getattribute.bind (.ref it)
  unfold getAttr getAttrBy
  repeat (any_goals (first | assumption | exact hT _ | wp_step))
  refine codeAny_call_builtin li_getattribute.plain obj_entry_getattribute (li_getattribute.check _ _ _ _ _ _ _ _ (hT _) (obj_args_getattribute _ _) ?_)
  refine ls_next_of_listiter _ rfl rfl rfl hx ?_
  repeat (any_goals (first | assumption | exact hq _ | wp_step))
end

/-! a StopIteration that is caught where it is raised -/
def isExc (v : Value) : OP := fun o => o.cls = .type "StopIteration" ∧ ∃ vs, o.data = .fields vs ∧ vs[1]? = some v
def isTb : OP := fun o => ∃ ts, o.data = .fields ts ∧ 3 < ts.size
/-- the frames that stand around: each one's names are in the ledger -/
def Frames (l : Led) (envs : List Env) : Prop := ∀ e ∈ envs, e.scope.kind ≠ .module ∧ ∃ L m, e.frame = some L ∧ (L, isNs m) ∈ l
theorem Frames.funFrames {h₀ h : Heap} {l : Led} (H : S h₀ l h) : ∀ {envs : List Env}, Frames l envs → h.FunFrames h₀ envs
  | [], _ => trivial
  | e :: es, x => by
    obtain ⟨hk, L, m, hf, hm⟩ := x e (.head _)
    obtain ⟨o, ho, es', ep, hd, -⟩ := H.get hm
    exact ⟨hk, ⟨L, o, hf, H.fresh _ hm, ho, fun vs q => by rw [hd] at q; cases q⟩, Frames.funFrames H fun e' he' => x e' (.tail _ he')⟩
theorem S.slots {h₀ h h' : Heap} {l : Led} {envs : List Env} (H : S h₀ l h) (x : Frames l envs) (k : Heap.SlotsOnly (envs.filterMap (·.frame)) h h') : S h₀ l h' := by
  have key : ∀ b, b ∈ envs.filterMap (·.frame) → ∃ m, (b, isNs m) ∈ l := fun b hb => by
    obtain ⟨e, he, hf⟩ := List.mem_filterMap.mp hb
    obtain ⟨-, L, m, hf', hm⟩ := x e he
    rw [hf] at hf'; cases hf'
    exact ⟨m, hm⟩
  refine ⟨fun b o hb => ?_, fun p hp => ?_, H.fresh, H.nd⟩
  · rw [k.2.1 b fun hm => ?_]
    · exact H.keep b o hb
    · obtain ⟨m, hm⟩ := key b hm
      rw [H.fresh _ hm] at hb; cases hb
  · obtain ⟨o, ho, r⟩ := H.led p hp
    by_cases hb : p.1 ∈ envs.filterMap (·.frame)
    · obtain ⟨m, hm⟩ := key _ hb
      obtain ⟨sl, e⟩ := k.2.2 _ _ ho
      have hpe : p.2 = isNs m := nodup_key H.nd hp hm
      rw [hpe] at r ⊢
      exact ⟨_, e, r⟩
    · exact ⟨o, by rw [k.2.1 _ hb]; exact ho, r⟩
namespace T
section
variable {b : Bs} {A : Around} {l : Led} {env : Env} {outer : List Env} {e L : Addr}
theorem noteF {Q : Unit → Led → Prop} (hfr : A.frames = some (env :: outer)) (hx : Frames l (env :: outer)) (h : ∀ T, Q () ((T, isTb) :: (e, isExc (.ref T)) :: l)) : T b A (noteFrame (.ref e) env) Q ((e, isExc .none) :: l) := fun s I => by
  obtain ⟨oe, he, hcls, vs, hd, h1⟩ := I.st.get (.head _)
  have hsz : 1 < vs.size := (Array.getElem?_eq_some_iff.mp h1).1
  have hx' : Frames ((e, isExc .none) :: l) (env :: outer) := fun e' he' => let ⟨a, L, m, b, c⟩ := hx e' he'; ⟨a, L, m, b, .tail _ c⟩
  obtain ⟨-, L, m, hf, hm⟩ := hx env (.head _)
  unfold noteFrame
  simp only [hf]
  refine wpAny_bind (wpAny_field he hd h1 ?_)
  rw [if_neg (by decide)]
  refine wpAny_bind (wpAny_frameOf_fun hfr (hx'.funFrames I.st) hf fun h₁ hs₁ => ?_)
  have H₁ := I.st.slots hx' hs₁
  refine wpAny_bind (wpAny_entryPlaceOf fun pl hpl => ?_)
  unfold EntryCells.newEntry newFields
  refine wpAny_bind (wpAny_newObj_type ?_ (hpl.sizeOk5 _ _ _ _ _))
  have H₂ := H₁.push (p := isTb) (o := { cls := .type "traceback", dict := none, data := .fields ([Value.none, .ref L, .none, rawInt L, .none] ++ (if pl.isEmpty then List.replicate 6 Value.none else pl)).toArray }) ⟨_, rfl, by simp⟩
  obtain ⟨oe₂, he₂, hcls₂, vs₂, hd₂, h1₂⟩ := H₂.get (.tail _ (.head _))
  have hsz₂ : 1 < vs₂.size := (Array.getElem?_eq_some_iff.mp h1₂).1
  refine wpAny_setField he₂ hd₂ hsz₂ ⟨_, I.up (tk := s.toks) (H₂.same (.tail .head) (Heap.SameBut.update ..) ⟨_, Heap.get?_update_self _ he₂ (Obj.isFreed_of_fields (Obj.data_mapFields hd₂ _)), (Obj.cls_mapFields ..).trans hcls₂, _, Obj.data_mapFields hd₂ _, ?_⟩), h _⟩
  simp [hsz₂]
end
end T

def isMW (it : Addr) : OP := fun o => o.cls = .type "method-wrapper" ∧ o.data = .fields #[.builtin "list_iterator.__next__", .ref it]
theorem Rep.self {l : Led} {a : Addr} {p : OP} (h : (a, p) ∈ l) : Rep a p p l l := by
  induction l with
  | nil => cases h
  | cons q r ih => exact (List.mem_cons.mp h).elim (fun e => e ▸ .head) fun h => .tail (ih h)
/-- a triple in which a StopIteration may be raised -/
def TX {α : Type} (b : Bs) (A : Around) (t : Sem α) (Q : α → Led → Prop) (X : Led → Prop) (l : Led) : Prop :=
  ∀ s, In b l s → wpAny (model pg b.w) A t (fun a s' => ∃ l', In b l' s' ∧ Q a l') (fun v s' => ∃ e l', v = .ref e ∧ In b ((e, isExc .none) :: l') s' ∧ X l') s
section
variable {w : World} {A : Around} {E : Value → Shared → Prop} {s : Shared}
theorem keeps_MW {M : Model} {mw it : Addr} (h : Heap) (x : ∃ o, h.get? mw = some o ∧ isMW it o) : ∃ k, (k = Keeper.frame ∨ k = Keeper.machine ∨ k = Keeper.boundFrame) ∧ Looks M h (keeperOf (.ref mw)) k := by
  obtain ⟨o, e, hc, hd⟩ := x
  refine ⟨.machine, .inr (.inl rfl), (Looks.ld (part := none) e).andThen ?_⟩
  rw [hd, hc]; exact .now
theorem callWith_MW {mw it : Addr} {pos : Pos} {env : Env} {Q : Value → Shared → Prop} (x : ∃ o, s.heap.get? mw = some o ∧ isMW it o)
    (h : wpAny (model pg w) A (call (.ref mw) []) Q E s) : wpAny (model pg w) A (callWith pos (.ref mw) [] (backTo pos (starEach [] env)) []) Q E s :=
  callWith_of (P := fun h => ∃ o, h.get? mw = some o ∧ isMW it o) rfl keeps_MW (evalArgs_nil3 ⟨x, h⟩)
theorem mw_check {it : Addr} : checkBoundCall "list_iterator.__next__" ⟨[.ref it], []⟩ = pure () := by kernel_rfl
theorem mw_quiet {it : Addr} : (Code.builtin "list_iterator.__next__" ⟨[.ref it], []⟩).quiet = true := Code.quiet_builtin _ (by decide +kernel)
theorem call_MW {mw it : Addr} {Q : Value → Shared → Prop} (x : ∃ o, s.heap.get? mw = some o ∧ isMW it o)
    (h : codeAny (model pg w) A (.builtin "list_iterator.__next__" ⟨[.ref it], []⟩) (fun r s' => match r with | .ok (.ret v) => Q v s' | .ok _ => False | .error e => E e s') s) : wpAny (model pg w) A (call (.ref mw) []) Q E s := by
  obtain ⟨o, e, hc, hd⟩ := x
  refine wpAny_call (codeAny_of_tree ?_)
  show wpAny _ A.in1 (callAny (.ref mw) _) _ _ _
  unfold callAny
  refine wpAny_bind (wpAny_load e ?_)
  rw [hd, hc]
  refine wpAny_bind (wpAny_of_eq (a := ()) mw_check ?_)
  exact wpAny_pure ⟨mw_quiet, h⟩
theorem li_item {it l : Addr} {i : Nat} {items : Array Value} {x : Value} {R : Result → Shared → Prop} (hit : s.heap.IsListIter it l i) (hl : s.heap.IsList l items) (hx : items[i]? = some x)
    (hQ : ∀ h', h'.IsListIter it l (i + 1) → Heap.SameBut it s.heap h' → R (.ok (.ret x)) { s with heap := h' }) : codeAny (model pg w) A (.builtin "list_iterator.__next__" ⟨[.ref it], []⟩) R s := by
  obtain ⟨o, ho, hc, hd⟩ := id hit
  obtain ⟨ol, hol, _, nl, hdl⟩ := hl
  refine codeAny_builtin entry_listiter_next ?_
  show wpAny _ _ (field (.ref it) 0 >>= _) _ _ s
  refine wpAny_bind (wpAny_field ho hd (x := .ref l) rfl ?_)
  show wpAny _ _ (if (Value.ref l == Value.none) = true then _ else _) _ _ s
  rw [if_neg (show ¬ ((Value.ref l == Value.none) = true) from Bool.false_ne_true)]
  show wpAny _ _ (field (.ref it) 1 >>= _) _ _ s
  refine wpAny_bind (wpAny_field ho hd (x := .int i 0) rfl ?_)
  show wpAny _ _ (seqItems? (.ref l) >>= _) _ _ s
  refine wpAny_bind (wpAny_seqItems hol hdl ?_)
  simp only [Int.toNat_natCast, hx]
  refine wpAny_bind (wpAny_setField ho hd (by simp) (wpAny_pure (hQ _ ?_ (Heap.SameBut.update ..))))
  exact ⟨_, Heap.get?_update_self _ ho (Obj.isFreed_of_fields (Obj.data_mapFields hd _)), (Obj.cls_mapFields ..).trans hc, by rw [Obj.data_mapFields hd]; simp [rawInt]⟩
theorem li_end {it l : Addr} {i : Nat} {items : Array Value} {R : Result → Shared → Prop} (hh : A.handled = none) (hit : s.heap.IsListIter it l i) (hl : s.heap.IsList l items) (hx : items[i]? = none)
    (hQ : ∀ h' e, Heap.ExtBut it s.heap h' → s.heap.objs.size ≤ e → (∃ o, h'.get? e = some o ∧ isExc .none o) → R (.error (.ref e)) { s with heap := h' }) : codeAny (model pg w) A (.builtin "list_iterator.__next__" ⟨[.ref it], []⟩) R s := by
  obtain ⟨o, ho, hc, hd⟩ := id hit
  obtain ⟨ol, hol, _, nl, hdl⟩ := hl
  refine codeAny_builtin entry_listiter_next ?_
  show wpAny _ _ (field (.ref it) 0 >>= _) _ _ s
  refine wpAny_bind (wpAny_field ho hd (x := .ref l) rfl ?_)
  show wpAny _ _ (if (Value.ref l == Value.none) = true then _ else _) _ _ s
  rw [if_neg (show ¬ ((Value.ref l == Value.none) = true) from Bool.false_ne_true)]
  show wpAny _ _ (field (.ref it) 1 >>= _) _ _ s
  refine wpAny_bind (wpAny_field ho hd (x := .int i 0) rfl ?_)
  show wpAny _ _ (seqItems? (.ref l) >>= _) _ _ s
  refine wpAny_bind (wpAny_seqItems hol hdl ?_)
  simp only [Int.toNat_natCast, hx]
  refine wpAny_bind (wpAny_rule (wpAny_bind (wpAny_setField ho hd (by simp) ?_)))
  show wpAny _ _ (newExc (.type "StopIteration") [] >>= _) _ _ _
  refine wpAny_bind ?_
  simp only [newExc, newTuple]
  refine wpAny_bind (wpAny_newObj_type ?_ (by size_fits))
  refine wpAny_bind (m := firstArgMember _ _) (wpAny_of_eq (a := Value.none) (by first | rfl | (simp only [firstArgMember]; rfl)) ?_)
  refine wpAny_newObj_type ?_ (by size_fits)
  simp only [raiseNew]
  refine wpAny_bind (wpAny_handled ?_)
  rw [show (A.under _).handled = none from hh]
  refine wpAny_bind (wpAny_pure (wpAny_throw ?_))
  refine hQ _ _ (((Heap.SameBut.update ..).extBut.push _).push _) ?_ ⟨_, Heap.get?_push_size _ rfl, rfl, _, rfl, rfl⟩
  simp
end

theorem sub_stop : isSubtype (.type "StopIteration") (.type "BaseException") = pure true := by rw [isSubtype_type]; kernel_rfl
theorem stop_meta : isSubtype (.type ((Manifest.find? "StopIteration").elim "type" fun x => x.metatype)) (.type "tuple") = pure false := by
  rw [show ((Manifest.find? "StopIteration").elim "type" fun x => x.metatype) = "type" from by decide +kernel, isSubtype_type]; kernel_rfl
theorem S.exc {h₀ h h' : Heap} {l u v : Led} {it e : Addr} {p : OP} (H : S h₀ l h) (hl : l = u ++ (it, p) :: v) (k : Heap.ExtBut it h h') (he : h.objs.size ≤ e) (x : ∃ o, h'.get? e = some o ∧ isExc .none o) : S h₀ ((e, isExc .none) :: (u ++ v)) h' := by
  subst hl
  have H' := H.lose (u := u) fun b o hb e => k b o hb e
  refine ⟨H'.keep, fun q hq => ?_, fun q hq => ?_, List.nodup_cons.mpr ⟨fun hm => ?_, H'.nd⟩⟩
  · rcases List.mem_cons.mp hq with rfl | hq
    · exact x
    · exact H'.led q hq
  · rcases List.mem_cons.mp hq with rfl | hq
    · cases hb : h₀.get? e with
      | none => rfl
      | some o => exact absurd (Heap.lt_size (H.keep _ _ hb)) (Nat.not_lt.mpr he)
    · exact H'.fresh q hq
  · obtain ⟨q, hq, rfl⟩ := List.mem_map.mp hm
    obtain ⟨o, ho, -⟩ := H.led q (by rcases List.mem_append.mp hq with h | h; exact List.mem_append_left _ h; exact List.mem_append_right _ (.tail _ h))
    exact absurd (Heap.lt_size ho) (Nat.not_lt.mpr he)
namespace T
section
variable {b : Bs} {A : Around} {l l' : Led} {env : Env} {outer : List Env} {e T' mw it a : Addr} {ns : List Int} {i : Nat} {pos : Pos}
theorem setF {Q : Unit → Led → Prop} (he : (e, isExc (.ref T')) ∈ l) (hT : (T', isTb) ∈ l) (h : Q () l) : T b A (setFlight (.ref e) none) Q l := fun s I => by
  obtain ⟨oe, ho, hcls, vs, hd, h1⟩ := I.st.get he
  obtain ⟨oT, hoT, ts, hdt, hsz⟩ := I.st.get hT
  unfold setFlight
  refine wpAny_bind (wpAny_field ho hd h1 ?_)
  rw [if_pos (show (Value.ref T' != Value.none) = true from by simp)]
  refine wpAny_setField hoT hdt hsz ⟨l, I.up (tk := s.toks) (I.st.same (Rep.self hT) (Heap.SameBut.update ..) ⟨_, Heap.get?_update_self _ hoT (Obj.isFreed_of_fields (Obj.data_mapFields hdt _)), _, Obj.data_mapFields hdt _, by simpa using hsz⟩), h⟩
theorem handleStop {t : Expr} {b₀ : Stmt} {suite : List Stmt} {Q : Flow → Led → Prop} (he : (e, isExc (.ref T')) ∈ l) (hT : (T', isTb) ∈ l)
    (h : T b (A.mark (some (.ref e))) (eval t env) (fun c l₁ => c = .type "StopIteration" ∧ l₁ = l) l) (k : T b (A.mark (some (.ref e))) (execs (b₀ :: suite) env) Q l) : T b A (handleBy (.ref e) env [.ExceptHandler (some t) none (b₀ :: suite) pos]) Q l := fun s I => by
  refine wpAny_handleBy_builtin (X := "StopIteration") (T := "StopIteration") (b := true) sub_stop stop_meta isSubtype_stop (h.to I fun c s₁ l₁ I₁ ⟨hc, hl⟩ => ?_)
  subst hl
  obtain ⟨oe, ho, hcls, -⟩ := I₁.st.get he
  refine ⟨hc, ⟨oe, ho, hcls⟩, ?_⟩
  simp only [if_true]
  exact (setF (Q := fun _ l' => l' = l₁) he hT rfl).to I₁ fun _ s₂ l₂ I₂ hl₂ => by subst hl₂; exact k.to I₂ fun f s₃ l₃ I₃ h₃ => ⟨l₃, I₃, h₃⟩
theorem tryStop {t : Expr} {body : List Stmt} {b₀ : Stmt} {suite : List Stmt} {tpos : Pos} {Q : Flow → Led → Prop} (hfr : A.frames = some (env :: outer))
    (h : TX b A (execs body env) (fun f l₁ => match f with | .next => False | f => Q f l₁)
      (fun l₁ => Frames l₁ (env :: outer) ∧ ∀ e T', T b (A.mark (some (.ref e))) (eval t env) (fun c l₂ => c = .type "StopIteration" ∧ l₂ = (T', isTb) :: (e, isExc (.ref T')) :: l₁) ((T', isTb) :: (e, isExc (.ref T')) :: l₁) ∧
        T b (A.mark (some (.ref e))) (execs (b₀ :: suite) env) Q ((T', isTb) :: (e, isExc (.ref T')) :: l₁)) l) :
    T b A (exec (.Try body [.ExceptHandler (some t) none (b₀ :: suite) pos] [] [] tpos) env) Q l := fun s I => by
  refine wpAny_Try_except (wpAny_mono (h s I) (fun f s' ⟨l', I', h'⟩ => ?_) fun v s' ⟨e, l', hv, I', hx, k⟩ => ?_)
  · cases f <;> first | exact h'.elim | exact ⟨l', I', h'⟩
  · subst hv
    refine (noteF (Q := fun _ l₁ => ∃ T', l₁ = (T', isTb) :: (e, isExc (.ref T')) :: l') hfr hx fun T' => ⟨T', rfl⟩).to I' fun _ s₁ l₁ I₁ ⟨T', hl₁⟩ => ?_
    subst hl₁
    refine (setF (Q := fun _ l₂ => l₂ = (T', isTb) :: (e, isExc (.ref T')) :: l') (.tail _ (.head _)) (.head _) rfl).to I₁ fun _ s₂ l₂ I₂ hl₂ => ?_
    subst hl₂
    exact (handleStop (.tail _ (.head _)) (.head _) (k e T').1 (k e T').2).to I₂ fun f s₃ l₃ I₃ h₃ => ⟨l₃, I₃, h₃⟩
end
end T
namespace TX
section
variable {α : Type} {b : Bs} {A : Around} {l l' : Led} {env : Env} {mw it a : Addr} {ns : List Int} {i : Nat} {pos pos' : Pos} {X : Led → Prop}
theorem of {t : Sem α} {Q : α → Led → Prop} (h : T b A t Q l) : TX b A t Q X l := fun s I => h.to I fun a s' l' I' h' => ⟨l', I', h'⟩
theorem exC {st : Stmt} {rest : List Stmt} {Q : Flow → Led → Prop} (h : TX b A (exec st env) (fun f l' => match f with | .next => TX b A (execs rest env) Q X l' | f => Q f l') X l) : TX b A (execs (st :: rest) env) Q X l := fun s I =>
  wpAny_execs_cons (wpAny_mono (h s I) (fun f s' ⟨l', I', h'⟩ => by cases f <;> first | exact h' s' I' | exact ⟨l', I', h'⟩) fun _ _ x => x)
theorem asgN {x : Str} {value : Expr} {Q : Flow → Led → Prop} (h : TX b A (eval value env) (fun v l' => T b A (storeName env x v) (fun _ => Q .next) l') X l)
    (hs : swapsWith value (some (.Name x pos')) pos.line env = pure false := by k_dflt rfl) : TX b A (exec (.Assign [.Name x pos'] value pos) env) Q X l := fun s I =>
  wpAny_Assign_Name (wpAny_mono (h s I) (fun v s' ⟨l', I', h'⟩ => h'.to I' fun _ s₂ l₂ I₂ h₂ => ⟨l₂, I₂, h₂⟩) fun _ _ x => x) hs
theorem fcall {func : Expr} {args : List Expr} {Q : Value → Led → Prop} (h : T b A (eval func env) (fun f l₁ => TX b A (callWith pos f [] (backTo pos (starEach args env)) []) Q X l₁) l)
    (he : eval (.Call func args [] pos) env = (do callWith pos (← eval func env) [] (backTo pos (starEach args env)) (backToKw pos (keywordEach [] env))) := by k_dflt rfl) :
    TX b A (eval (.Call func args [] pos) env) Q X l := fun s I => Call_ (h.to I fun _ s₁ _ I₁ h₁ => h₁ s₁ I₁) he
theorem mwItem {t : Int} {Q : Value → Led → Prop} (hm : (mw, isMW it) ∈ l) (hl : (a, isInts ns) ∈ l) (R : Rep it (isListIt a i) (isListIt a (i + 1)) l l') (hx : ns[i]? = some t) (h : ∀ u, Q (.int t u) l') : TX b A (callWith pos (.ref mw) [] (backTo pos (starEach [] env)) []) Q X l := fun s I => by
  refine callWith_MW (I.st.get hm) (call_MW (I.st.get hm) ?_)
  obtain ⟨o, e, vs, hi, nn, rfl⟩ := I.st.get hl
  obtain ⟨u, hv⟩ := hi.get i t hx
  refine li_item (I.st.get R.mem) ⟨_, e, rfl, _, rfl⟩ (x := .int t u) (by simpa using hv) fun h' hit hs => ?_
  exact ⟨l', I.up (tk := s.toks) (I.st.same R hs hit), h u⟩
theorem mwEnd {u v : Led} {Q : Value → Led → Prop} (hh : A.handled = none) (hl0 : l = u ++ (it, isListIt a i) :: v) (hm : (mw, isMW it) ∈ l) (hl : (a, isInts ns) ∈ l) (hx : ns.length ≤ i) (h : X (u ++ v)) : TX b A (callWith pos (.ref mw) [] (backTo pos (starEach [] env)) []) Q X l := fun s I => by
  refine callWith_MW (I.st.get hm) (call_MW (I.st.get hm) ?_)
  obtain ⟨o, e, vs, hi, nn, rfl⟩ := I.st.get hl
  refine li_end hh (I.st.get (p := isListIt a i) (by rw [hl0]; simp)) ⟨_, e, rfl, _, rfl⟩ (by have := hi.length; simp; omega) fun h' ex k he hx' => ?_
  exact ⟨ex, u ++ v, rfl, I.up (tk := s.toks) (I.st.exc hl0 k he hx'), h⟩
end
end TX

namespace T
section
variable {b : Bs} {A : Around} {l l' : Led} {env : Env} {pos : Pos} {a it : Addr} {ns : List Int} {xs : List Value} {d : Addr} {kvs : List (Int × Value)} {i : Int} {t : Tok} {v : Value}
theorem brkS {Q : Flow → Led → Prop} (h : Q .brk l) : T b A (exec (.Break pos) env) Q l := fun s I => wpAny_Break ⟨l, I, h⟩
theorem boolC {c : Bool} {k : Nat} {Q : Value → Led → Prop} (h : Q (.bool c) l) : T b A (eval (.Constant (.bool c) k pos) env) Q l := fun s I => wpAny_pure ⟨l, I, h⟩
theorem contS {Q : Flow → Led → Prop} (h : Q .cont l) : T b A (exec (.Continue pos) env) Q l := fun s I => wpAny_Continue ⟨l, I, h⟩
theorem exprR {e : Expr} {Q : Flow → Led → Prop} (h : T b A (eval e env) (fun _ l' => Q .next l') l) (hi : interactive env = false := by k_dflt rfl)
    (hs : swapsWith e none pos.line env = pure false := by k_dflt rfl) : T b A (exec (.Expr e pos) env) Q l := fun s I => wpAny_Expr_any (h s I) hi hs
theorem trList {Q : Bool → Led → Prop} (hm : (a, isList xs) ∈ l) (hz : xs.length < 1000) (h : Q (!xs.isEmpty) l) : T b A (truthy (.ref a)) Q l := fun s I => by
  have H := I.st.list hm
  refine wpAny_truthy_list H (by simp; omega) ⟨l, I.up I.st, ?_⟩
  simpa using h
theorem trInts {Q : Bool → Led → Prop} (hm : (a, isInts ns) ∈ l) (hz : ns.length < 1000) (h : Q (!ns.isEmpty) l) : T b A (truthy (.ref a)) Q l := fun s I => by
  obtain ⟨o, e, vs, hi, n, rfl⟩ := I.st.get hm
  have hl := hi.length
  refine wpAny_truthy_list (items := vs.toArray) ⟨_, e, rfl, _, rfl⟩ (by simp; omega) ⟨l, I.up I.st, ?_⟩
  have e' : (!vs.toArray.isEmpty) = (!ns.isEmpty) := by cases vs <;> cases ns <;> simp at hl ⊢
  rw [e']; exact h
theorem trNone {Q : Bool → Led → Prop} (h : Q false l) : T b A (truthy .none) Q l := fun s I => wpAny_pure ⟨l, I, h⟩
theorem lastL {Q : Value → Led → Prop} {value slice : Expr} (hm : (a, isList xs) ∈ l) (hx : xs.getLast? = some v) (hz : xs.length < 1000) (h : Q v l) (he : subscripted slice false (.ref a) (.int (-1) t) = operate [.ref a, .int (-1) t] (getItem (.ref a) (.int (-1) t)) := by k_dflt rfl) : T b A (subscriptTail value slice (.ref a) (.int (-1) t)) Q l := fun s I => by
  have H := I.st.list hm
  have hne : xs ≠ [] := by rintro rfl; simp at hx
  have hlen : 0 < xs.length := List.length_pos_iff.mpr hne
  refine PyProof.Rows.tail_any H.typeIs slot_list_getitem.lookup (wpAny_getItem_list_neg (x := v) H (by omega) (by simp; omega) (by omega) ?_ ⟨l, I, h⟩) he
  have e1 : ((-1 : Int) + (xs.toArray.size : Int)).toNat = xs.length - 1 := by simp; omega
  rw [e1]
  rw [List.getLast?_eq_getElem?] at hx
  simpa using hx
theorem popL {Q : Value → Led → Prop} (R : Rep a (isList (xs ++ [v])) (isList xs) l l') (hz : xs.length < 1000) (h : Q v l') : T b A (call (.builtin "list.pop") [.ref a]) Q l := fun s I => by
  obtain ⟨o, e, n, rfl⟩ := I.st.get R.mem
  refine call_meets F.slot_list_pop (T := "list") ⟨_, e, rfl⟩ F.entry_list_pop (F.args_list_pop_1 _) (MeetsSeq.list_pop_last a (xs ++ [v]).toArray n v (by simp) (by have : sizeLine = 2 ^ 24 := rfl; simp; omega)) ⟨e, ?_⟩
  refine ⟨l', I.up (tk := s.toks) (I.st.same R (Heap.SameBut.update ..) ⟨_, IsL.update e _, isList_mk ?_⟩), h⟩
  rw [eraseIdx_toArray]
  simp [List.eraseIdx_append_of_length_le]
theorem delS {o i : Expr} {pos pos' : Pos} {Q : Flow → Led → Prop} (h : T b A (eval o env) (fun ov l₁ => T b A (eval i env) (fun iv l₂ => T b A (delItem ov iv) (fun _ => Q .next) l₂) l₁) l) : T b A (exec (.Delete [.Subscript o i pos] pos') env) Q l := fun s I =>
  wpAny_Delete (wpAny_deleteEach_cons (delete_Subscript (h.to I fun ov s₁ l₁ I₁ h₁ => h₁.to I₁ fun iv s₂ l₂ I₂ h₂ => h₂.to I₂ fun _ s₃ l₃ I₃ h₃ => wpAny_deleteEach_nil ⟨l₃, I₃, h₃⟩)))
theorem dDel {Q : Unit → Led → Prop} (R : Rep d (isDict b kvs) (isDict b (without kvs i)) l l') (hin : (valueAt kvs i).isSome = true) (hz : kvs.length ≤ 1000) (h : Q () l') : T b A (delItem (.ref d) (.int i t)) Q l := fun s I => by
  have hD := I.st.dict R.mem
  unfold delItem
  try with_reducible refine wpAny_holding ?_
  refine wpAny_bind (wpAny_sequenceKey hD.typeIs (by decide) ?_)
  refine wpAny_bind (wpAny_callSpecial?_slot (name := Str.ofString "__delitem__") hD.typeIs PySem.F.slot_dict_delitem
    (call_meetsIn PySem.F.slot_dict_delitem hD.typeIs PySem.F.entry_dict_delitem (PySem.F.args_dict_delitem_2 _ _) (meets_dict_delitem_pairs (intKind pg b.w) d (intKind_is _ _ i t)) ⟨kvs, hD, by have : sizeLine = 2 ^ 24 := rfl; omega, hin, fun h' hmm hs => ?_⟩))
  exact wpAny_pure ⟨l', I.up (I.st.same R hs (Heap.dictOf_iff.mp hmm)), h⟩
/-- iter() of a list of ints, with the iterator told whole -/
theorem iterLI {Q : Value → Led → Prop} (hm : (a, isInts ns) ∈ l) (h : ∀ it, Q (.ref it) ((it, isO { cls := .type "list_iterator", data := .fields #[.ref a, .int 0 0] }) :: l)) : T b A (pyIter (.ref a)) Q l := fun s I => by
  obtain ⟨o, e, vs, hi, n, rfl⟩ := I.st.get hm
  exact wpAny_pyIter_list (items := vs.toArray) ⟨_, e, rfl, _, rfl⟩ ⟨_, I.up (tk := s.toks) (I.st.push (p := isO { cls := .type "list_iterator", data := .fields #[.ref a, .int 0 0] }) rfl), h _⟩
theorem nextOf {Q : Value → Led → Prop} (hm : (it, isO { cls := .type "list_iterator", data := .fields #[.ref a, .int 0 0] }) ∈ l) (h : ∀ mw, Q (.ref mw) ((mw, isMW it) :: l)) : T b A (getAttr (.ref it) "__next__" true) Q l := fun s I => by
  obtain ⟨o, e, rfl⟩ := I.st.get hm
  exact getAttr_listiter_next s rfl rfl rfl e fun tk => ⟨_, I.up (tk := tk) (I.st.push ⟨rfl, rfl⟩), h _⟩
end
end T
theorem TX.noX {α : Type} {b : Bs} {A : Around} {l : Led} {t : Sem α} {Q : α → Led → Prop} (h : TX b A t Q (fun _ => False) l) : T b A t Q l := fun s I =>
  wpAny_mono (h s I) (fun _ _ x => x) fun _ _ ⟨_, _, _, _, x⟩ => x.elim

structure Nd where
  id : Int
  t : Tok
  np : Int
  tp : Tok
  x : Addr
  dx : Addr
  sx : Addr
  succ : List Int
def Nd.ents (n : Nd) (l : Led) : Led := (n.x, isO (slotObj 76 n.dx [.int n.id n.t, .int n.np n.tp, .ref n.sx])) :: (n.dx, isO emptyDict) :: (n.sx, isInts n.succ) :: l
/-- the nodes' own objects, ahead of l; the last made first -/
def nds : List Nd → Led → Led
  | [], l => l
  | n :: N, l => n.ents (nds N l)
def kvs (N : List Nd) : List (Int × Value) := N.reverse.map fun n => (n.id, .ref n.x)
theorem valueAt_append {xs ys : List (Int × Value)} {i : Int} : valueAt (xs ++ ys) i = (valueAt xs i).or (valueAt ys i) := by
  unfold valueAt
  rw [List.find?_append]
  cases xs.find? (fun kv => kv.1 = i) <;> rfl
theorem kvs_cons (n : Nd) (N : List Nd) : kvs (n :: N) = kvs N ++ [(n.id, .ref n.x)] := by simp [kvs]
theorem valueAt_none {N : List Nd} {i : Int} (h : ∀ n ∈ N, n.id ≠ i) : valueAt (kvs N) i = none := by
  induction N with
  | nil => rfl
  | cons n N ih =>
    rw [kvs_cons, valueAt_append, ih fun m hm => h m (.tail _ hm)]
    have := h n (.head _)
    simp [valueAt, this]
theorem valueAt_some {N : List Nd} {i : Int} {n : Nd} (hn : n ∈ N) (he : n.id = i) (hd : (N.map (·.id)).Nodup) : valueAt (kvs N) i = some (.ref n.x) := by
  induction N with
  | nil => cases hn
  | cons m N ih =>
    rw [kvs_cons, valueAt_append]
    simp only [List.map_cons, List.nodup_cons] at hd
    rcases List.mem_cons.mp hn with rfl | hn
    · rw [valueAt_none fun k hk e => hd.1 (List.mem_map.mpr ⟨k, hk, e.trans he.symm⟩)]
      simp [valueAt, he]
    · rw [ih hn hd.2]; rfl
theorem stored_new {N : List Nd} {n : Nd} (h : ∀ m ∈ N, m.id ≠ n.id) : stored (kvs N) n.id (.ref n.x) = kvs (n :: N) := by
  rw [kvs_cons]
  unfold stored
  rw [if_neg]
  simp only [List.any_eq_true, decide_eq_true_eq, not_exists, not_and]
  rintro ⟨k, v⟩ hk e
  obtain ⟨m, hm, e2⟩ := List.mem_map.mp hk
  cases e2
  exact h m (List.mem_reverse.mp hm) e
namespace T
section
variable {b : Bs} {A : Around} {l : Led} {env : Env} {pos pos' : Pos}
end
end T

/-- what the sorter's own dict bears -/
def attrs (nd : Addr) (rn p f : Value) : List (Str × Value) := [("_node2info", .ref nd), ("_ready_nodes", rn), ("_npassedout", p), ("_nfinished", f)]
section
variable {P : Params}
theorem g173 (x : Str) : plainGet (hd.heap_1 P) 173 x = true := by
  show plainGet (hd.heap_1 P) 173 "" = true
  kernel_rfl
theorem h173 : hasDictIn (hd.heap_1 P) 173 = true := by kernel_rfl
theorem f173a : findIn (hd.heap_1 P) (.ref 173) "_node2info" = some none := by kernel_rfl
theorem f173b : findIn (hd.heap_1 P) (.ref 173) "_ready_nodes" = some none := by kernel_rfl
theorem f173c : findIn (hd.heap_1 P) (.ref 173) "_npassedout" = some none := by kernel_rfl
theorem f173d : findIn (hd.heap_1 P) (.ref 173) "_nfinished" = some none := by kernel_rfl
theorem s173 : findIn (hd.heap_1 P) (.ref 173) "__setattr__" = some (some (.builtin "object.__setattr__")) := by kernel_rfl
theorem p173 : plainOver (hd.heap_1 P) 173 = true := by kernel_rfl
theorem taker_none {K : Frag} {C : Addr} {x : Str} (h : findIn K (.ref C) x = some none) : takerIn K C x = some none := by unfold takerIn; rw [h]; rfl
end
namespace T
section
variable {b : Bs} {A : Around} {l l' : Led} {sr dsr L : Addr} {xs : List (Str × Value)} {x : Str} {v : Value} {m : Str → Option Value}
/-- an attribute of the sorter -/
theorem gA {Q : Value → Led → Prop} (hx : (sr, isO (instObj 173 dsr)) ∈ l) (ha : findIn (hd.heap_1 b.w.params) (.ref 173) x = some none) (hda : (dsr, isAt xs) ∈ l) (hl : xs.lookup x = some v) (hv : handedIn v = true) (h : Q v l) {e : Bool} : T b A (getAttr (.ref sr) x e) Q l :=
  T.getA (kin b l) hx hda (g173 _) h173 ha rfl hl hv h
theorem sA {Q : Unit → Led → Prop} (hx : (sr, isO (instObj 173 dsr)) ∈ l) (ha : findIn (hd.heap_1 b.w.params) (.ref 173) x = some none) (R : Rep dsr (isAt xs) (isAt (setA x v xs)) l l') (hL : (L, isNs m) ∈ l) (hz : xs.length ≤ 100) (h : Q () l') : T b A (setAttr (.ref sr) x v) Q l :=
  T.setAt (kin b l) hx R hL s173 p173 (taker_none ha) h173 hz h
end
end T
section
variable {b : Bs} {A : Around} {l : Led} {n d : Nat}
set_option maxHeartbeats 8000000 in
theorem getInfoT {sr dsr nd : Addr} {N : List Nd} {i : Int} {t : Tok} {rn p f : Value} {l' : Nd → Led} {Q : Value → Led → Prop} (hA : Ok A (d + 3)) (lo : (nd == sysModules) = false) (hsr : (sr, isO (instObj 173 dsr)) ∈ l) (hda : (dsr, isAt (attrs nd rn p f)) ∈ l) (hnd : (nd, isDict b (kvs N)) ∈ l)
    (hN : (N.map (·.id)).Nodup) (hz : N.length ≤ 100) (hold : ∀ n ∈ N, n.id = i → Q (.ref n.x) l) (R : (∀ n ∈ N, n.id ≠ i) → ∀ n : Nd, n.id = i → Rep nd (isDict b (kvs N)) (isDict b (kvs (n :: N))) l (l' n))
    (hnew : (∀ n ∈ N, n.id ≠ i) → ∀ n : Nd, n.id = i → n.np = 0 → n.succ = [] → Q (.ref n.x) (n.ents (l' n))) : T b A (call (.ref 116) [.ref sr, .int i t]) Q l := by
  refine T.enter (binds := [("self", .ref sr), ("node", .int i t)]) hA (by exact rfl) (by kernel_rfl) (fun _ _ => BindsTo.of_eq rfl) (by rfl) (fun L K hK => ?_)
  walk_at "go"
  refine T.gA (.tail _ hsr) f173a (.tail _ hda) rfl rfl ?_
  refine T.gmDict (.tail _ hnd) PySem.F.slot_dict_get PySem.F.type_dict_get ?_
  walk_at "go"
  refine T.dGet (.tail _ hnd) lo ?_
  walk_at "go"
  by_cases hx : ∃ n ∈ N, n.id = i
  · obtain ⟨n, hn, he⟩ := hx
    rw [valueAt_some hn he hN]
    simp only [Option.getD_some]
    walk_at "go"
    rw [if_neg (by show ¬ ((Value.ref n.x == Value.none) = true); exact Bool.false_ne_true)]
    walk_at "go"
    refine hK _ _ ?_
    exact ⟨l, by walk_at "pick", hold n hn he⟩
  · have hx' : ∀ n ∈ N, n.id ≠ i := fun n hn he => hx ⟨n, hn, he⟩
    rw [valueAt_none hx']
    walk_at "go"
    rw [if_pos (by rfl)]
    walk_at "go"
    (try refine T.asg2 ?_ rfl rfl)
    walk_at "go"
    refine T.cwK1 (by kernel_rfl) ?_
    walk_at "go"
    refine nodeT hA.deeper fun x dx sx t' => ?_
    refine T.aSub ?_
    walk_at "go"
    refine T.gA (by walk_at "mm") f173a (by walk_at "mm") rfl rfl ?_
    walk_at "go"
    refine T.dSet (kvs := kvs N) (l' := _ :: _ :: _ :: _ :: l' ⟨i, t, 0, t', x, dx, sx, []⟩) (.tail (.tail (.tail (.tail ?_)))) (by simp [kvs]; omega) ?_
    · rw [show stored (kvs N) i (.ref x) = kvs (⟨i, t, 0, t', x, dx, sx, []⟩ :: N) from stored_new (n := ⟨i, t, 0, t', x, dx, sx, []⟩) hx']
      exact R hx' ⟨i, t, 0, t', x, dx, sx, []⟩ rfl
    walk_at "go"
    refine hK _ _ ?_
    exact ⟨(x, _) :: (dx, _) :: (sx, _) :: l' ⟨i, t, 0, t', x, dx, sx, []⟩, by walk_at "pick", hnew hx' ⟨i, t, 0, t', x, dx, sx, []⟩ rfl rfl rfl⟩
end

namespace T
section
variable {b : Bs} {A : Around} {l : Led} {Q : Value → Led → Prop}
/-- a def with a star parameter -/
theorem enterV {n : Nat} {name qual : Str} {params : Arguments} {body : List Stmt} {scope : Scope} {dV kV doc pm cdv ct oc : Value} {an od : Option Addr} {osl : Array (Option Value)} {f : Addr} {args rest : List Value} {binds : Value → List (Str × Value)}
    (hA : Ok A (n + 1)) (ho : (hd.heap_1 b.w.params).lookup f = some ⟨oc, od, .func (fnOf name qual params body scope dV kV doc pm an cdv ct), osl⟩) (hcd : codeIn (hd.heap_1 b.w.params) cdv qual = true)
    (hbind : bindArgs (fnOf name qual params body scope dV kV doc pm an cdv ct) ⟨args, []⟩ = newTuple rest >>= fun t => pure (binds t)) (hsz : rest.length ≤ sizeLine) (hloc : ∀ t, ((binds t).all fun x => decide (scope.names.lookup x.1 = some .local)) = true)
    (h : ∀ tv L (K : Flow → Led → Prop), (∀ fl l', Out (Q (match fl with | .ret v => v | _ => .none)) l' → K fl l') → T b (A.deeper (envX qual scope L f cdv [])) (execs body (envX qual scope L f cdv [])) K ((L, isNs (ofB (binds (.ref tv)))) :: (tv, isTuple rest) :: l))
    (hcell : ∀ x ∈ scope.names, x.2 ≠ .cell := by decide) (hco : scope.isCoroutine = false := by k_dflt rfl) (hgen : scope.isGenerator = false := by k_dflt rfl) (hk : scope.kind = .function := by k_dflt rfl) :
    T b A (call (.ref f) args) Q l := fun s I => by
  refine wpAny_call (codeAny_call_function (fd := fnOf name qual params body scope dV kV doc pm an cdv ct) (body := body) hA.room (b.B.X.keeps I.st.keep _ _ ho) rfl hco hgen rfl (codeRec_of (b.B.X.keeps I.st.keep) hcd) ?_)
  rw [hbind]
  refine wpAny_bind (newTupleS I.st (fun tv h₁ H₁ => wpAny_pure ?_) hsz)
  refine wpAny_newFunctionEnv hcell (locs (hloc _)) (fun h₀ hns₀ hsb₀ => ⟨(b.B.nolimit.keeps H₁.keep).fresh _ hsb₀, codeAny_func ?_⟩) hk
  have hk₁ : ∀ b o, h₁.get? b = some o → h₀.get? b = some o := fun b o e => hsb₀.extBut b o (Nat.ne_of_lt (Heap.lt_size e)) (Heap.get?_push_of_some _ e)
  have H₂ := H₁.new (p := isNs (ofB (binds (.ref tv)))) hk₁ (Nat.le_refl _) (isNs_of hns₀)
  exact (h tv _ _ fun _ _ x => x).to (I.up H₂) fun fl s' l' I' ⟨t, x, h'⟩ => ⟨t, I'.pick x, h'⟩
end
end T

def isTupIt (x : Addr) (i : Nat) : OP := fun o => o.cls = .type "tuple_iterator" ∧ o.data = .fields #[.ref x, .int i 0]
theorem S.tup {h₀ h : Heap} {l : Led} {a : Addr} {xs : List Value} (H : S h₀ l h) (hm : (a, isTuple xs) ∈ l) : h.IsTuple a xs.toArray := by
  obtain ⟨o, e, rfl⟩ := H.get hm; exact ⟨_, e, rfl, _, rfl⟩
theorem It.tup {w A} (hh : A.handled = none) {it x : Addr} {xs : List Value} : It w A it xs.length (fun i v => xs[i]? = some v) (isTupIt x) (fun h => h.IsTuple x xs.toArray) where
  step := fun i s Q E hi ⟨o, e, r⟩ hl hQ => wpAny_pyNext_tuple_item (x := xs[i]) ⟨o, e, r⟩ hl (by simp [hi]) fun h' ⟨o', e', r'⟩ hs' => hQ _ h' s.toks (by simp [hi]) hs' ⟨o', e', r'⟩
  stop := fun s Q E ⟨o, e, r⟩ hl hQ => wpAny_pyNext_tuple_end hh ⟨o, e, r⟩ hl (by simp) fun h' he => hQ h' s.toks he
  self := fun i s Q E ⟨o, e, r⟩ hQ => wpAny_pyIter_tupleiter ⟨o, e, r⟩ hQ
namespace T
section
variable {b : Bs} {A : Around} {l l' : Led} {Q : Value → Led → Prop} {a : Addr} {xs : List Value} {i j : Int} {t u : Tok}
theorem iterTup (hm : (a, isTuple xs) ∈ l) (h : ∀ it, Q (.ref it) ((it, isTupIt a 0) :: l)) : T b A (pyIter (.ref a)) Q l := fun s I =>
  wpAny_pyIter_tuple (I.st.tup hm) ⟨_, I.up (tk := s.toks) (I.st.push ⟨rfl, rfl⟩), h _⟩
theorem lenT (hm : (a, isTuple xs) ∈ l) (hsz : xs.length < 2 ^ 60) (h : ∀ t, Q (.int xs.length t) l) : T b A (call (.builtin "len") [.ref a]) Q l := fun s I => by
  obtain ⟨o, e, rfl⟩ := I.st.get hm
  exact len_tuple (items := xs.toArray) ⟨_, e, rfl, _, rfl⟩ (by simp; omega) ⟨l, I.up I.st, by simpa using h _⟩
theorem iadd (h : ∀ t, Q (.int (i + j) t) l) : T b A (inplaceOp .Add (.int i t) (.int j u)) Q l := fun s I => PySem.P.iadd_int ⟨l, I.up I.st, h _⟩
theorem isub (h : ∀ t, Q (.int (i - j) t) l) : T b A (inplaceOp .Sub (.int i t) (.int j u)) Q l := fun s I => PySem.P.isub_int ⟨l, I.up I.st, h _⟩
end
end T
/-! the nodes in the ledger -/
theorem nds_mem {N : List Nd} {l : Led} {n : Nd} (h : n ∈ N) : (n.x, isO (slotObj 76 n.dx [.int n.id n.t, .int n.np n.tp, .ref n.sx])) ∈ nds N l ∧ (n.dx, isO emptyDict) ∈ nds N l ∧ (n.sx, isInts n.succ) ∈ nds N l := by
  induction N with
  | nil => cases h
  | cons m N ih =>
    rcases List.mem_cons.mp h with rfl | h
    · exact ⟨.head _, .tail _ (.head _), .tail _ (.tail _ (.head _))⟩
    · obtain ⟨a, b, c⟩ := ih h
      exact ⟨.tail _ (.tail _ (.tail _ a)), .tail _ (.tail _ (.tail _ b)), .tail _ (.tail _ (.tail _ c))⟩
theorem nds_tail {N : List Nd} {l : Led} {p} (h : p ∈ l) : p ∈ nds N l := by
  induction N with
  | nil => exact h
  | cons m N ih => exact .tail _ (.tail _ (.tail _ ih))
/-- another number of predecessors for one of the nodes -/
theorem nds_np {U V : List Nd} {l : Led} {n : Nd} (k : Int) (tk : Tok) : Rep n.x (isO (slotObj 76 n.dx [.int n.id n.t, .int n.np n.tp, .ref n.sx])) (isO (slotObj 76 n.dx [.int n.id n.t, .int k tk, .ref n.sx])) (nds (U ++ n :: V) l) (nds (U ++ { n with np := k, tp := tk } :: V) l) := by
  induction U with
  | nil => exact .head
  | cons m U ih => exact .tail (.tail (.tail ih))
/-- another list of successors -/
theorem nds_succ {U V : List Nd} {l : Led} {n : Nd} (ss : List Int) : Rep n.sx (isInts n.succ) (isInts ss) (nds (U ++ n :: V) l) (nds (U ++ { n with succ := ss } :: V) l) := by
  induction U with
  | nil => exact .tail (.tail .head)
  | cons m U ih => exact .tail (.tail (.tail ih))
theorem kvs_np {U V : List Nd} {n n' : Nd} (h1 : n'.id = n.id) (h2 : n'.x = n.x) : kvs (U ++ n' :: V) = kvs (U ++ n :: V) := by simp [kvs, h1, h2]
theorem ids_np {U V : List Nd} {n n' : Nd} (h1 : n'.id = n.id) : (U ++ n' :: V).map (·.id) = (U ++ n :: V).map (·.id) := by simp [h1]
/-- what the nodes are when the edges es were told to the sorter -/
structure Told (N : List Nd) (es : List (Int × Int)) : Prop where
  nd : (N.map (·.id)).Nodup
  ids : ∀ i, i ∈ N.map (·.id) ↔ ∃ e ∈ es, i = e.1 ∨ i = e.2
  np : ∀ n ∈ N, n.np = ((es.filter fun e => e.1 = n.id).length : Nat)
  succ : ∀ n ∈ N, n.succ = (es.filter fun e => e.2 = n.id).map (·.1)
theorem Told.nil : Told [] [] := ⟨by simp, by simp, by simp, by simp⟩
abbrev SL (b : Bs) (sr dsr nd : Addr) (rn p f : Value) (N : List Nd) (l : Led) : Led := (sr, isO (instObj 173 dsr)) :: (dsr, isAt (attrs nd rn p f)) :: (nd, isDict b (kvs N)) :: nds N l

theorem Rep.app {a : Addr} {p p' : OP} {r r' : Led} (R : Rep a p p' r r') : ∀ front : Led, Rep a p p' (front ++ r) (front ++ r')
  | [] => R
  | _ :: f => .tail (R.app f)
theorem Pick.skip {t l : Led} (x : Pick t l) : ∀ front : Led, Pick t (front ++ l)
  | [] => x
  | _ :: f => .drop (x.skip f)
theorem T.out {α : Type} {b : Bs} {A : Around} {m : Sem α} {Q : α → Led → Prop} {l : Led} (h : T b A m (fun v => T.Out (Q v)) l) : T b A m Q l := fun s I => h.to I fun v s' l' I' ⟨t, x, q⟩ => ⟨t, I'.pick x, q⟩
/-- what _get_nodeinfo leaves -/
structure Got (N U V : List Nd) (n : Nd) (i : Int) : Prop where
  id : n.id = i
  eq : U ++ n :: V = N ∨ (U = [] ∧ V = N ∧ n.np = 0 ∧ n.succ = [] ∧ ∀ m ∈ N, m.id ≠ i)
section
variable {b : Bs} {A : Around} {l : Led} {n d : Nat}
theorem infoT {sr dsr nd : Addr} {N : List Nd} {i : Int} {t : Tok} {rn p f : Value} {front : Led} {Q : Value → Led → Prop} (hA : Ok A (d + 3)) (lo : (nd == sysModules) = false) (hN : (N.map (·.id)).Nodup) (hz : N.length ≤ 100)
    (h : ∀ U V n, Got N U V n i → Q (.ref n.x) (front ++ SL b sr dsr nd rn p f (U ++ n :: V) l)) : T b A (call (.ref 116) [.ref sr, .int i t]) Q (front ++ SL b sr dsr nd rn p f N l) := by
  refine T.out ?_
  refine getInfoT (N := N) (l' := fun n => front ++ ((sr, isO (instObj 173 dsr)) :: (dsr, isAt (attrs nd rn p f)) :: (nd, isDict b (kvs (n :: N))) :: nds N l)) hA lo (List.mem_append_right _ (.head _)) (List.mem_append_right _ (.tail _ (.head _))) (List.mem_append_right _ (.tail _ (.tail _ (.head _)))) hN hz ?_ ?_ ?_
  · intro n hn he
    obtain ⟨U, V, e⟩ := List.append_of_mem hn
    refine ⟨_, .refl, ?_⟩
    have := h U V n ⟨he, .inl e.symm⟩
    rwa [← e] at this
  · intro _ n _
    exact Rep.app (.tail (.tail .head)) front
  · intro hx n he h1 h2
    refine ⟨_, ?_, h [] N n ⟨he, .inr ⟨rfl, rfl, h1, h2, hx⟩⟩⟩
    refine .perm ?_ .refl
    have p1 : ∀ (x : Addr × OP) (l₁ l₂ : Led), (x :: (l₁ ++ l₂)).Perm (l₁ ++ x :: l₂) := fun x l₁ l₂ => List.perm_middle.symm
    unfold Nd.ents
    refine (((p1 _ front _).cons _).cons _).trans (((p1 _ front _).cons _).trans ((p1 _ front _).trans (List.Perm.append_left _ ?_)))
    exact (List.perm_append_comm (l₁ := [_, _, _]) (l₂ := [_, _, _])).append_right (nds N l)
end

/-- the nodes as functions of their names -/
structure ToldF (N : List Nd) (D : Int → Prop) (P : Int → Int) (S : Int → List Int) : Prop where
  nd : (N.map (·.id)).Nodup
  ids : ∀ i, i ∈ N.map (·.id) ↔ D i
  np : ∀ n ∈ N, n.np = P n.id
  succ : ∀ n ∈ N, n.succ = S n.id
  off : ∀ i, ¬ D i → P i = 0 ∧ S i = []
theorem ToldF.got {N U V n i D P S} (x : ToldF N D P S) (g : Got N U V n i) : ToldF (U ++ n :: V) (fun j => D j ∨ j = i) P S := by
  rcases g.eq with e | ⟨rfl, rfl, h1, h2, h3⟩
  · rw [e]
    have hi : i ∈ N.map (·.id) := by rw [← e, ← g.id]; simp
    exact ⟨x.nd, fun j => ⟨fun h => .inl ((x.ids j).mp h), fun h => h.elim (x.ids j).mpr fun q => by rw [q]; exact hi⟩, x.np, x.succ, fun j h => x.off j fun q => h (.inl q)⟩
  · have hd : ¬ D i := fun q => by
      obtain ⟨m, hm, e⟩ := List.mem_map.mp ((x.ids i).mpr q)
      exact h3 m hm e
    refine ⟨?_, fun j => ?_, fun m hm => ?_, fun m hm => ?_, fun j h => x.off j fun q => h (.inl q)⟩
    · rw [List.nil_append, List.map_cons, List.nodup_cons, g.id]
      exact ⟨fun q => by obtain ⟨m, hm, e⟩ := List.mem_map.mp q; exact h3 m hm e, x.nd⟩
    · rw [List.nil_append, List.map_cons, List.mem_cons, g.id, x.ids j]; exact Or.comm
    · rcases List.mem_cons.mp hm with rfl | hm
      · rw [h1, g.id, (x.off i hd).1]
      · exact x.np m hm
    · rcases List.mem_cons.mp hm with rfl | hm
      · rw [h2, g.id, (x.off i hd).2]
      · exact x.succ m hm
theorem ToldF.upd {U V n n' D P S P' S'} (x : ToldF (U ++ n :: V) D P S) (hid : n'.id = n.id) (hP : ∀ j, j ≠ n.id → P' j = P j) (hS : ∀ j, j ≠ n.id → S' j = S j) (h1 : n'.np = P' n.id) (h2 : n'.succ = S' n.id) : ToldF (U ++ n' :: V) D P' S' := by
  have hn : D n.id := (x.ids n.id).mp (by simp)
  have apart : ∀ m ∈ U ++ n' :: V, m = n' ∨ (m ∈ U ++ n :: V ∧ m.id ≠ n.id) := by
    intro m hm
    have nd := x.nd
    simp only [List.map_append, List.map_cons] at nd
    have nd2 := List.nodup_append.mp nd
    rcases List.mem_append.mp hm with h | h
    · exact .inr ⟨List.mem_append_left _ h, fun e => nd2.2.2 m.id (List.mem_map_of_mem h) n.id (.head _) e⟩
    · rcases List.mem_cons.mp h with h | h
      · exact .inl h
      · exact .inr ⟨List.mem_append_right _ (.tail _ h), fun e => (List.nodup_cons.mp nd2.2.1).1 (e ▸ List.mem_map_of_mem h)⟩
  refine ⟨by rw [ids_np hid]; exact x.nd, fun j => by rw [ids_np hid]; exact x.ids j, fun m hm => ?_, fun m hm => ?_, fun j h => ?_⟩
  · rcases apart m hm with rfl | ⟨h, e⟩
    · rw [h1, hid]
    · rw [x.np m h, hP _ e]
  · rcases apart m hm with rfl | ⟨h, e⟩
    · rw [h2, hid]
    · rw [x.succ m h, hS _ e]
  · have e : j ≠ n.id := fun q => h (q ▸ hn)
    rw [hP j e, hS j e]; exact x.off j h
theorem Told.toF {N es} (x : Told N es) : ToldF N (fun i => ∃ e ∈ es, i = e.1 ∨ i = e.2) (fun i => ((es.filter fun e => e.1 = i).length : Nat)) (fun i => (es.filter fun e => e.2 = i).map (·.1)) := by
  refine ⟨x.nd, x.ids, x.np, x.succ, fun i h => ?_⟩
  have h1 : es.filter (fun e => e.1 = i) = [] := by rw [List.filter_eq_nil_iff]; intro e he; simp; exact fun q => h ⟨e, he, .inl q.symm⟩
  have h2 : es.filter (fun e => e.2 = i) = [] := by rw [List.filter_eq_nil_iff]; intro e he; simp; exact fun q => h ⟨e, he, .inr q.symm⟩
  simp [h1, h2]
theorem told_add {N U V U' V' es n n' p c tk} (x : Told N es) (g : Got N U V n p) (g' : Got (U ++ { n with np := n.np + 1, tp := tk } :: V) U' V' n' c) : Told (U' ++ { n' with succ := n'.succ ++ [p] } :: V') (es ++ [(p, c)]) := by
  have a1 := x.toF.got g
  have a2 := a1.upd (n' := { n with np := n.np + 1, tp := tk }) (P' := fun i => (((es ++ [(p, c)]).filter fun e => e.1 = i).length : Nat)) (S' := fun i => (es.filter fun e => e.2 = i).map (·.1)) rfl
    (fun j hj => by rw [g.id] at hj; simp [List.filter_append, List.filter_cons, Ne.symm hj]) (fun _ _ => rfl)
    (by show n.np + 1 = _; rw [a1.np n (by simp), g.id]; simp [List.filter_append, List.filter_cons]) (a1.succ n (by simp))
  have a3 := a2.got g'
  have a4 := a3.upd (n' := { n' with succ := n'.succ ++ [p] }) (P' := fun i => (((es ++ [(p, c)]).filter fun e => e.1 = i).length : Nat)) (S' := fun i => ((es ++ [(p, c)]).filter fun e => e.2 = i).map (·.1)) rfl
    (fun _ _ => rfl) (fun j hj => by rw [g'.id] at hj; simp [List.filter_append, List.filter_cons, Ne.symm hj])
    (a3.np n' (by simp)) (by show n'.succ ++ [p] = _; rw [a3.succ n' (by simp), g'.id]; simp [List.filter_append, List.filter_cons])
  refine ⟨a4.nd, fun i => (a4.ids i).trans ?_, a4.np, a4.succ⟩
  constructor
  · rintro ((⟨e, he, h⟩ | h) | h)
    · exact ⟨e, List.mem_append_left _ he, h⟩
    · exact ⟨(p, c), by simp, .inl h⟩
    · exact ⟨(p, c), by simp, .inr h⟩
  · rintro ⟨e, he, h⟩
    rcases List.mem_append.mp he with he | he
    · exact .inl (.inl ⟨e, he, h⟩)
    · simp at he; subst he
      exact h.elim (fun q => .inl (.inr q)) fun q => .inr q
theorem told_len {N U V U' V' es n n' p c tk} (x : Told N es) (g : Got N U V n p) (g' : Got (U ++ { n with np := n.np + 1, tp := tk } :: V) U' V' n' c) : n'.succ.length ≤ es.length := by
  have a1 := x.toF.got g
  have a2 := a1.upd (n' := { n with np := n.np + 1, tp := tk }) (P' := fun i => (((es ++ [(p, c)]).filter fun e => e.1 = i).length : Nat)) (S' := fun i => (es.filter fun e => e.2 = i).map (·.1)) rfl
    (fun j hj => by rw [g.id] at hj; simp [List.filter_append, List.filter_cons, Ne.symm hj]) (fun _ _ => rfl)
    (by show n.np + 1 = _; rw [a1.np n (by simp), g.id]; simp [List.filter_append, List.filter_cons]) (a1.succ n (by simp))
  rw [(a2.got g').succ n' (by simp), List.length_map]
  exact List.length_filter_le _ _
theorem Got.len {N U V n i} (g : Got N U V n i) (m : Nd) : (U ++ m :: V).length ≤ N.length + 1 := by
  rcases g.eq with q | ⟨rfl, rfl, -⟩
  · rw [← q]; simp
  · simp

section
variable {P : Params}
theorem m116 : findIn (hd.heap_1 P) (.ref 173) "_get_nodeinfo" = some (some (.ref 116)) ∧ isFn (hd.heap_1 P) (.ref 116) = true ∧ keepIn (hd.heap_1 P) (.ref 116) = true := ⟨by kernel_rfl, by kernel_rfl, by kernel_rfl⟩
end
namespace T
/-- a method of the sorter -/
theorem gM {b : Bs} {A : Around} {l : Led} {sr dsr f : Addr} {xs : List (Str × Value)} {x : Str} {pl : Sem Bool} {Q : Value × List Value → Led → Prop} (hx : (sr, isO (instObj 173 dsr)) ∈ l) (hm : findIn (hd.heap_1 b.w.params) (.ref 173) x = some (some (.ref f)) ∧ isFn (hd.heap_1 b.w.params) (.ref f) = true ∧ keepIn (hd.heap_1 b.w.params) (.ref f) = true)
    (hda : (dsr, isAt xs) ∈ l) (hl : xs.lookup x = none) (h : Q (.ref f, [.ref sr]) l) : T b A (getMethod (.ref sr) x pl) Q l := T.gmInst (kin b l) hx hda (g173 _) hm.1 hm.2.1 hl h
end T
section
variable {b : Bs} {A : Around} {l : Led} {n d : Nat}
set_option maxHeartbeats 8000000 in
theorem addT {sr dsr nd : Addr} {N : List Nd} {es : List (Int × Int)} {one reached : Int} {t0 u : Tok} {p f : Value} {Q : Value → Led → Prop} (hA : Ok A (d + 4)) (lo : (nd == sysModules) = false) (hT : Told N es) (hz : N.length ≤ 50) (hes : es.length ≤ 50)
    (h : ∀ N', Told N' (es ++ [(one, reached)]) → N'.length ≤ N.length + 2 → Q .none (SL b sr dsr nd .none p f N' l)) : T b A (call (.ref 123) [.ref sr, .int one t0, .int reached u]) Q (SL b sr dsr nd .none p f N l) := by
  refine T.enterV (rest := [.int reached u]) (binds := fun tv => [("self", .ref sr), ("node", .int one t0), ("predecessors", tv)]) hA (by exact rfl) (by kernel_rfl) rfl (by size_fits) (fun _ => by rfl) (fun tv L K hK => ?_)
  walk_at "go"
  refine T.gA (by walk_at "mem") f173b (by walk_at "mem") rfl rfl ?_
  walk_at "go"
  rw [if_neg (by decide)]
  walk_at "go"
  refine T.gM (by walk_at "mem") m116 (by walk_at "mem") rfl ?_
  dsimp only
  refine T.cwK1 m116.2.2 ?_
  walk_at "go"
  refine infoT (front := [(L, isNs _), (tv, isTuple _)]) (d := d) (hA.deeper.le (by omega)) lo hT.nd (by omega) fun U V n G => ?_
  simp only [List.cons_append, List.nil_append]
  walk_at "go"
  have mn := nds_mem (l := l) (show n ∈ U ++ n :: V by simp)
  refine T.getS (kin _ _) slotP (.tail _ (.tail _ (.tail _ (.tail _ (.tail _ mn.1))))) (.tail _ (.tail _ (.tail _ (.tail _ (.tail _ mn.2.1))))) rfl rfl ?_
  walk_at "go"
  refine T.lenT (by walk_at "mem") (by show (1 : Nat) < 2 ^ 60; decide) fun t1 => ?_
  walk_at "go"
  refine T.iadd fun tk => ?_
  refine T.setS (vs' := [.int n.id n.t, .int (n.np + 1) tk, .ref n.sx]) (kin _ _) slotP (.tail (.tail (.tail (.tail (.tail (nds_np (n.np + 1) tk)))))) (.tail _ (.tail _ (.tail _ (.tail _ (.tail _ mn.2.1))))) (.head _) (by decide) rfl (by simp) ?_
  walk_at "go"
  refine T.iterTup (by walk_at "mem") fun it => ?_
  rw [← kvs_np (U := U) (V := V) (n := n) (n' := { n with np := n.np + 1, tp := tk }) rfl rfl]
  have hz1 : ∀ tk, (U ++ { n with np := n.np + 1, tp := tk } :: V).length ≤ N.length + 1 := fun tk => by
    have e : (U ++ { n with np := n.np + 1, tp := tk } :: V).length = (U ++ n :: V).length := by simp
    rw [e]
    rcases G.eq with q | ⟨rfl, rfl, -⟩
    · rw [q]; omega
    · simp
  refine T.forLoop (rest := []) (lj₀ := (L, isNs (put "nodeinfo" (.ref n.x) (ofB [("self", .ref sr), ("node", .int one t0), ("predecessors", .ref tv)]))) :: (tv, isTuple [.int reached u]) :: SL b sr dsr nd .none p f (U ++ { n with np := n.np + 1, tp := tk } :: V) l) (It.tup hA.deeper.hh (x := tv) (xs := [.int reached u]))
    (fun i lj => ∃ m N', lj = (L, isNs m) :: (tv, isTuple [.int reached u]) :: SL b sr dsr nd .none p f N' l ∧ m "self" = some (.ref sr) ∧ m "node" = some (.int one t0) ∧ N'.length ≤ N.length + 1 + i ∧ (i = 0 → ∃ tk, N' = U ++ { n with np := n.np + 1, tp := tk } :: V) ∧ (i = 1 → Told N' (es ++ [(one, reached)])))
    (by rw [List.append_nil]; walk_at "pick") ⟨_, _, rfl, rfl, rfl, by have := hz1 tk; omega, fun _ => ⟨tk, rfl⟩, fun q => absurd q (by decide)⟩ (fun i lj hp hi hj H => ?_) ?_ ?_
  · obtain ⟨m, N', rfl, -⟩ := hj
    exact H.tup (.tail _ (.tail _ (.head _)))
  · rintro i v lj KQ hK hi hv ⟨m, N', rfl, hm1, hm2, hz2, h0, -⟩
    have hi0 : i = 0 := by simp at hi; exact hi
    subst hi0
    obtain ⟨tk', rfl⟩ := h0 rfl
    have hv' : v = .int reached u := by simpa using hv.symm
    subst hv'
    simp only [List.cons_append, List.append_nil] at hK ⊢
    walk_at "go"
    refine T.gM (by walk_at "mem") m116 (by walk_at "mem") rfl ?_
    dsimp only
    refine T.cwK1 m116.2.2 ?_
    walk_at "go"
    refine infoT (front := [(it, isTupIt tv 1), (L, isNs _), (tv, isTuple _)]) (d := d) (hA.deeper.le (by omega)) lo (by have e := (hT.toF.got G).nd; simpa using e) (by have := hz1 tk'; omega) fun U' V' n' G' => ?_
    simp only [List.cons_append, List.nil_append]
    walk_at "go"
    have mn' := nds_mem (l := l) (show n' ∈ U' ++ n' :: V' by simp)
    refine T.getS (kin _ _) slotU (.tail _ (.tail _ (.tail _ (.tail _ (.tail _ (.tail _ mn'.1)))))) (.tail _ (.tail _ (.tail _ (.tail _ (.tail _ (.tail _ mn'.2.1)))))) rfl rfl ?_
    refine T.gmInts (.tail _ (.tail _ (.tail _ (.tail _ (.tail _ (.tail _ mn'.2.2)))))) F.slot_list_append F.type_list_append ?_
    walk_at "go"
    refine T.appI (.tail (.tail (.tail (.tail (.tail (.tail (nds_succ _))))))) (by have := told_len hT G G'; have e : sizeLine = 2 ^ 24 := rfl; omega) ?_
    refine ⟨trivial, ?_⟩
    walk_at "go"
    rw [← kvs_np (U := U') (V := V') (n := n') (n' := { n' with succ := n'.succ ++ [one] }) rfl rfl]
    refine hK _ _ ?_
    refine ⟨(L, isNs _) :: (tv, isTuple [.int reached u]) :: SL b sr dsr nd .none p f (U' ++ { n' with succ := n'.succ ++ [one] } :: V') l, by walk_at "pick", ?_⟩
    refine ⟨_, _, rfl, hm1, hm2, ?_, fun q => absurd q (by decide), fun _ => told_add hT G G'⟩
    have e1 := G'.len { n' with succ := n'.succ ++ [one] }
    have e2 := hz1 tk'
    omega
  · rintro lj ⟨m, N', rfl, -, -, hz2, -, h1⟩
    simp only [List.cons_append, List.append_nil]
    walk_at "go"
    refine hK _ _ ?_
    exact ⟨SL b sr dsr nd .none p f N' l, by walk_at "pick", h N' (h1 rfl) (by simp at hz2; omega)⟩
end

theorem T.weak {α : Type} {b : Bs} {A : Around} {m : Sem α} {Q : α → Led → Prop} {l l' : Led} {a : Addr} {p p' : OP} (R : Rep a p p' l l') (hp : ∀ o, p o → p' o) (h : T b A m Q l') : T b A m Q l := fun s I => h s ⟨I.st.weaken R hp, I.sh⟩
section
variable {b : Bs} {A : Around} {l : Led} {n d : Nat}
set_option maxHeartbeats 8000000 in
theorem sorterT {Q : Value → Led → Prop} (hA : Ok A (d + 2)) (h : ∀ sr dsr nd t1 t2, (nd == sysModules) = false → Q (.ref sr) (SL b sr dsr nd .none (.int 0 t1) (.int 0 t2) [] l)) : T b A (call (.ref 173) []) Q l := by
  refine T.make (kin b l) (by kernel_rfl) (fI := 109) (by kernel_rfl) (by kernel_rfl) fun x dx => ?_
  refine T.enterK (binds := [("self", .ref x), ("graph", .none)]) (Ok.under hA) (by exact rfl) (by kernel_rfl) (fun s I => BindsTo.of_defaults (T := 102) (n := 0) (items := #[.none]) rfl (b.B.X.keeps I.st.keep _ _ (by exact rfl)) rfl rfl rfl) (by rfl) (fun L K hK => ?_)
  refine T.weak (a := dx) (p' := isAt []) (.tail (.tail .head)) (fun o e => ⟨[], 0, e, .nil⟩) ?_
  walk_at "go"
  refine T.newD fun nd lo => ?_
  walk_at "go"
  refine T.sA (by walk_at "mem") f173a (.tail (.tail (.tail .head))) (by walk_at "mem") (Nat.le_of_ble_eq_true rfl) ?_
  walk_at "go"
  refine T.sA (by walk_at "mem") f173b (.tail (.tail (.tail .head))) (by walk_at "mem") (Nat.le_of_ble_eq_true rfl) ?_
  walk_at "go"
  refine T.sA (by walk_at "mem") f173c (.tail (.tail (.tail .head))) (by walk_at "mem") (Nat.le_of_ble_eq_true rfl) ?_
  walk_at "go"
  refine T.sA (by walk_at "mem") f173d (.tail (.tail (.tail .head))) (by walk_at "mem") (Nat.le_of_ble_eq_true rfl) ?_
  walk_at "go"
  rw [if_neg (by decide)]
  walk_at "go"
  refine hK _ _ ?_
  exact ⟨(x, _) :: (dx, _) :: (nd, _) :: l, by walk_at "pick", rfl, h _ _ _ _ _ lo⟩
end

def isTupI (ns : List Int) : OP := fun o => ∃ vs, IntsAre vs ns ∧ isTuple vs o
theorem It.tupI {w : World} {A : Around} (hh : A.handled = none) {it x : Addr} {ns : List Int} : It w A it ns.length (fun i v => ∃ t j, ns[i]? = some j ∧ v = .int j t) (isTupIt x) (fun h => ∃ vs, IntsAre vs ns ∧ h.IsTuple x vs.toArray) where
  step := fun i s Q E hi ho ⟨vs, hv, hl⟩ hQ => (It.tup (w := w) hh (it := it) (x := x) (xs := vs)).step i s Q E (by rw [hv.length]; exact hi) ho hl fun v h' tk hx hs hn => by
    obtain ⟨t, hy⟩ := hv.get i ns[i] (by simp [hi])
    rw [hy] at hx; cases hx
    exact hQ _ h' tk ⟨t, ns[i], by simp [hi], rfl⟩ hs hn
  stop := fun s Q E ho ⟨vs, hv, hl⟩ hQ => (It.tup (w := w) hh (it := it) (x := x) (xs := vs)).stop s Q E (by rw [hv.length]; exact ho) hl hQ
  self := fun i s Q E ho hQ => (It.tup (w := w) hh (it := it) (x := x) (xs := [])).self i s Q E ho hQ
theorem S.sideT {h₀ h : Heap} {l : Led} {a : Addr} {ns : List Int} (H : S h₀ l h) (hm : (a, isTupI ns) ∈ l) : ∃ vs, IntsAre vs ns ∧ h.IsTuple a vs.toArray := by
  obtain ⟨o, e, vs, hi, rfl⟩ := H.get hm; exact ⟨vs, hi, _, e, rfl, _, rfl⟩
namespace T
section
variable {b : Bs} {A : Around} {l l' : Led} {Q : Value → Led → Prop} {a c : Addr} {ns ms : List Int} {i : Int} {t : Tok}
/-- tuple of a list of ints -/
theorem tupList (hm : (a, isInts ns) ∈ l) (hz : ns.length ≤ 1000) (h : ∀ r, Q (.ref r) ((r, isTupI ns) :: l)) : T b A (call (.type "tuple") [.ref a]) Q l := fun s I => by
  obtain ⟨vs, n, hi, e⟩ := I.st.intsAt hm
  refine call_tuple_list (hsz := by have : sizeLine = 2 ^ 24 := rfl; simp [hi.length]; omega) ⟨_, e, rfl, _, rfl⟩ fun h' hk => ⟨_, I.up (tk := s.toks) ((I.st.ext hk).push ⟨vs, hi, rfl⟩), h _⟩
theorem iterTupI (hm : (a, isTupI ns) ∈ l) (h : ∀ it, Q (.ref it) ((it, isTupIt a 0) :: l)) : T b A (pyIter (.ref a)) Q l := fun s I => by
  obtain ⟨vs, hi, ht⟩ := I.st.sideT hm
  exact wpAny_pyIter_tuple ht ⟨_, I.up (tk := s.toks) (I.st.push ⟨rfl, rfl⟩), h _⟩
theorem lenTI (hm : (a, isTupI ns) ∈ l) (hz : ns.length ≤ 1000) (h : ∀ t, Q (.int ns.length t) l) : T b A (call (.builtin "len") [.ref a]) Q l := fun s I => by
  obtain ⟨o, e, vs, hi, rfl⟩ := I.st.get hm
  have := h (s.toks + 1)
  rw [← hi.length] at this
  exact len_tuple (items := vs.toArray) ⟨_, e, rfl, _, rfl⟩ (by simp [hi.length]; omega) ⟨l, I.up I.st, by simpa using this⟩
theorem clearI (R : Rep a (isInts ns) (isInts []) l l') (hz : ns.length ≤ 1000) (h : Q .none l') : T b A (call (.builtin "list.clear") [.ref a]) Q l := fun s I => by
  obtain ⟨vs, n, hi, e⟩ := I.st.intsAt R.mem
  refine call_meets F.slot_list_clear (T := "list") ⟨_, e, rfl⟩ F.entry_list_clear (F.args_list_clear_1 _) (AutoSeq1.list_clear_list_0 a vs.toArray n (by have : sizeLine = 2 ^ 24 := rfl; simp [hi.length]; omega)) ⟨e, ?_⟩
  exact ⟨l', I.up (tk := s.toks) (I.st.same R (Heap.SameBut.update ..) ⟨_, IsL.update e _, [], .nil, isList_mk rfl⟩), h⟩
/-- list.extend by a tuple of ints -/
theorem extT (R : Rep a (isInts ns) (isInts (ns ++ ms)) l l') (hm : (c, isTupI ms) ∈ l) (hz : ns.length ≤ 1000) (hz2 : ms.length ≤ 1000) (h : Q .none l') : T b A (call (.builtin "list.extend") [.ref a, .ref c]) Q l := fun s I => by
  obtain ⟨vs, n, hi, e⟩ := I.st.intsAt R.mem
  obtain ⟨o, e2, us, hi2, rfl⟩ := I.st.get hm
  have hs : sizeLine = 2 ^ 24 := rfl
  refine call_meets F.slot_list_extend (T := "list") ⟨_, e, rfl⟩ F.entry_list_extend (F.args_list_extend_2 _ _) (AutoSeq1.list_extend_list_tuple_0 a vs.toArray n c us.toArray 0 ?_ (by simp [hi.length]; omega) (by simp [hi.length, hi2.length]; omega)) ⟨e, e2, ?_⟩
  · intro hh
    rw [Bool.and_eq_true] at hh
    have h2 : (vs.toArray.size + us.toArray.size) > sizeLine := of_decide_eq_true hh.2
    simp [hi.length, hi2.length] at h2
    omega
  · exact ⟨l', I.up (tk := s.toks) (I.st.same R (Heap.SameBut.update ..) ⟨_, IsL.update e _, vs ++ us, intsAppend hi hi2, isList_mk (by simp)⟩), h⟩
end
end T

/-- the nodes of S are marked as passed out -/
def mark (S : List Int) (N : List Nd) : List Nd := N.map fun n => if n.id ∈ S then { n with np := -1, tp := 249 } else n
theorem mark_nil (N : List Nd) : mark [] N = N := by unfold mark; simp
theorem mark_ids (S : List Int) (N : List Nd) : (mark S N).map (·.id) = N.map (·.id) := by
  unfold mark; rw [List.map_map]; refine List.map_congr_left fun n _ => ?_; simp only [Function.comp]; split <;> rfl
theorem mark_snoc {S : List Int} {N U V : List Nd} {n : Nd} (h : mark S N = U ++ n :: V) (hd : (N.map (·.id)).Nodup) : mark (S ++ [n.id]) N = U ++ { n with np := -1, tp := 249 } :: V := by
  have e : mark (S ++ [n.id]) N = (mark S N).map fun m => if m.id = n.id then { m with np := -1, tp := 249 } else m := by
    unfold mark
    rw [List.map_map]
    refine List.map_congr_left fun m _ => ?_
    simp only [Function.comp]
    by_cases h1 : m.id ∈ S <;> by_cases h2 : m.id = n.id <;> first | (simp [h1, h2]; done) | (have h3 : n.id ∈ S := h2 ▸ h1; simp [h2, h3]; done) | (have h3 : n.id ∉ S := fun q => h1 (h2 ▸ q); simp [h2, h3])
  have nd : ((U ++ n :: V).map (·.id)).Nodup := by rw [← h, mark_ids]; exact hd
  simp only [List.map_append, List.map_cons] at nd
  have nd2 := List.nodup_append.mp nd
  rw [e, h, List.map_append, List.map_cons, if_pos rfl]
  congr 1
  · conv => rhs; rw [← List.map_id U]
    refine List.map_congr_left fun m hm => ?_
    rw [if_neg fun q : m.id = n.id => nd2.2.2 m.id (List.mem_map_of_mem hm) n.id (.head _) q]; rfl
  · congr 1
    conv => rhs; rw [← List.map_id V]
    refine List.map_congr_left fun m hm => ?_
    rw [if_neg fun q : m.id = n.id => (List.nodup_cons.mp nd2.2.1).1 (q ▸ List.mem_map_of_mem hm)]; rfl
section
variable {b : Bs} {A : Around} {l : Led} {n d : Nat}
set_option maxHeartbeats 8000000 in
theorem readyT {sr dsr nd rd : Addr} {N : List Nd} {ready : List Int} {po : Int} {tp : Tok} {f : Value} {Q : Value → Led → Prop} (hA : Ok A (d + 1)) (hN : (N.map (·.id)).Nodup) (hr : ∀ i ∈ ready, i ∈ N.map (·.id)) (hz : ready.length ≤ 100) (hzN : N.length ≤ 100)
    (h : ∀ res t', Q (.ref res) ((res, isTupI ready) :: (rd, isInts []) :: SL b sr dsr nd (.ref rd) (.int (po + ready.length) t') f (mark ready N) l)) :
    T b A (call (.ref 135) [.ref sr]) Q ((rd, isInts ready) :: SL b sr dsr nd (.ref rd) (.int po tp) f N l) := by
  refine T.enter (binds := [("self", .ref sr)]) hA (by exact rfl) (by kernel_rfl) (fun _ _ => BindsTo.of_eq rfl) (by rfl) (fun L K hK => ?_)
  walk_at "go"
  refine T.gA (by walk_at "mem") f173b (by walk_at "mem") rfl rfl ?_
  walk_at "go"
  rw [if_neg (by show ¬ ((Value.ref rd == Value.none) = true); exact Bool.false_ne_true)]
  walk_at "go"
  refine T.gA (by walk_at "mem") f173b (by walk_at "mem") rfl rfl ?_
  walk_at "go"
  refine T.tupList (by walk_at "mem") (by omega) fun res => ?_
  walk_at "go"
  refine T.gA (by walk_at "mem") f173a (by walk_at "mem") rfl rfl ?_
  walk_at "go"
  refine T.iterTupI (by walk_at "mem") fun it => ?_
  refine T.forLoop (rest := []) (lj₀ := (L, isNs (put "n2i" (.ref nd) (put "result" (.ref res) (ofB [("self", .ref sr)])))) :: (res, isTupI ready) :: (rd, isInts ready) :: SL b sr dsr nd (.ref rd) (.int po tp) f N l) (It.tupI hA.deeper.hh (x := res) (ns := ready))
    (fun i lj => ∃ m, lj = (L, isNs m) :: (res, isTupI ready) :: (rd, isInts ready) :: SL b sr dsr nd (.ref rd) (.int po tp) f (mark (ready.take i) N) l ∧ m "self" = some (.ref sr) ∧ m "n2i" = some (.ref nd) ∧ m "result" = some (.ref res))
    (by rw [List.append_nil]; walk_at "pick") ⟨_, by rw [List.take_zero, mark_nil], rfl, rfl, rfl⟩ (fun i lj hp hi hj H => ?_) ?_ ?_
  · obtain ⟨m, rfl, -⟩ := hj
    exact H.sideT (.tail _ (.tail _ (.head _)))
  · rintro i v lj KQ hK hi ⟨tv, j, hj, rfl⟩ ⟨m, rfl, hm1, hm2, hm3⟩
    simp only [List.cons_append, List.append_nil] at hK ⊢
    have hjm : j ∈ (mark (ready.take i) N).map (·.id) := by rw [mark_ids]; exact hr j (List.mem_of_getElem? hj)
    obtain ⟨nn, hnn, hid⟩ := List.mem_map.mp hjm
    obtain ⟨U, V, hU⟩ := List.append_of_mem hnn
    have hnd : ((U ++ nn :: V).map (·.id)).Nodup := by rw [← hU, mark_ids]; exact hN
    have hs := mark_snoc hU hN
    have hta : ready.take (i + 1) = ready.take i ++ [nn.id] := by rw [List.take_add_one, hj, hid]; rfl
    rw [hU]
    walk_at "go"
    (try refine T.asgA ?_)
    walk_at "go"
    refine T.dItem (kvs := kvs (U ++ nn :: V)) (by walk_at "mem") (valueAt_some (by simp) hid hnd) ?_
    have mn := nds_mem (l := l) (show nn ∈ U ++ nn :: V by simp)
    refine T.setS (vs' := [.int nn.id nn.t, .int (-1) 249, .ref nn.sx]) (kin _ _) slotP (.tail (.tail (.tail (.tail (.tail (.tail (.tail (nds_np (-1) 249)))))))) (.tail _ (.tail _ (.tail _ (.tail _ (.tail _ (.tail _ (.tail _ mn.2.1))))))) (.tail _ (.head _)) (by decide) rfl (by simp) ?_
    walk_at "go"
    rw [← kvs_np (U := U) (V := V) (n := nn) (n' := { nn with np := -1, tp := 249 }) rfl rfl]
    refine hK _ _ ?_
    refine ⟨(L, isNs _) :: (res, isTupI ready) :: (rd, isInts ready) :: SL b sr dsr nd (.ref rd) (.int po tp) f (U ++ { nn with np := -1, tp := 249 } :: V) l, by walk_at "pick", ?_⟩
    have e0 : ∀ m' : Str → Option Value, (L, isNs m') :: (res, isTupI ready) :: (rd, isInts ready) :: SL b sr dsr nd (.ref rd) (.int po tp) f (U ++ { nn with np := -1, tp := 249 } :: V) l = (L, isNs m') :: (res, isTupI ready) :: (rd, isInts ready) :: SL b sr dsr nd (.ref rd) (.int po tp) f (mark (ready.take (i + 1)) N) l := fun m' => by rw [hta, hs]
    exact ⟨_, e0 _, hm1, hm2, hm3⟩
  · rintro lj ⟨m, rfl, hm1, hm2, hm3⟩
    simp only [List.cons_append, List.append_nil, List.take_length]
    walk_at "go"
    refine T.gA (by walk_at "mem") f173b (by walk_at "mem") rfl rfl ?_
    dsimp only
    refine T.gmInts (by walk_at "mem") F.slot_list_clear F.type_list_clear ?_
    walk_at "go"
    refine T.clearI (by walk_at "rep") (by omega) ?_
    refine ⟨trivial, ?_⟩
    walk_at "go"
    refine T.gA (by walk_at "mem") f173c (by walk_at "mem") rfl rfl ?_
    walk_at "go"
    refine T.lenTI (by walk_at "mem") (by omega) fun t1 => ?_
    walk_at "go"
    refine T.iadd fun t2 => ?_
    refine T.sA (by walk_at "mem") f173c (.tail (.tail (.tail (.tail .head)))) (by walk_at "mem") (Nat.le_of_ble_eq_true rfl) ?_
    walk_at "go"
    refine hK _ _ ?_
    exact ⟨(res, isTupI ready) :: (rd, isInts []) :: SL b sr dsr nd (.ref rd) (.int (po + ready.length) t2) f (mark ready N) l, by walk_at "pick", h _ _⟩
end

theorem ToldF.mark {N D P S} (x : ToldF N D P S) {R : List Int} (hR : ∀ i ∈ R, D i) : ToldF (Mine.mark R N) D (fun j => if j ∈ R then -1 else P j) S := by
  refine ⟨by rw [mark_ids]; exact x.nd, fun i => by rw [mark_ids]; exact x.ids i, fun m hm => ?_, fun m hm => ?_, fun i h => ⟨by rw [if_neg fun q => h (hR i q)]; exact (x.off i h).1, (x.off i h).2⟩⟩
  · obtain ⟨n, hn, rfl⟩ := List.mem_map.mp hm
    by_cases h : n.id ∈ R
    · simp [h]
    · simp [h, x.np n hn]
  · obtain ⟨n, hn, rfl⟩ := List.mem_map.mp hm
    by_cases h : n.id ∈ R
    · simp [h, x.succ n hn]
    · simp [h, x.succ n hn]
/-- one node with a new number, told by functions -/
theorem ToldF.setNp {U V n D P S} (x : ToldF (U ++ n :: V) D P S) (k : Int) (tk : Tok) : ToldF (U ++ { n with np := k, tp := tk } :: V) D (fun j => if j = n.id then k else P j) S :=
  x.upd rfl (fun j hj => by rw [if_neg hj]) (fun _ _ => rfl) (by rw [if_pos rfl]) (x.succ n (by simp))

section
variable {b : Bs} {A : Around} {l : Led} {n d : Nat}
set_option maxHeartbeats 8000000 in
theorem doneT {sr dsr nd rd : Addr} {N : List Nd} {D : Int → Prop} {P : Int → Int} {S : Int → List Int} {ready : List Int} {p : Value} {fin : Int} {tf u : Tok} {i : Int} {Q : Value → Led → Prop} (hA : Ok A (d + 1)) (lo : (nd == sysModules) = false) (hT : ToldF N D P S) (hi : D i) (hP : P i = -1)
    (hS : S i = [] ∨ ∃ s, S i = [s] ∧ s ≠ i ∧ D s) (hz : ready.length ≤ 100) (hzN : N.length ≤ 100)
    (h : ∀ N' tf', ToldF N' D (fun j => if j ∈ S i then P j - 1 else if j = i then -2 else P j) S → N'.length = N.length → Q .none ((rd, isInts (ready ++ (S i).filter fun j => P j - 1 = 0)) :: SL b sr dsr nd (.ref rd) p (.int (fin + 1) tf') N' l)) :
    T b A (call (.ref 156) [.ref sr, .int i u]) Q ((rd, isInts ready) :: SL b sr dsr nd (.ref rd) p (.int fin tf) N l) := by
  refine T.enterV (rest := [.int i u]) (binds := fun tv => [("self", .ref sr), ("nodes", tv)]) hA (by exact rfl) (by kernel_rfl) rfl (by size_fits) (fun _ => by rfl) (fun tv L K hK => ?_)
  walk_at "go"
  refine T.gA (by walk_at "mem") f173b (by walk_at "mem") rfl rfl ?_
  walk_at "go"
  rw [if_neg (by show ¬ ((Value.ref rd == Value.none) = true); exact Bool.false_ne_true)]
  walk_at "go"
  refine T.gA (by walk_at "mem") f173a (by walk_at "mem") rfl rfl ?_
  walk_at "go"
  refine T.iterTup (by walk_at "mem") fun it => ?_
  refine T.forLoop (rest := []) (lj₀ := (L, isNs (put "n2i" (.ref nd) (ofB [("self", .ref sr), ("nodes", .ref tv)]))) :: (tv, isTuple [.int i u]) :: (rd, isInts ready) :: SL b sr dsr nd (.ref rd) p (.int fin tf) N l) (It.tup hA.deeper.hh (x := tv) (xs := [.int i u]))
    (fun k lj => (k = 0 ∧ lj = (L, isNs (put "n2i" (.ref nd) (ofB [("self", .ref sr), ("nodes", .ref tv)]))) :: (tv, isTuple [.int i u]) :: (rd, isInts ready) :: SL b sr dsr nd (.ref rd) p (.int fin tf) N l) ∨
      (k = 1 ∧ ∃ m N' tf', lj = (L, isNs m) :: (tv, isTuple [.int i u]) :: (rd, isInts (ready ++ (S i).filter fun j => P j - 1 = 0)) :: SL b sr dsr nd (.ref rd) p (.int (fin + 1) tf') N' l ∧ ToldF N' D (fun j => if j ∈ S i then P j - 1 else if j = i then -2 else P j) S ∧ N'.length = N.length))
    (by rw [List.append_nil]; walk_at "pick") (.inl ⟨rfl, rfl⟩) (fun k lj hp hk hj H => ?_) ?_ ?_
  · rcases hj with ⟨-, rfl⟩ | ⟨-, m, N', tf', rfl, -⟩
    · exact H.tup (.tail _ (.tail _ (.head _)))
    · exact H.tup (.tail _ (.tail _ (.head _)))
  · rintro k v lj KQ hK hk hv (⟨rfl, rfl⟩ | ⟨rfl, -⟩)
    case inr => simp at hk
    have hv' : v = .int i u := by simpa using hv.symm
    subst hv'
    obtain ⟨nn, hnn, hid⟩ := List.mem_map.mp ((hT.ids i).mpr hi)
    obtain ⟨U, V, rfl⟩ := List.append_of_mem hnn
    simp only [List.append_nil] at hK ⊢
    walk_at "go"
    refine T.gmDict (by walk_at "mem") PySem.F.slot_dict_get PySem.F.type_dict_get ?_
    walk_at "go"
    refine T.dGet (by walk_at "mem") lo ?_
    rw [valueAt_some (by simp) hid hT.nd]
    simp only [Option.getD_some]
    walk_at "go"
    rw [if_neg (by show ¬ ((Value.ref nn.x == Value.none) = true); exact Bool.false_ne_true)]
    walk_at "go"
    have mn := nds_mem (l := l) (show nn ∈ U ++ nn :: V by simp)
    refine T.getS (kin _ _) slotP (.tail _ (.tail _ (.tail _ (.tail _ (.tail _ (.tail _ (.tail _ mn.1))))))) (.tail _ (.tail _ (.tail _ (.tail _ (.tail _ (.tail _ (.tail _ mn.2.1))))))) rfl rfl ?_
    walk_at "go"
    have hnp : nn.np = -1 := by rw [hT.np nn (by simp), hid, hP]
    rw [if_neg (by rw [hnp]; decide)]
    walk_at "go"
    refine T.setS (vs' := [.int nn.id nn.t, .int (-2) 252, .ref nn.sx]) (kin _ _) slotP (.tail (.tail (.tail (.tail (.tail (.tail (.tail (nds_np (-2) 252)))))))) (.tail _ (.tail _ (.tail _ (.tail _ (.tail _ (.tail _ (.tail _ mn.2.1))))))) (.tail _ (.head _)) (by decide) rfl (by simp) ?_
    have hT2 := hT.setNp (-2) 252
    have mn2 := nds_mem (l := l) (show { nn with np := -2, tp := 252 } ∈ U ++ { nn with np := -2, tp := 252 } :: V by simp)
    walk_at "go"
    refine T.getS (kin _ _) slotU (.tail _ (.tail _ (.tail _ (.tail _ (.tail _ (.tail _ (.tail _ mn2.1))))))) (.tail _ (.tail _ (.tail _ (.tail _ (.tail _ (.tail _ (.tail _ mn2.2.1))))))) rfl rfl ?_
    refine T.iterI (.tail _ (.tail _ (.tail _ (.tail _ (.tail _ (.tail _ (.tail _ mn2.2.2))))))) fun it2 => ?_
    have hsu : nn.succ = S i := by rw [hT.succ nn (by simp), hid]
    rw [← kvs_np (U := U) (V := V) (n := nn) (n' := { nn with np := -2, tp := 252 }) rfl rfl]
    refine T.forLoop (rest := []) (lj₀ := (it, isTupIt tv 1) :: (L, isNs (put "stat" (.int nn.np nn.tp) (put "nodeinfo" (.ref nn.x) (put "node" (.int i u) (put "n2i" (.ref nd) (ofB [("self", .ref sr), ("nodes", .ref tv)])))))) :: (tv, isTuple [.int i u]) :: (rd, isInts ready) :: SL b sr dsr nd (.ref rd) p (.int fin tf) (U ++ { nn with np := -2, tp := 252 } :: V) l) (It.ints hA.deeper.hh (x := nn.sx) (ns := nn.succ))
      (fun k lj => ∃ m N', lj = (it, isTupIt tv 1) :: (L, isNs m) :: (tv, isTuple [.int i u]) :: (rd, isInts (ready ++ (nn.succ.take k).filter fun j => P j - 1 = 0)) :: SL b sr dsr nd (.ref rd) p (.int fin tf) N' l ∧ m "self" = some (.ref sr) ∧ m "n2i" = some (.ref nd) ∧
        ToldF N' D (fun j => if j ∈ nn.succ.take k then P j - 1 else if j = i then -2 else P j) S ∧ N'.length = (U ++ nn :: V).length ∧ ∃ q ∈ N', q.sx = nn.sx ∧ q.succ = nn.succ) (by rw [List.append_nil]; walk_at "pick") ⟨_, U ++ { nn with np := -2, tp := 252 } :: V, by rw [List.take_zero, List.filter_nil, List.append_nil], rfl, rfl, by simpa [hid] using hT2, by simp, { nn with np := -2, tp := 252 }, List.mem_append_right _ (.head _), rfl, rfl⟩ (fun k lj hp hk hj H => ?_) ?_ ?_
    · obtain ⟨m, N', rfl, -, -, -, -, q, hq, hq1, hq2⟩ := hj
      have hmem := (nds_mem (l := l) hq).2.2
      rw [hq1, hq2] at hmem
      rw [List.append_nil] at H
      exact H.sideI (.tail _ (.tail _ (.tail _ (.tail _ (.tail _ (.tail _ (.tail _ (.tail _ hmem))))))))
    · rintro k v lj KQ hK hk ⟨tv2, j, hj, rfl⟩ ⟨m, N', rfl, hm1, hm2, h1, h2, hmem⟩
      obtain ⟨hk0, hjs, hji, hDj⟩ : k = 0 ∧ nn.succ = [j] ∧ j ≠ i ∧ D j := by
        rcases hS with h0 | ⟨s, h0, h3, h4⟩
        · rw [hsu, h0] at hk; simp at hk
        · rw [hsu, h0] at hk hj
          have : k = 0 := by simpa using hk
          subst this
          have : s = j := by simpa using hj
          subst this
          exact ⟨rfl, hsu.trans h0, h3, h4⟩
      subst hk0
      obtain ⟨mm, hmm, hmid⟩ := List.mem_map.mp ((h1.ids j).mpr hDj)
      obtain ⟨U2, V2, rfl⟩ := List.append_of_mem hmm
      simp only [List.append_nil] at hK ⊢
      walk_at "go"
      refine T.dItem (kvs := kvs (U2 ++ mm :: V2)) (by walk_at "mem") (valueAt_some (by simp) hmid h1.nd) ?_
      walk_at "go"
      have ms := nds_mem (l := l) (show mm ∈ U2 ++ mm :: V2 by simp)
      refine T.getS (kin _ _) slotP (.tail _ (.tail _ (.tail _ (.tail _ (.tail _ (.tail _ (.tail _ (.tail _ ms.1)))))))) (.tail _ (.tail _ (.tail _ (.tail _ (.tail _ (.tail _ (.tail _ (.tail _ ms.2.1)))))))) rfl rfl ?_
      walk_at "go"
      refine T.isub fun tk => ?_
      refine T.setS (vs' := [.int mm.id mm.t, .int (mm.np - 1) tk, .ref mm.sx]) (kin _ _) slotP (.tail (.tail (.tail (.tail (.tail (.tail (.tail (.tail (nds_np (mm.np - 1) tk))))))))) (.tail _ (.tail _ (.tail _ (.tail _ (.tail _ (.tail _ (.tail _ (.tail _ ms.2.1)))))))) (by walk_at "mm") (by decide) rfl (by simp) ?_
      walk_at "go"
      have ms2 := nds_mem (l := l) (show { mm with np := mm.np - 1, tp := tk } ∈ U2 ++ { mm with np := mm.np - 1, tp := tk } :: V2 by simp)
      rw [← kvs_np (U := U2) (V := V2) (n := mm) (n' := { mm with np := mm.np - 1, tp := tk }) rfl rfl]
      refine T.getS (kin _ _) slotP (.tail _ (.tail _ (.tail _ (.tail _ (.tail _ (.tail _ (.tail _ (.tail _ ms2.1)))))))) (.tail _ (.tail _ (.tail _ (.tail _ (.tail _ (.tail _ (.tail _ (.tail _ ms2.2.1)))))))) rfl rfl ?_
      walk_at "go"
      have hmp : mm.np = P j := by
        rw [h1.np mm (by simp), hmid]; simp [hji]
      have htk : nn.succ.take (0 + 1) = [j] := by rw [hjs]; rfl
      have hT3 : ToldF (U2 ++ { mm with np := mm.np - 1, tp := tk } :: V2) D (fun q => if q ∈ [j] then P q - 1 else if q = i then -2 else P q) S :=
        h1.upd rfl (fun q hq => by rw [hmid] at hq; simp [hq]) (fun _ _ => rfl) (by simp [hmid, hmp]) (h1.succ mm (by simp))
      have hmem2 : ∃ q ∈ U2 ++ { mm with np := mm.np - 1, tp := tk } :: V2, q.sx = nn.sx ∧ q.succ = nn.succ := by
        obtain ⟨q, hq, hq1, hq2⟩ := hmem
        rcases List.mem_append.mp hq with hq | hq
        · exact ⟨q, List.mem_append_left _ hq, hq1, hq2⟩
        · rcases List.mem_cons.mp hq with rfl | hq
          · exact ⟨_, List.mem_append_right _ (.head _), hq1, hq2⟩
          · exact ⟨q, List.mem_append_right _ (.tail _ hq), hq1, hq2⟩
      have hlen2 : (U2 ++ { mm with np := mm.np - 1, tp := tk } :: V2).length = (U ++ nn :: V).length := by rw [← h2]; simp
      simp only [List.take_zero, List.filter_nil, List.append_nil]
      by_cases hz0 : P j - 1 = 0
      · rw [if_pos (by rw [hmp]; simp [hz0])]
        walk_at "go"
        refine T.gA (by walk_at "mem") f173b (by walk_at "mem") rfl rfl ?_
        refine T.gmInts (by walk_at "mem") F.slot_list_append F.type_list_append ?_
        walk_at "go"
        refine T.appI (by walk_at "rep") (by have e : sizeLine = 2 ^ 24 := rfl; simp; omega) ?_
        refine ⟨trivial, ?_⟩
        walk_at "go"
        refine hK _ _ ?_
        refine ⟨(it, isTupIt tv 1) :: (L, isNs _) :: (tv, isTuple [.int i u]) :: (rd, isInts (ready ++ [j])) :: SL b sr dsr nd (.ref rd) p (.int fin tf) (U2 ++ { mm with np := mm.np - 1, tp := tk } :: V2) l, by walk_at "pick", ?_⟩
        rw [htk]
        exact ⟨put "successor_info" (.ref mm.x) (put "successor" (.int j tv2) m), _, by rw [List.filter_cons_of_pos (by simpa using hz0), List.filter_nil], hm1, hm2, hT3, hlen2, hmem2⟩
      · rw [if_neg (by rw [hmp]; simp [hz0])]
        walk_at "go"
        refine hK _ _ ?_
        refine ⟨(it, isTupIt tv 1) :: (L, isNs _) :: (tv, isTuple [.int i u]) :: (rd, isInts ready) :: SL b sr dsr nd (.ref rd) p (.int fin tf) (U2 ++ { mm with np := mm.np - 1, tp := tk } :: V2) l, by walk_at "pick", ?_⟩
        rw [htk]
        exact ⟨put "successor_info" (.ref mm.x) (put "successor" (.int j tv2) m), _, by rw [List.filter_cons_of_neg (by simpa using hz0), List.filter_nil, List.append_nil], hm1, hm2, hT3, hlen2, hmem2⟩
    · rintro lj ⟨m, N', rfl, hm1, hm2, h1, h2, -⟩
      simp only [List.append_nil, List.take_length]
      walk_at "go"
      refine T.gA (by walk_at "mem") f173d (by walk_at "mem") rfl rfl ?_
      walk_at "go"
      refine T.iadd fun t2 => ?_
      refine T.sA (by walk_at "mem") f173d (.tail (.tail (.tail (.tail (.tail .head))))) (by walk_at "mem") (Nat.le_of_ble_eq_true rfl) ?_
      walk_at "go"
      refine hK _ _ ?_
      refine ⟨(L, isNs _) :: (tv, isTuple [.int i u]) :: (rd, isInts (ready ++ nn.succ.filter fun j => P j - 1 = 0)) :: SL b sr dsr nd (.ref rd) p (.int (fin + 1) t2) N' l, by walk_at "pick", ?_⟩
      rw [← hsu]
      exact .inr ⟨trivial, _, N', t2, rfl, by rwa [List.take_length] at h1, h2⟩
  · rintro lj (⟨h0, -⟩ | ⟨-, m, N', tf', rfl, h1, h2⟩)
    · simp at h0
    · simp only [List.append_nil]
      walk_at "go"
      refine hK _ _ ?_
      exact ⟨(rd, isInts _) :: SL b sr dsr nd (.ref rd) p (.int (fin + 1) tf') N' l, by walk_at "pick", h N' tf' h1 h2⟩
end

/-- the stack of the search, latest first: node, bound __next__, iterator, list of successors, place -/
structure Ent where
  id : Int
  mw : Addr
  it : Addr
  sx : Addr
  k : Nat
def Ent.led (e : Ent) (l : Led) : Led := (e.mw, isMW e.it) :: (e.it, isListIt e.sx e.k) :: l
def entL : List Ent → Led → Led
  | [], l => l
  | e :: E, l => e.led (entL E l)
theorem entL_tail {E : List Ent} {l : Led} {p} (h : p ∈ l) : p ∈ entL E l := by
  induction E with
  | nil => exact h
  | cons m N ih => exact .tail _ (.tail _ ih)
abbrev SLk (b : Bs) (sr dsr nd : Addr) (rn p f : Value) (ep : Nat) (N : List Nd) (l : Led) : Led := (sr, isO (instObj 173 dsr)) :: (dsr, isAt (attrs nd rn p f)) :: (nd, isDictAt b (kvs N) ep) :: nds N l
abbrev decI (sn : List Int) : Int → Bool := fun k => decide (k ∈ sn)
/-- the ledger of the search -/
abbrev findH (b : Bs) (sr dsr nd : Addr) (rn p f : Value) (ep : Nat) (N : List Nd) (l : Led) (L sa ia se n2 : Addr) (m : Str → Option Value) (sn : List Int) (E : List Ent) (kv : List (Int × Value)) : Led :=
  (L, isNs m) :: (sa, isInts (E.map (·.id)).reverse) :: (ia, isList (E.map fun e => .ref e.mw).reverse) :: (se, isSet b (decI sn) sn.length) :: (n2, isDict b kv) :: entL E (SLk b sr dsr nd rn p f ep N l)
structure findM (sr nd sa ia se n2 : Addr) (m : Str → Option Value) : Prop where
  m1 : m "n2i" = some (.ref nd)
  m2 : m "stack" = some (.ref sa)
  m3 : m "itstack" = some (.ref ia)
  m4 : m "seen" = some (.ref se)
  m5 : m "node2stacki" = some (.ref n2)
theorem findM.put {sr nd sa ia se n2 m i t} (x : findM sr nd sa ia se n2 m) : findM sr nd sa ia se n2 (put "node" (.int i t) m) := ⟨x.m1, x.m2, x.m3, x.m4, x.m5⟩
structure findO (D : Int → Prop) (rk : Int → Nat) (N : List Nd) (sn : List Int) (E : List Ent) (kv : List (Int × Value)) : Prop where
  snD : ∀ i ∈ sn, D i
  nd : sn.Nodup
  seen : ∀ e ∈ E, e.id ∈ sn
  chain : E.Pairwise fun x y => rk x.id < rk y.id
  node : ∀ e ∈ E, ∃ n ∈ N, n.id = e.id ∧ n.sx = e.sx
  keys : kv.map (·.1) = (E.map (·.id)).reverse
theorem valueAt_isSome (kv : List (Int × Value)) (i : Int) : (valueAt kv i).isSome = decide (i ∈ kv.map (·.1)) := by
  unfold valueAt
  rw [Option.isSome_map, Bool.eq_iff_iff, List.find?_isSome, decide_eq_true_iff, List.mem_map]
  simp
theorem findO.not_key {D rk N sn E kv} {i : Int} (x : findO D rk N sn E kv) (h : ∀ e ∈ E, rk i < rk e.id) : i ∉ kv.map (·.1) := by
  rw [x.keys]
  intro hm
  simp only [List.mem_reverse, List.mem_map] at hm
  obtain ⟨e, he, rfl⟩ := hm
  exact Nat.lt_irrefl _ (h e he)
theorem nodup_sub : ∀ {xs ys : List Int}, xs.Nodup → (∀ x ∈ xs, x ∈ ys) → xs.length ≤ ys.length
  | [], _, _, _ => Nat.zero_le _
  | x :: xs, ys, hd, h => by
    have hx := h x (.head _)
    have h2 := List.nodup_cons.mp hd
    have := nodup_sub (ys := ys.erase x) h2.2 fun z hz => (List.mem_erase_of_ne fun e => h2.1 (by rw [← e]; exact hz)).mpr (h z (.tail _ hz))
    have h3 := List.length_erase_of_mem hx
    have h4 := List.length_pos_of_mem hx
    rw [List.length_cons]; omega
theorem stored_keys {kv : List (Int × Value)} {i : Int} {v : Value} (h : i ∉ kv.map (·.1)) : (stored kv i v).map (·.1) = kv.map (·.1) ++ [i] := by
  unfold stored
  rw [if_neg]
  · simp
  · simp only [List.any_eq_true, decide_eq_true_eq, not_exists, not_and]
    intro x hx e
    exact h (List.mem_map.mpr ⟨x, hx, e⟩)
theorem findO.push {D rk N sn E kv} {i : Int} {mw it : Addr} {n : Nd} {v : Value} (x : findO D rk N sn E kv) (h : ∀ e ∈ E, rk i < rk e.id) (hD : D i) (hin : i ∉ sn) (hn : n ∈ N) (hid : n.id = i) : findO D rk N (i :: sn) (⟨i, mw, it, n.sx, 0⟩ :: E) (stored kv i v) where
  snD := fun j hj => (List.mem_cons.mp hj).elim (fun e => e ▸ hD) (x.snD j)
  nd := List.nodup_cons.mpr ⟨hin, x.nd⟩
  seen := fun e he => (List.mem_cons.mp he).elim (fun q => by rw [q]; exact .head _) fun he => .tail _ (x.seen e he)
  chain := List.pairwise_cons.mpr ⟨h, x.chain⟩
  node := fun e he => (List.mem_cons.mp he).elim (fun q => by rw [q]; exact ⟨n, hn, hid, rfl⟩) (x.node e)
  keys := by rw [stored_keys (x.not_key h), x.keys]; simp
theorem findO.pop {D rk N sn e E kv} (x : findO D rk N sn (e :: E) kv) : findO D rk N sn E (without kv e.id) where
  snD := x.snD
  nd := x.nd
  seen := fun e he => x.seen e (.tail _ he)
  chain := (List.pairwise_cons.mp x.chain).2
  node := fun e he => x.node e (.tail _ he)
  keys := by
    have h1 := x.keys
    have h2 := (List.pairwise_cons.mp x.chain).1
    have h3 : (without kv e.id).map (·.1) = (kv.map (·.1)).filter fun k => k ≠ e.id := by unfold without; rw [List.filter_map]; rfl
    rw [h3, h1, List.map_cons, List.reverse_cons, List.filter_append]
    have h4 : ([e.id].filter fun k => k ≠ e.id) = [] := by simp
    rw [h4, List.append_nil, List.filter_eq_self]
    intro k hk
    simp only [List.mem_reverse, List.mem_map] at hk
    obtain ⟨q, hq, rfl⟩ := hk
    have h5 : q.id ≠ e.id := fun q' => by have := h2 q hq; rw [q'] at this; exact Nat.lt_irrefl _ this
    simpa using h5
theorem findO.lens {D rk N sn E kv P S} (x : findO D rk N sn E kv) (hT : ToldF N D P S) (hzN : N.length ≤ 100) : sn.length < 1000 := by
  have := nodup_sub x.nd fun y hy => (hT.ids y).mpr (x.snD y hy)
  simp at this; omega
theorem findO.len {D rk N sn E kv P S} (x : findO D rk N sn E kv) (hT : ToldF N D P S) (hzN : N.length ≤ 100) : E.length < 1000 := by
  have h1 : (E.map (·.id)).Nodup := by
    rw [List.Nodup, List.pairwise_map]
    exact x.chain.imp fun h q => by rw [q] at h; exact Nat.lt_irrefl _ h
  have := nodup_sub h1 fun y hy => by
    obtain ⟨e, he, rfl⟩ := List.mem_map.mp hy
    exact (hT.ids _).mpr (x.snD _ (x.seen e he))
  simp at this; omega
theorem findO.upd {D rk N sn e E kv} {k' : Nat} (x : findO D rk N sn (e :: E) kv) : findO D rk N sn ({ e with k := k' } :: E) kv where
  snD := x.snD
  nd := x.nd
  seen := fun q hq => (List.mem_cons.mp hq).elim (fun h => by rw [h]; exact x.seen e (.head _)) fun h => x.seen q (.tail _ h)
  chain := List.pairwise_cons.mpr ⟨(List.pairwise_cons.mp x.chain).1, (List.pairwise_cons.mp x.chain).2⟩
  node := fun q hq => (List.mem_cons.mp hq).elim (fun h => by rw [h]; exact x.node e (.head _)) fun h => x.node q (.tail _ h)
  keys := x.keys
theorem decI_cons (sn : List Int) (i : Int) : (fun k' => decI sn k' || decide (k' = i)) = decI (i :: sn) := by
  funext k; simp [decI, Bool.or_comm]
/-- within one turn of the search's outer while, which began at i: what holds at the inner one -/
abbrev find3 (b : Bs) (D : Int → Prop) (S : Int → List Int) (rk : Int → Nat) (kp : Addr × OP) (sr dsr nd : Addr) (rn p f : Value) (ep : Nat) (N : List Nd) (l : Led) (L sa ia se n2 : Addr) (i : Int) (n : Nat) (lj : Led) : Prop :=
  ∃ m sn E kv, lj = kp :: findH b sr dsr nd rn p f ep N l L sa ia se n2 m sn E kv ∧ findM sr nd sa ia se n2 m ∧ findO D rk N sn E kv ∧
    ((∀ e ∈ E, e.k = (S e.id).length) ∨ ∃ e r, E = e :: r ∧ e.id = i ∧ e.k = 0 ∧ ∀ x ∈ r, x.k = (S x.id).length) ∧ E.length = n
section
variable {b : Bs} {A : Around} {l : Led} {n d : Nat}
set_option maxHeartbeats 8000000 in
theorem findT {sr dsr nd : Addr} {rn : Value} {N : List Nd} {D : Int → Prop} {P : Int → Int} {S : Int → List Int} {p f : Value} {rk : Int → Nat} {outer : List Env} {Q : Value → Led → Prop} (hA : Ok A (d + 1)) (lo : (nd == sysModules) = false)
    (hfr : A.frames = some outer) (hF : Frames l outer) (hT : ToldF N D P S) (hS : ∀ i, D i → S i = [] ∨ ∃ s, S i = [s] ∧ D s ∧ rk s < rk i) (hzN : N.length ≤ 100) (h : Q .none (SL b sr dsr nd rn p f N l)) :
    T b A (call (.ref 163) [.ref sr]) Q (SL b sr dsr nd rn p f N l) := by
  refine T.enter (binds := [("self", .ref sr)]) hA (by exact rfl) (by kernel_rfl) (fun _ _ => BindsTo.of_eq rfl) (by rfl) (fun L K hK => ?_)
  walk_at "go"
  refine T.gA (by walk_at "mem") f173a (by walk_at "mem") rfl rfl ?_
  walk_at "go"
  refine T.newI .nil fun sa => ?_
  walk_at "go"
  refine T.newL (vs := []) fun ia => ?_
  walk_at "go"
  refine T.newSet fun se => ?_
  walk_at "go"
  refine T.newD fun n2 lo2 => ?_
  walk_at "go"
  refine T.iterD (l' := fun ep => _) (fun ep => by walk_at "rep") lo fun kit ep => ?_
  refine T.forLoop (rest := []) (lj₀ := findH b sr dsr nd rn p f ep N l L sa ia se n2 (put "node2stacki" (.ref n2) (put "seen" (.ref se) (put "itstack" (.ref ia) (put "stack" (.ref sa) (put "n2i" (.ref nd) (ofB [("self", .ref sr)])))))) [] [] []) (It.keys hA.deeper.hh (d := nd) (kvs := kvs N) (ep := ep))
    (fun k lj => ∃ m sn, lj = findH b sr dsr nd rn p f ep N l L sa ia se n2 m sn [] [] ∧ findM sr nd sa ia se n2 m ∧ findO D rk N sn [] [])
    (by rw [List.append_nil]; walk_at "pick") ⟨_, [], rfl, ⟨rfl, rfl, rfl, rfl, rfl⟩, ⟨by simp, by simp, by simp, .nil, by simp, rfl⟩⟩ (fun k lj hp hk hj H => ?_) ?_ ?_
  · obtain ⟨m, sn, rfl, -⟩ := hj
    exact H.dictAt (by walk_at "mem")
  · rintro k v lj KQ hK hk ⟨i, x, t, hx, rfl⟩ ⟨m, sn, rfl, hm, ho⟩
    have hDi : D i := (hT.ids i).mp (by
      have h1 := List.mem_of_getElem? hx
      simp only [kvs, List.mem_map, List.mem_reverse] at h1
      obtain ⟨q, hq, e⟩ := h1
      exact List.mem_map.mpr ⟨q, hq, congrArg Prod.fst e⟩)
    obtain ⟨m1, m2, m3, m4, m5⟩ := id hm
    simp only [List.append_nil] at hK ⊢
    walk_at "go"
    refine T.inSet (by walk_at "mem") ?_
    walk_at "go"
    by_cases hin : i ∈ sn
    · rw [if_pos (by simpa using hin)]
      walk_at "go"
      refine T.contS ?_
      walk_at "go"
      refine hK _ _ ?_
      refine ⟨findH b sr dsr nd rn p f ep N l L sa ia se n2 _ sn [] [], by walk_at "pick", ?_⟩
      exact ⟨_, sn, rfl, hm.put, ho⟩
    rw [if_neg (by simpa using hin)]
    walk_at "go"
    refine T.whileS ?_
    refine T.whileLoop (n := rk i) (fun q lj => ∃ m sn E kv i t, lj = (kit, isKeyIt nd (kvs N).length ep (k + 1)) :: findH b sr dsr nd rn p f ep N l L sa ia se n2 m sn E kv ∧ findM sr nd sa ia se n2 m ∧ m "node" = some (.int i t) ∧ findO D rk N sn E kv ∧ D i ∧
      (∀ e ∈ E, rk i < rk e.id) ∧ (∀ e ∈ E, e.k = (S e.id).length) ∧ rk i = q) (t := (kit, isKeyIt nd (kvs N).length ep (k + 1)) :: findH b sr dsr nd rn p f ep N l L sa ia se n2 (put "node" (.int i t) m) sn [] []) (by walk_at "pick") ⟨_, sn, [], [], i, t, rfl, hm.put, rfl, ho, hDi, by simp, by simp, rfl⟩ ?_
    clear ho hm m1 m2 m3 m4 m5 hDi hin m hx t i sn
    rintro q lj KW1 hW1 ⟨m, sn, E, kv, i, t, rfl, hm, m6, ho, hDi, hrk, hex, rfl⟩
    have hsn := ho.lens hT hzN
    have hEl := ho.len hT hzN
    have hkl : kv.length < 1000 := by have := congrArg List.length ho.keys; simp at this; omega
    obtain ⟨m1, m2, m3, m4, m5⟩ := id hm
    walk_at "go"
    refine T.boolC ?_
    walk_at "go"
    rw [if_pos rfl]
    refine T.exC ?_
    refine T.mono (Q := fun fl l' => fl = .next ∧ ∃ n t, Pick t l' ∧ find3 b D S rk (kit, isKeyIt nd (kvs N).length ep (k + 1)) sr dsr nd rn p f ep N l L sa ia se n2 i n t) ?_ ?_
    · walk_at "go"
      refine T.inSet (by walk_at "mem") ?_
      walk_at "go"
      by_cases hin : i ∈ sn
      · rw [if_pos (by simpa using hin)]
        walk_at "go"
        refine T.dIn (by walk_at "mem") lo2 ?_
        rw [valueAt_isSome, decide_eq_false (ho.not_key hrk)]
        walk_at "go"
        rw [if_neg Bool.false_ne_true]
        walk_at "go"
        exact ⟨rfl, _, _, Pick.refl, m, sn, E, kv, rfl, hm, ho, .inl hex, rfl⟩
      · rw [if_neg (by simpa using hin)]
        walk_at "go"
        refine T.gmSet (by walk_at "mem") ?_
        walk_at "go"
        refine T.addSet (by walk_at "rep") hsn ?_
        rw [decI_cons, if_neg (by simpa using hin)]
        refine ⟨trivial, ?_⟩
        walk_at "go"
        refine T.gmList (by walk_at "mem") F.slot_list_append F.type_list_append ?_
        walk_at "go"
        obtain ⟨nn, hnn, hid⟩ := List.mem_map.mp ((hT.ids i).mpr hDi)
        refine T.dItemAt (kvs := kvs N) (ep := ep) (.tail _ (.tail _ (.tail _ (.tail _ (.tail _ (.tail _ (entL_tail (.tail _ (.tail _ (.head _))))))))))  (valueAt_some hnn hid hT.nd) ?_
        walk_at "go"
        have mn := nds_mem (l := l) hnn
        refine T.getS (kin _ _) slotU (.tail _ (.tail _ (.tail _ (.tail _ (.tail _ (.tail _ (entL_tail (.tail _ (.tail _ (.tail _ mn.1)))))))))) (.tail _ (.tail _ (.tail _ (.tail _ (.tail _ (.tail _ (entL_tail (.tail _ (.tail _ (.tail _ mn.2.1)))))))))) rfl rfl ?_
        walk_at "go"
        refine T.iterB ?_
        refine T.iterLI (.tail _ (.tail _ (.tail _ (.tail _ (.tail _ (.tail _ (entL_tail (.tail _ (.tail _ (.tail _ mn.2.2)))))))))) fun it => ?_
        walk_at "go"
        refine T.nextOf (.head _) fun mw => ?_
        refine T.weak (a := it) (p' := isListIt nn.sx 0) (.tail .head) (fun o e => by subst e; exact ⟨rfl, rfl⟩) ?_
        walk_at "go"
        refine T.appL (by walk_at "rep") (by have e : sizeLine = 2 ^ 24 := rfl; simp; omega) ?_
        refine ⟨trivial, ?_⟩
        walk_at "go"
        refine T.lenI (by walk_at "mem") (by simp; omega) fun t2 => ?_
        walk_at "go"
        refine T.dSet (by walk_at "rep") (by omega) ?_
        walk_at "go"
        refine T.gmInts (by walk_at "mem") F.slot_list_append F.type_list_append ?_
        walk_at "go"
        refine T.appI (by walk_at "rep") (by have e : sizeLine = 2 ^ 24 := rfl; simp; omega) ?_
        refine ⟨trivial, ?_⟩
        walk_at "go"
        refine ⟨rfl, _, (kit, isKeyIt nd (kvs N).length ep (k + 1)) :: (L, isNs m) :: (sa, isInts ((E.map (·.id)).reverse ++ [i])) :: (ia, isList ((E.map fun e => .ref e.mw).reverse ++ [.ref mw])) :: (se, isSet b (decI (i :: sn)) (sn.length + 1)) ::
          (n2, isDict b (stored kv i (.int ((E.map (·.id)).reverse.length : Nat) t2))) :: (mw, isMW it) :: (it, isListIt nn.sx 0) :: entL E (SLk b sr dsr nd rn p f ep N l), by walk_at "pick", m, i :: sn, ⟨i, mw, it, nn.sx, 0⟩ :: E, stored kv i (.int ((E.map (·.id)).reverse.length : Nat) t2), ?_, hm, ho.push hrk hDi hin hnn hid, .inr ⟨_, E, rfl, rfl, rfl, hex⟩, rfl⟩
        simp only [findH, List.map_cons, List.reverse_cons, List.length_cons, entL, Ent.led]
    · rintro _ l' ⟨rfl, n, t', hp, m, sn, E, kv, rfl, hm, ho, hE, rfl⟩
      refine T.pick ?_ hp
      clear hp l'
      walk_at "go"
      refine T.whileS ?_
      refine T.whileLoop (n := E.length) (find3 b D S rk (kit, isKeyIt nd (kvs N).length ep (k + 1)) sr dsr nd rn p f ep N l L sa ia se n2 i) .refl ⟨m, sn, E, kv, rfl, hm, ho, hE, rfl⟩ ?_
      clear hE hm ho m E sn kv
      rintro n lj KW2 hW2 ⟨m, sn, E, kv, rfl, hm, ho, hE, rfl⟩
      have hEl := ho.len hT hzN
      obtain ⟨m1, m2, m3, m4, m5⟩ := id hm
      walk_at "go"
      refine T.trInts (by walk_at "mem") (by simp; omega) ?_
      cases E with
      | nil =>
        rw [if_neg (by simp)]
        walk_at "go"
        refine T.brkS ?_
        walk_at "go"
        have hkv : kv = [] := by
          have := congrArg List.length ho.keys
          cases kv with
          | nil => rfl
          | cons x r => simp at this
        subst hkv
        refine (show KW1 Flow.brk _ from hW1 _ _ ?_)
        walk_at "go"
        refine hK _ _ ?_
        exact ⟨_, .refl, m, sn, rfl, hm, ho⟩
      | cons e E =>
        rw [if_pos (by simp)]
        simp only [findH, entL, Ent.led, List.map_cons, List.reverse_cons]
        have hr : ∀ x ∈ E, x.k = (S x.id).length := by
          rcases hE with h1 | ⟨_, _, q, -, -, h1⟩
          · exact fun x hx => h1 x (.tail _ hx)
          · cases q; exact h1
        obtain ⟨nn, hnn, hid, hsx⟩ := ho.node e (.head _)
        have mn := (nds_mem (l := l) hnn).2.2
        rw [hsx, hT.succ nn hnn, hid] at mn
        have hDe : D e.id := ho.snD _ (ho.seen e (.head _))
        by_cases hk : e.k < (S e.id).length
        · have he : e.id = i ∧ e.k = 0 := by
            rcases hE with h1 | ⟨_, _, q, h1, h2, -⟩
            · rw [h1 e (.head _)] at hk; exact absurd hk (Nat.lt_irrefl _)
            · cases q; exact ⟨h1, h2⟩
          obtain ⟨s, hs, hDs, hrs⟩ : ∃ s, S e.id = [s] ∧ D s ∧ rk s < rk e.id := (hS _ hDe).resolve_left fun q => by rw [q] at hk; exact absurd hk (Nat.not_lt_zero _)
          walk_at "go"
          refine T.lastL (by walk_at "mem") (v := .ref e.mw) (by rw [List.getLast?_append]; rfl) (by simp at hEl ⊢; omega) ?_
          walk_at "go"
          refine TX.noX (TX.mwItem (t := s) (by walk_at "mem") (.tail _ (.tail _ (.tail _ (.tail _ (.tail _ (.tail _ (.tail _ (.tail _ (entL_tail (.tail _ (.tail _ (.tail _ mn)))))))))))) (by walk_at "rep") (by rw [he.2, hs]; rfl) fun t => ?_)
          walk_at "go"
          refine T.brkS ?_
          refine (show KW2 Flow.brk _ from hW2 _ _ ?_)
          walk_at "go"
          have hch := (List.pairwise_cons.mp ho.chain).1
          refine hW1 _ _ ?_
          refine ⟨rk s, _, by rw [← he.1]; exact hrs, .refl, put "node" (.int s t) m, sn, { e with k := e.k + 1 } :: E, kv, s, t, ?_, hm.put, rfl, ho.upd, hDs, fun x hx => ?_, fun x hx => ?_, rfl⟩
          · simp only [findH, entL, Ent.led, List.map_cons, List.reverse_cons]
          · rcases List.mem_cons.mp hx with rfl | hx
            · exact hrs
            · exact Nat.lt_trans hrs (hch x hx)
          · rcases List.mem_cons.mp hx with rfl | hx
            · show e.k + 1 = (S e.id).length
              rw [he.2, hs]; rfl
            · exact hr x hx
        · refine T.exC ?_
          refine T.tryStop (outer := outer) (Around.frames_deeper hfr) ?_
          refine TX.exC (TX.asgN (TX.fcall ?_))
          walk_at "go"
          refine T.lastL (by walk_at "mem") (v := .ref e.mw) (by rw [List.getLast?_append]; rfl) (by simp at hEl ⊢; omega) ?_
          refine TX.mwEnd hA.deeper.hh (u := [_, _, _, _, _, _, _]) rfl (by walk_at "mem") (.tail _ (.tail _ (.tail _ (.tail _ (.tail _ (.tail _ (.tail _ (.tail _ (entL_tail (.tail _ (.tail _ (.tail _ mn)))))))))))) (Nat.le_of_not_lt hk) ?_
          refine ⟨fun env' he' => ?_, fun x T' => ⟨?_, ?_⟩⟩
          · rcases List.mem_cons.mp he' with rfl | he'
            · exact ⟨by show ScopeKind.function ≠ ScopeKind.module; decide, L, m, rfl, .tail _ (.head _)⟩
            · obtain ⟨h1, L', m', h2, h3⟩ := hF env' he'
              exact ⟨h1, L', m', h2, .tail _ (.tail _ (.tail _ (.tail _ (.tail _ (.tail _ (.tail _ (entL_tail (.tail _ (.tail _ (.tail _ (nds_tail h3)))))))))))⟩
          · walk_at "go"
            exact ⟨rfl, rfl⟩
          simp only [List.cons_append, List.nil_append] at hW2 ⊢
          refine T.exC (T.delS ?_)
          walk_at "go"
          refine T.gmInts (by walk_at "mem") F.slot_list_pop F.type_list_pop ?_
          walk_at "go"
          refine T.pop (by walk_at "rep") (by have e : sizeLine = 2 ^ 24 := rfl; simp at hEl ⊢; omega) fun t => ?_
          refine T.dDel (by walk_at "rep") (by rw [valueAt_isSome, ho.keys]; simp) (by have := congrArg List.length ho.keys; simp at this hEl; omega) ?_
          dsimp only
          refine T.exC (T.exprR ?_)
          walk_at "go"
          refine T.gmList (by walk_at "mem") F.slot_list_pop F.type_list_pop ?_
          walk_at "go"
          refine T.popL (by walk_at "rep") (by simp at hEl ⊢; omega) ?_
          walk_at "go"
          refine hW2 _ _ ?_
          refine ⟨E.length, (kit, isKeyIt nd (kvs N).length ep (k + 1)) :: findH b sr dsr nd rn p f ep N l L sa ia se n2 m sn E (without kv e.id), by simp, by walk_at "pick", m, sn, E, _, rfl, hm, ho.pop, .inl hr, rfl⟩
  · rintro lj ⟨m, sn, rfl, hm, ho⟩
    simp only [List.append_nil]
    refine T.weak (a := nd) (p' := isDict b (kvs N)) (by walk_at "rep") (fun o e => isDictAt.un e) ?_
    walk_at "go"
    refine hK _ _ ?_
    exact ⟨SL b sr dsr nd rn p f N l, by walk_at "pick", h⟩
end

section
variable {P : Params}
theorem m163 : findIn (hd.heap_1 P) (.ref 173) "_find_cycle" = some (some (.ref 163)) ∧ isFn (hd.heap_1 P) (.ref 163) = true ∧ keepIn (hd.heap_1 P) (.ref 163) = true := ⟨by kernel_rfl, by kernel_rfl, by kernel_rfl⟩
end
theorem nds_perm {N : List Nd} (fr : Led) {l : Led} : (fr ++ nds N l).Perm (nds N (fr ++ l)) := by
  induction N with
  | nil => exact .refl _
  | cons n N ih =>
    show (fr ++ (_ :: _ :: _ :: nds N l)).Perm (_ :: _ :: _ :: nds N (fr ++ l))
    exact List.perm_middle.trans (.cons _ (List.perm_middle.trans (.cons _ (List.perm_middle.trans (.cons _ ih)))))
/-- what stands ahead of the sorter's ledger goes behind it, and back -/
theorem SL_perm {b : Bs} {sr dsr nd : Addr} {rn p f : Value} {N : List Nd} (fr : Led) {l : Led} : (fr ++ SL b sr dsr nd rn p f N l).Perm (SL b sr dsr nd rn p f N (fr ++ l)) :=
  List.perm_middle.trans (.cons _ (List.perm_middle.trans (.cons _ (List.perm_middle.trans (.cons _ (nds_perm fr))))))
theorem SL_in {b : Bs} {sr dsr nd : Addr} {rn p f : Value} {N : List Nd} (fr : Led) {l : Led} : Pick (SL b sr dsr nd rn p f N (fr ++ l)) (fr ++ SL b sr dsr nd rn p f N l) := .perm (SL_perm fr) .refl
theorem SL_out {b : Bs} {sr dsr nd : Addr} {rn p f : Value} {N : List Nd} (fr : Led) {l : Led} : Pick (fr ++ SL b sr dsr nd rn p f N l) (SL b sr dsr nd rn p f N (fr ++ l)) := .perm (SL_perm fr).symm .refl
section
variable {b : Bs} {A : Around} {l : Led} {n d : Nat}
set_option maxHeartbeats 8000000 in
theorem prepareT {sr dsr nd : Addr} {N : List Nd} {D : Int → Prop} {P : Int → Int} {S : Int → List Int} {p f : Value} {rk : Int → Nat} {outer : List Env} {Q : Value → Led → Prop} (hA : Ok A (d + 2)) (lo : (nd == sysModules) = false)
    (hfr : A.frames = some outer) (hF : Frames l outer) (hT : ToldF N D P S) (hS : ∀ i, D i → S i = [] ∨ ∃ s, S i = [s] ∧ D s ∧ rk s < rk i) (hzN : N.length ≤ 100)
    (h : ∀ rd, Q .none ((rd, isInts ((N.reverse.filter fun n => n.np = 0).map (·.id))) :: SL b sr dsr nd (.ref rd) p f N l)) :
    T b A (call (.ref 128) [.ref sr]) Q (SL b sr dsr nd .none p f N l) := by
  refine T.enter (binds := [("self", .ref sr)]) hA (by exact rfl) (by kernel_rfl) (fun _ _ => BindsTo.of_eq rfl) (by rfl) (fun L K hK => ?_)
  walk_at "go"
  refine T.gA (by walk_at "mem") f173b (by walk_at "mem") rfl rfl ?_
  walk_at "go"
  rw [if_neg (by decide)]
  walk_at "go"
  refine T.compE (cl := []) (by rfl) (by rfl) (by decide) ?_
  walk_at "go"
  refine T.gA (by walk_at "mem") f173a (by walk_at "mem") rfl rfl ?_
  walk_at "go"
  refine T.gmDict (by walk_at "mem") PySem.F.slot_dict_values PySem.F.type_dict_values ?_
  walk_at "go"
  refine T.values (by walk_at "mem") lo fun v => ?_
  refine T.iterV (l' := fun ep => _) (by walk_at "mem") (fun ep => by walk_at "rep") fun it ep => ?_
  refine ⟨it, _, _, _, _, fun k ys lj => lj = (v, isView nd) :: (L, isNs (ofB [("self", .ref sr)])) :: SLk b sr dsr nd .none p f ep N l ∧ IntsAre ys (((N.reverse.take k).filter fun n => n.np = 0).map (·.id)) ∧ ys.length ≤ k, _, [], rfl, It.vals (b := b) hA.deeper.hh (d := nd) (kvs := kvs N) (ep := ep), fun _ _ _ _ _ _ h => wpAny_pure h, by rw [List.append_nil]; walk_at "pick", ⟨rfl, .nil, Nat.le_refl _⟩, ?_, ?_, ?_, ?_, ?_⟩
  · simp [kvs]; have : sizeLine = 2 ^ 24 := rfl; omega
  · rintro i ys lj h' hi ⟨rfl, -⟩ H
    exact H.dictAt (by walk_at "mem")
  · exact fun i ys lj x => x.2.2
  · rintro C Dd cs mC i w ys lj hcs hi ⟨ky, hky⟩ ⟨rfl, hys, hyl⟩
    obtain rfl : cs = [] := hcs.trans (by rfl)
    simp only [List.append_nil, someCells, List.map_nil, List.nil_append]
    have hky' : (N.reverse.map fun n : Nd => (n.id, Value.ref n.x))[i]? = some (ky, w) := hky
    rw [List.getElem?_map] at hky'
    obtain ⟨nn, hn, e⟩ := Option.map_eq_some_iff.mp hky'
    cases e
    have hnn : nn ∈ N := List.mem_reverse.mp (List.mem_of_getElem? hn)
    have mn := nds_mem (l := l) hnn
    have htk : N.reverse.take (i + 1) = N.reverse.take i ++ [nn] := by rw [List.take_add_one, hn]; rfl
    walk_at "go"
    show T _ _ _ _ _
    walk_at "go"
    refine T.getS (kin _ _) slotP (.tail _ (.tail _ (.tail _ (.tail _ (.tail _ (.tail _ (.tail _ (.tail _ mn.1)))))))) (.tail _ (.tail _ (.tail _ (.tail _ (.tail _ (.tail _ (.tail _ (.tail _ mn.2.1)))))))) rfl rfl ?_
    walk_at "go"
    by_cases hz : nn.np = 0
    · rw [if_pos (by simp [hz])]
      walk_at "go"
      refine T.getS (kin _ _) slotN (.tail _ (.tail _ (.tail _ (.tail _ (.tail _ (.tail _ (.tail _ (.tail _ mn.1)))))))) (.tail _ (.tail _ (.tail _ (.tail _ (.tail _ (.tail _ (.tail _ (.tail _ mn.2.1)))))))) rfl rfl ?_
      walk_at "go"
      refine ⟨(v, isView nd) :: (L, isNs (ofB [("self", .ref sr)])) :: SLk b sr dsr nd .none p f ep N l, _, by walk_at "pick", rfl, ?_, by simp; omega⟩
      rw [htk, List.filter_append, List.filter_cons_of_pos (by simpa using hz), List.filter_nil, List.map_append]
      exact hys.append (.cons _ _ .nil)
    · rw [if_neg (by simp [hz])]
      walk_at "go"
      refine ⟨(v, isView nd) :: (L, isNs (ofB [("self", .ref sr)])) :: SLk b sr dsr nd .none p f ep N l, _, by walk_at "pick", rfl, ?_, by omega⟩
      rw [htk, List.filter_append, List.filter_cons_of_neg (by simpa using hz), List.filter_nil, List.append_nil]
      exact hys
  · rintro Dd ys lj ⟨rfl, hys, -⟩
    simp only [List.append_nil]
    rw [List.take_of_length_le (by simp [kvs])] at hys
    refine T.weak (a := Dd) (p' := isInts ((N.reverse.filter fun n => n.np = 0).map (·.id))) .head (fun o e => ⟨ys, hys, e⟩) ?_
    refine T.weak (a := nd) (p' := isDict b (kvs N)) (by walk_at "rep") (fun o e => isDictAt.un e) ?_
    walk_at "go"
    refine T.sA (by walk_at "mem") f173b (.tail (.tail (.tail (.tail .head)))) (by walk_at "mem") (Nat.le_of_ble_eq_true rfl) ?_
    walk_at "go"
    refine T.gM (by walk_at "mem") m163 (by walk_at "mem") rfl ?_
    dsimp only
    refine T.cwK0 m163.2.2 ?_
    refine T.pick ?_ (SL_in (l := l) [(Dd, isInts ((N.reverse.filter fun n => n.np = 0).map (·.id))), (v, isView nd), (L, isNs (ofB [("self", .ref sr)]))])
    refine findT (d := d) hA.deeper lo (Around.frames_deeper hfr) (fun e he => ?_) hT hS hzN ?_
    · rcases List.mem_cons.mp he with rfl | he
      · exact ⟨by show ScopeKind.function ≠ ScopeKind.module; decide, L, _, rfl, .tail _ (.tail _ (.head _))⟩
      · obtain ⟨h1, L', m', h2, h3⟩ := hF e he
        exact ⟨h1, L', m', h2, .tail _ (.tail _ (.tail _ h3))⟩
    refine T.pick ?_ (SL_out [(Dd, isInts ((N.reverse.filter fun n => n.np = 0).map (·.id))), (v, isView nd), (L, isNs (ofB [("self", .ref sr)]))])
    simp only [List.cons_append, List.nil_append]
    walk_at "go"
    refine T.trNone ?_
    rw [if_neg Bool.false_ne_true]
    walk_at "go"
    refine hK _ _ ?_
    exact ⟨(Dd, _) :: SL b sr dsr nd (.ref Dd) p f N l, by walk_at "pick", h Dd⟩
end

/-- a list of two ints taken apart -/
theorem assign2 {b : Bs} {A : Around} {l : Led} {env : Env} {x y : Str} {px py pos : Pos} {k : Nat} {ev : Addr} {p c : Int} {Q : Unit → Led → Prop} (hh : A.handled = none) (hm : (ev, isInts [p, c]) ∈ l)
    (h : ∀ t u, T b A (storeName env x (.int p t)) (fun _ l₁ => T b A (storeName env y (.int c u)) Q l₁) l) : T b A (assign (.Tuple [.Name x px, .Name y py] k pos) env (.ref ev)) Q l := fun s I => by
  obtain ⟨o, e, vs, hi, nn, rfl⟩ := I.st.get hm
  obtain ⟨t, vs1, rfl, hi1⟩ := hi.cons_inv
  obtain ⟨u, vs2, rfl, hi2⟩ := hi1.cons_inv
  obtain rfl := hi2.nil_inv
  have hl : s.heap.IsList ev #[.int p t, .int c u] := ⟨_, e, rfl, nn, rfl⟩
  rw [PyProof.Rows.assign_Tuple]
  refine wpAny_bind (wpAny_standAt ?_)
  have e1 : assignEach [.Name x px, .Name y py] env = [(false, assign (.Name x px) env), (false, assign (.Name y py) env)] := rfl
  rw [e1]
  unfold unpack
  refine wpAny_bind (wpAny_holding ?_)
  show wpAny _ A (unpackItems (.ref ev) 2 none) _ _ s
  unfold unpackItems
  refine wpAny_bind ?_
  unfold notIterableAtAll
  refine wpAny_bind (wpAny_specialOf hl.typeIs slot_list_iter.lookup ?_)
  refine wpAny_pure ?_
  simp only [Bool.false_eq_true, if_false]
  refine wpAny_bind (wpAny_holding (wpAny_pyIter_list hl ?_))
  have H1 := I.st.push (p := isListIt ev 0) (o := { cls := .type "list_iterator", data := .fields #[.ref ev, .int 0 0] }) ⟨rfl, rfl⟩
  have hne : ev ≠ s.heap.objs.size := Nat.ne_of_lt (Heap.lt_size e)
  have X := It.list (w := b.w) (A := A) hh (it := s.heap.objs.size) (x := ev) (xs := [.int p t, .int c u])
  have e0 := Heap.get?_push_of_some { cls := .type "list_iterator", data := .fields #[.ref ev, .int 0 0] } e
  refine wpAny_bind (wpAny_holding ?_)
  show wpAny _ A (pyNext (.ref s.heap.objs.size) >>= _) _ _ _
  refine wpAny_bind (X.step 0 _ _ _ (by show 0 < 2; decide) (H1.get (.head _)) ⟨_, e0, rfl, nn, rfl⟩ fun v₁ h₁ t₁ hv₁ hs₁ hP₁ => ?_)
  have e2 := (hs₁.2 ev hne).trans e0
  obtain rfl : Value.int p t = v₁ := Option.some.inj hv₁
  have H2 := H1.same Rep.head hs₁ hP₁
  dsimp only
  refine wpAny_bind (wpAny_holding ?_)
  show wpAny _ A (pyNext (.ref s.heap.objs.size) >>= _) _ _ _
  refine wpAny_bind (X.step 1 _ _ _ (by show 1 < 2; decide) hP₁ ⟨_, e2, rfl, nn, rfl⟩ fun v₂ h₂ t₂ hv₂ hs₂ hP₂ => ?_)
  have e3 := (hs₂.2 ev hne).trans e2
  obtain rfl : Value.int c u = v₂ := Option.some.inj hv₂
  have H3 := H2.same Rep.head hs₂ hP₂
  dsimp only
  refine wpAny_bind (wpAny_holding (wpAny_pure ?_))
  refine wpAny_pure (wpAny_pure ?_)
  rw [if_neg (by simp)]
  refine wpAny_bind (wpAny_holding (X.stop _ _ _ hP₂ ⟨_, e3, rfl, nn, rfl⟩ fun h₃ t₃ he => ?_))
  simp only [Option.isSome_none, Bool.false_eq_true, if_false]
  refine wpAny_pure ?_
  have H4 := H3.lose (u := []) fun b o hb e => he b o hb e
  show wpAny _ A (assignInOrder [assign (.Name x px) env, assign (.Name y py) env] [.int p t, .int c u]) _ _ _
  refine wpAny_bind (wpAny_holding ?_)
  refine wpAny_assign_Name ((h t u).to (I.up H4) fun _ s₁ l₁ I₁ h' => ?_)
  refine wpAny_bind (wpAny_holding ?_)
  exact wpAny_assign_Name (h'.to I₁ fun _ s₂ l₂ I₂ h'' => wpAny_pure ⟨l₂, I₂, h''⟩)

/-! the plain law of the run: how the order grows -/
abbrev DomE (es : List (Int × Int)) (i : Int) : Prop := ∃ e ∈ es, i = e.1 ∨ i = e.2
abbrev Par (es : List (Int × Int)) (i : Int) : List Int := (es.filter fun e => e.2 = i).map (·.1)
abbrev cntE (es : List (Int × Int)) (os : List Int) (i : Int) : Nat := (es.filter fun e => e.1 = i ∧ e.2 ∉ os).length
structure RunO (es : List (Int × Int)) (P : Int → Int) (os ws rs : List Int) : Prop where
  num : ∀ i, DomE es i → P i = if i ∈ os then -2 else if i ∈ ws then -1 else (cntE es os i : Int)
  nd : (os ++ (ws ++ rs)).Nodup
  dom : ∀ i ∈ os ++ (ws ++ rs), DomE es i
  chl : ∀ i ∈ os ++ (ws ++ rs), ∀ e ∈ es, e.1 = i → e.2 ∈ os
  rdy : ∀ i, DomE es i → (∀ e ∈ es, e.1 = i → e.2 ∈ os) → i ∈ os ++ (ws ++ rs)
  ord : ∀ e ∈ es, e.1 ∈ os → ∃ A B, os = A ++ e.2 :: B ∧ e.1 ∈ B
theorem RunO.take {es P os ws rs} (x : RunO es P os ws rs) : RunO es (fun j => if j ∈ rs then -1 else P j) os (ws ++ rs) [] where
  num := fun i hi => by
    have nd := List.nodup_append.mp x.nd
    by_cases h : i ∈ rs
    · have h1 : i ∉ os := fun q => nd.2.2 i q i (List.mem_append_right _ h) rfl
      simp [h, h1]
    · simp only [h, if_false, x.num i hi, List.mem_append, or_false]
  nd := by simpa using x.nd
  dom := by simpa using x.dom
  chl := by simpa using x.chl
  rdy := by simpa using x.rdy
  ord := x.ord
theorem RunO.full {es P os} {rk : Int → Nat} (x : RunO es P os [] []) (hS : ∀ e ∈ es, rk e.1 < rk e.2) {m : Nat} (hm : ∀ i, DomE es i → rk i ≤ m) : ∀ i, DomE es i → i ∈ os := by
  have key : ∀ k i, DomE es i → m - rk i = k → i ∈ os := by
    intro k
    induction k using Nat.strongRecOn with
    | _ k ih =>
      intro i hi hk
      have := x.rdy i hi fun e he h1 => ih (m - rk e.2) (by
        have h2 := hS e he
        have h3 := hm e.2 ⟨e, he, .inr rfl⟩
        rw [h1] at h2
        omega) e.2 ⟨e, he, .inr rfl⟩ rfl
      simpa using this
  exact fun i hi => key _ i hi rfl
theorem cntE_snoc_other {es os} {x i : Int} (h : i ∉ Par es x) : cntE es (os ++ [x]) i = cntE es os i := by
  unfold cntE
  congr 1
  refine List.filter_congr fun e he => ?_
  have : e.1 = i → e.2 ≠ x := fun h1 h2 => h (List.mem_map.mpr ⟨e, List.mem_filter.mpr ⟨he, by simpa using h2⟩, h1⟩)
  by_cases h1 : e.1 = i
  · simp [h1, this h1]
  · simp [h1]
theorem cntE_snoc {os : List Int} {x p : Int} (hx : x ∉ os) : ∀ {es : List (Int × Int)}, Par es x = [p] → cntE es os p = cntE es (os ++ [x]) p + 1
  | [], h => by simp [Par] at h
  | e :: es, h => by
    unfold cntE
    by_cases h2 : e.2 = x
    · have h3 : Par (e :: es) x = e.1 :: Par es x := by simp [Par, h2]
      rw [h3] at h
      obtain ⟨h4, h5⟩ := List.cons.inj h
      have h6 := cntE_snoc_other (os := os) (i := p) (x := x) (es := es) (by rw [h5]; simp)
      unfold cntE at h6
      rw [List.filter_cons_of_pos (by simp [h4, h2, hx]), List.filter_cons_of_neg (by simp [h2]), List.length_cons, h6]
    · have h3 : Par (e :: es) x = Par es x := by simp [Par, h2]
      rw [h3] at h
      have ih := cntE_snoc hx h
      unfold cntE at ih
      by_cases h1 : e.1 = p ∧ e.2 ∉ os
      · rw [List.filter_cons_of_pos (by simpa using h1), List.filter_cons_of_pos (by simp [h1.1, h1.2, h2]), List.length_cons, List.length_cons, ih]
      · rw [List.filter_cons_of_neg (by simpa using h1), List.filter_cons_of_neg (by simp; exact fun a b => absurd ⟨a, b⟩ h1), ih]
theorem cntE_zero {es os} {i : Int} : cntE es os i = 0 ↔ ∀ e ∈ es, e.1 = i → e.2 ∈ os := by
  unfold cntE
  rw [List.length_eq_zero_iff, List.filter_eq_nil_iff]
  constructor
  · intro h e he h1
    have := h e he
    simp at this
    exact this h1
  · intro h e he
    simp
    exact fun h1 => h e he h1
theorem RunO.step {es P os ws ws'} {x : Int} {P' : Int → Int} (r : RunO es P os ws []) (hp : ws.Perm (x :: ws')) (hx : Par es x = [] ∨ ∃ s, Par es x = [s] ∧ s ≠ x)
    (hP : ∀ j, P' j = if j ∈ Par es x then P j - 1 else if j = x then -2 else P j) : RunO es P' (os ++ [x]) ws' ((Par es x).filter fun j => P j - 1 = 0) := by
  have nd := r.nd
  rw [List.append_nil] at nd
  have hxw : x ∈ ws := hp.mem_iff.mpr (.head _)
  have nd2 := (hp.append_left os).nodup_iff.mp nd
  have nd3 := List.nodup_append.mp nd2
  have nd4 := List.nodup_cons.mp nd3.2.1
  have hxo : x ∉ os := fun q => nd3.2.2 x q x (.head _) rfl
  have mw : ∀ i, i ∈ ws ↔ i = x ∨ i ∈ ws' := fun i => by rw [hp.mem_iff, List.mem_cons]
  have par : ∀ s, s ∈ Par es x → ∃ e ∈ es, e.1 = s ∧ e.2 = x := fun s hs => by
    obtain ⟨e, he, rfl⟩ := List.mem_map.mp hs
    have := List.mem_filter.mp he
    exact ⟨e, this.1, rfl, by simpa using this.2⟩
  have parNot : ∀ s, s ∈ Par es x → s ∉ os ∧ s ∉ ws := fun s hs => by
    obtain ⟨e, he, h1, h2⟩ := par s hs
    refine ⟨fun q => hxo ?_, fun q => hxo ?_⟩
    · rw [← h2]; exact r.chl s (by simp [q]) e he h1
    · rw [← h2]; exact r.chl s (by simp [q]) e he h1
  have pc : ∀ s, s ∈ Par es x → P s - 1 = (cntE es (os ++ [x]) s : Int) ∧ s ≠ x := fun s hs => by
    obtain ⟨e, he, h1, h2⟩ := par s hs
    rcases hx with h0 | ⟨s', h0, hne⟩
    · rw [h0] at hs; cases hs
    · rw [h0] at hs
      have : s = s' := by simpa using hs
      subst this
      refine ⟨?_, hne⟩
      rw [r.num s ⟨e, he, .inl h1.symm⟩]
      have hs' : s ∈ Par es x := by rw [h0]; simp
      rw [if_neg (parNot s hs').1, if_neg (parNot s hs').2, cntE_snoc hxo h0]
      omega
  refine ⟨fun i hi => ?_, ?_, fun i hi => ?_, fun i hi e he h1 => ?_, fun i hi h => ?_, fun e he h1 => ?_⟩
  · rw [hP]
    by_cases h1 : i ∈ Par es x
    · have h2 := parNot i h1
      have h3 := pc i h1
      rw [if_pos h1, if_neg (by simp [h2.1, h3.2]), if_neg (fun q => h2.2 ((mw i).mpr (.inr q))), h3.1]
    · rw [if_neg h1]
      by_cases h2 : i = x
      · rw [if_pos h2, if_pos (by simp [h2])]
      · rw [if_neg h2, r.num i hi]
        have h3 : (i ∈ os ++ [x]) ↔ i ∈ os := by simp [h2]
        have h4 : i ∈ ws' ↔ i ∈ ws := by rw [mw]; simp [h2]
        simp only [h3, h4, cntE_snoc_other h1]
  · have hrs : ((Par es x).filter fun j => P j - 1 = 0).Nodup := by
      rcases hx with h0 | ⟨s', h0, -⟩
      · rw [h0]; simp
      · rw [h0]; by_cases q : P s' - 1 = 0 <;> simp [q]
    have e1 : (os ++ [x] ++ (ws' ++ (Par es x).filter fun j => P j - 1 = 0)) = (os ++ (x :: ws')) ++ ((Par es x).filter fun j => P j - 1 = 0) := by simp
    rw [e1]
    refine List.nodup_append.mpr ⟨nd2, hrs, fun a ha c hc e => ?_⟩
    subst e
    have h1 := (List.mem_filter.mp hc).1
    have h2 := parNot a h1
    rcases List.mem_append.mp ha with h | h
    · exact h2.1 h
    · exact h2.2 (hp.mem_iff.mpr h)
  · have : i ∈ os ++ (ws ++ []) ∨ i ∈ Par es x := by
      simp only [List.mem_append, List.mem_singleton, List.mem_filter] at hi
      simp only [List.mem_append, mw]
      rcases hi with (h | h) | h | h
      · exact .inl (.inl h)
      · exact .inl (.inr (.inl (.inl h)))
      · exact .inl (.inr (.inl (.inr h)))
      · exact .inr h.1
    rcases this with h | h
    · exact r.dom i h
    · obtain ⟨e, he, h1, h2⟩ := par i h; exact ⟨e, he, .inl h1.symm⟩
  · have : i ∈ os ++ (ws ++ []) ∨ (i ∈ Par es x ∧ P i - 1 = 0) := by
      simp only [List.mem_append, List.mem_singleton, List.mem_filter] at hi
      simp only [List.mem_append, mw]
      rcases hi with (h | h) | h | h
      · exact .inl (.inl h)
      · exact .inl (.inr (.inl (.inl h)))
      · exact .inl (.inr (.inl (.inr h)))
      · exact .inr (by simpa using h)
    rcases this with h | h
    · exact List.mem_append_left _ (r.chl i h e he h1)
    · have h2 := pc i h.1
      rw [h.2] at h2
      exact cntE_zero.mp (by omega) e he h1
  · by_cases h1 : ∀ e ∈ es, e.1 = i → e.2 ∈ os
    · have := r.rdy i hi h1
      simp only [List.mem_append, mw, List.mem_singleton] at this ⊢
      rcases this with h | (h | h) | h
      · exact .inl (.inl h)
      · exact .inl (.inr h)
      · exact .inr (.inl h)
      · cases h
    · have h2 : i ∈ Par es x := by
        refine Decidable.byContradiction fun q => h1 fun e he h3 => ?_
        have h4 := h e he h3
        rcases List.mem_append.mp h4 with h5 | h5
        · exact h5
        · exact absurd (List.mem_map.mpr ⟨e, List.mem_filter.mpr ⟨he, by simpa using h5⟩, h3⟩) q
      have h3 := (pc i h2).1
      rw [cntE_zero.mpr h] at h3
      simp only [List.mem_append, List.mem_filter]
      exact .inr (.inr ⟨h2, by simpa using h3⟩)
  · rcases List.mem_append.mp h1 with h2 | h2
    · obtain ⟨A, B, e1, e2⟩ := r.ord e he h2
      exact ⟨A, B ++ [x], by rw [e1]; simp, List.mem_append_left _ e2⟩
    · have h3 : e.1 = x := by simpa using h2
      have h4 := r.chl x (by simp [hxw]) e he h3
      obtain ⟨A, B, e1⟩ := List.append_of_mem h4
      exact ⟨A, B ++ [x], by rw [e1]; simp, List.mem_append_right _ (by simp [h3])⟩

theorem Ok.room64 {A n} (x : Ok A n) : A.units + 64 < cLine := by
  have h1 := x.un
  have h2 : 9870 ≤ cLine := Nat.le_of_ble_eq_true rfl
  omega
namespace T
section
variable {b : Bs} {A : Around} {l : Led} {Q : Value → Led → Prop} {a c : Addr} {ns ms : List Int} {i : Int} {t : Tok} {n : Nat}
theorem eqL (hA : Ok A n) (ha : (a, isInts ns) ∈ l) (hc : (c, isInts ms) ∈ l) (h : Q (.bool (decide (ns = ms))) l) : T b A (compareOp .Eq (.ref a) (.ref c)) Q l := fun s I => by
  obtain ⟨vs, n, hi, e⟩ := I.st.intsAt ha
  obtain ⟨us, n', hj, e'⟩ := I.st.intsAt hc
  exact ke_eq_ints ⟨_, e, rfl, _, rfl⟩ ⟨_, e', rfl, _, rfl⟩ hi hj hA.room64 ⟨l, I, h⟩
theorem neL (hA : Ok A n) (ha : (a, isInts ns) ∈ l) (hc : (c, isInts ms) ∈ l) (h : Q (.bool (!decide (ns = ms))) l) : T b A (compareOp .NotEq (.ref a) (.ref c)) Q l := fun s I => by
  obtain ⟨vs, n, hi, e⟩ := I.st.intsAt ha
  obtain ⟨us, n', hj, e'⟩ := I.st.intsAt hc
  exact ke_ne_ints ⟨_, e, rfl, _, rfl⟩ ⟨_, e', rfl, _, rfl⟩ hi hj hA.room64 ⟨l, I, h⟩
theorem lastI {value slice : Expr} (hm : (a, isInts ns) ∈ l) (hx : ns.getLast? = some i) (hz : ns.length < 1000) (h : ∀ t, Q (.int i t) l) (he : subscripted slice false (.ref a) (.int (-1) t) = operate [.ref a, .int (-1) t] (getItem (.ref a) (.int (-1) t)) := by k_dflt rfl) : T b A (subscriptTail value slice (.ref a) (.int (-1) t)) Q l := fun s I => by
  obtain ⟨vs, n, hi, e⟩ := I.st.intsAt hm
  have hl := hi.length
  have hne : 0 < ns.length := List.length_pos_iff.mpr (by rintro rfl; simp at hx)
  rw [List.getLast?_eq_getElem?] at hx
  obtain ⟨u, hu⟩ := hi.get _ _ hx
  have H : s.heap.IsList a vs.toArray := ⟨_, e, rfl, _, rfl⟩
  refine PyProof.Rows.tail_any H.typeIs slot_list_getitem.lookup (wpAny_getItem_list_neg (items := vs.toArray) (x := .int i u) H (by omega) (by simp; omega) (by omega) ?_ ⟨l, I, h u⟩) he
  have e1 : ((-1 : Int) + (vs.toArray.size : Int)).toNat = ns.length - 1 := by simp; omega
  rw [e1]
  simpa using hu
end
end T
theorem RS_perm {b : Bs} {sr dsr nd : Addr} {rn p f : Value} {N : List Nd} {x : Addr × OP} (fr : Led) {l : Led} : (fr ++ x :: SL b sr dsr nd rn p f N l).Perm (x :: SL b sr dsr nd rn p f N (fr ++ l)) := List.perm_middle.trans (.cons _ (SL_perm fr))
theorem RS_in {b : Bs} {sr dsr nd : Addr} {rn p f : Value} {N : List Nd} {x : Addr × OP} (fr : Led) {l : Led} : Pick (x :: SL b sr dsr nd rn p f N (fr ++ l)) (fr ++ x :: SL b sr dsr nd rn p f N l) := .perm (RS_perm fr) .refl
theorem RS_out {b : Bs} {sr dsr nd : Addr} {rn p f : Value} {N : List Nd} {x : Addr × OP} (fr : Led) {l : Led} : Pick (fr ++ x :: SL b sr dsr nd rn p f N l) (x :: SL b sr dsr nd rn p f N (fr ++ l)) := .perm (RS_perm fr).symm .refl

section
variable {P : Params}
theorem m123 : findIn (hd.heap_1 P) (.ref 173) "add" = some (some (.ref 123)) ∧ isFn (hd.heap_1 P) (.ref 123) = true ∧ keepIn (hd.heap_1 P) (.ref 123) = true := ⟨by kernel_rfl, by kernel_rfl, by kernel_rfl⟩
theorem m128 : findIn (hd.heap_1 P) (.ref 173) "prepare" = some (some (.ref 128)) ∧ isFn (hd.heap_1 P) (.ref 128) = true ∧ keepIn (hd.heap_1 P) (.ref 128) = true := ⟨by kernel_rfl, by kernel_rfl, by kernel_rfl⟩
theorem m135 : findIn (hd.heap_1 P) (.ref 173) "get_ready" = some (some (.ref 135)) ∧ isFn (hd.heap_1 P) (.ref 135) = true ∧ keepIn (hd.heap_1 P) (.ref 135) = true := ⟨by kernel_rfl, by kernel_rfl, by kernel_rfl⟩
theorem m156 : findIn (hd.heap_1 P) (.ref 173) "done" = some (some (.ref 156)) ∧ isFn (hd.heap_1 P) (.ref 156) = true ∧ keepIn (hd.heap_1 P) (.ref 156) = true := ⟨by kernel_rfl, by kernel_rfl, by kernel_rfl⟩
end
theorem RunO.init {es N} (hT : Told N es) : RunO es (fun i => ((es.filter fun e => e.1 = i).length : Nat)) [] [] ((N.reverse.filter fun n => n.np = 0).map (·.id)) := by
  have mem : ∀ i, i ∈ ((N.reverse.filter fun n => n.np = 0).map (·.id)) ↔ DomE es i ∧ ∀ e ∈ es, e.1 = i → e.2 ∈ ([] : List Int) := fun i => by
    have key : ∀ n ∈ N, n.np = 0 ↔ ∀ e ∈ es, e.1 = n.id → e.2 ∈ ([] : List Int) := fun n hn => by
      rw [hT.np n hn]
      rw [show (((es.filter fun e => e.1 = n.id).length : Nat) : Int) = 0 ↔ (es.filter fun e => e.1 = n.id).length = 0 by omega, List.length_eq_zero_iff, List.filter_eq_nil_iff]
      simp
    simp only [List.mem_map, List.mem_filter, List.mem_reverse, decide_eq_true_eq]
    constructor
    · rintro ⟨n, ⟨hn, h0⟩, rfl⟩
      exact ⟨(hT.ids n.id).mp (List.mem_map_of_mem hn), (key n hn).mp h0⟩
    · rintro ⟨hd, h0⟩
      obtain ⟨n, hn, rfl⟩ := List.mem_map.mp ((hT.ids i).mpr hd)
      exact ⟨n, ⟨hn, (key n hn).mpr h0⟩, rfl⟩
  refine ⟨fun i _ => by simp [cntE], ?_, fun i hi => ((mem i).mp (by simpa using hi)).1, fun i hi => ((mem i).mp (by simpa using hi)).2, fun i hd h0 => by simpa using (mem i).mpr ⟨hd, h0⟩, fun e _ h1 => by cases h1⟩
  rw [List.nil_append, List.nil_append]
  refine List.Nodup.sublist (List.filter_sublist.map _) ?_
  rw [List.map_reverse]
  exact (List.reverse_perm _).nodup_iff.mpr hT.nd
theorem RunO.len {es P os ws rs} {dl : List Int} (r : RunO es P os ws rs) (hdm : ∀ i, i ∈ dl ↔ DomE es i) : os.length + ws.length + rs.length ≤ dl.length := by
  have := nodup_sub r.nd fun x hx => (hdm x).mpr (r.dom x hx)
  simp at this; omega
theorem nodup_full {xs ys : List Int} (h : xs.Nodup) (hs : ∀ x ∈ xs, x ∈ ys) (hl : ys.length ≤ xs.length) : ∀ y ∈ ys, y ∈ xs := fun y hy => Decidable.byContradiction fun q => by
  have := nodup_sub (ys := ys.erase y) h fun x hx => (List.mem_erase_of_ne fun e => q (by rw [← e]; exact hx)).mpr (hs x hx)
  have h3 := List.length_erase_of_mem hy
  have h4 := List.length_pos_of_mem hy
  omega
theorem nds_l {N : List Nd} {l : Led} : Pick l (nds N l) := by
  induction N with
  | nil => exact .refl
  | cons n N ih => exact .drop (.drop (.drop ih))
theorem SL_l {b : Bs} {sr dsr nd : Addr} {rn p f : Value} {N : List Nd} {l : Led} : Pick l (SL b sr dsr nd rn p f N l) := .drop (.drop (.drop nds_l))
theorem RSS_perm {b : Bs} {sr dsr nd : Addr} {rn p f : Value} {N : List Nd} {x y : Addr × OP} (fr : Led) {l : Led} : (fr ++ x :: y :: SL b sr dsr nd rn p f N l).Perm (x :: y :: SL b sr dsr nd rn p f N (fr ++ l)) := List.perm_middle.trans (.cons _ (RS_perm fr))
theorem Frames.cons {l : Led} {env : Env} {outer : List Env} {L : Addr} {m : Str → Option Value} (hk : env.scope.kind ≠ .module) (hf : env.frame = some L) (h : Frames l outer) : Frames ((L, isNs m) :: l) (env :: outer) := fun e he => by
  rcases List.mem_cons.mp he with rfl | he
  · exact ⟨hk, L, m, hf, .head _⟩
  · obtain ⟨h1, L', m', h2, h3⟩ := h e he
    exact ⟨h1, L', m', h2, .tail _ h3⟩
section
variable {b : Bs} {A : Around} {l : Led} {n d : Nat}
set_option maxHeartbeats 8000000 in
theorem runT {tv : Addr} {evs : List (Addr × Int × Int)} {es : List (Int × Int)} {dl : List Int} {rk : Int → Nat} {mx : Nat} {turn : Int} {u : Tok} {outer : List Env} {Q : Value → Led → Prop} (hA : Ok A (d + 6)) (hes : es = evs.map (·.2))
    (htv : (tv, isList (evs.map fun e => .ref e.1)) ∈ l) (hent : ∀ e ∈ evs, (e.1, isInts [e.2.1, e.2.2]) ∈ l) (hz : es.length ≤ 10)
    (hfr : A.frames = some outer) (hF : Frames l outer) (hS : ∀ i, DomE es i → Par es i = [] ∨ ∃ s, Par es i = [s] ∧ DomE es s ∧ rk s < rk i) (hrk : ∀ e ∈ es, rk e.1 < rk e.2) (hmx : ∀ i, DomE es i → rk i ≤ mx)
    (hdl : dl.Nodup) (hdm : ∀ i, i ∈ dl ↔ DomE es i) (hdn : dl.length = es.length + 1) (ht : 0 ≤ turn) (ht2 : turn < 2 ^ 40)
    (h : ∀ ov os, os.Nodup → (∀ i ∈ os, DomE es i) → os.length = es.length + 1 → (∀ e ∈ es, ∃ X Y, os = X ++ e.2 :: Y ∧ e.1 ∈ Y) → Q (.ref ov) ((ov, isInts os) :: l)) :
    T b A (call (.ref 198) [.ref tv, .int turn u]) Q l := by
  refine T.enter (binds := [("tree", .ref tv), ("turn", .int turn u)]) hA (by exact rfl) (by kernel_rfl) (fun _ _ => BindsTo.of_eq rfl) (by rfl) (fun L K hK => ?_)
  walk_at "go"
  refine T.cwK0 (by kernel_rfl) ?_
  refine sorterT (d := d + 3) (hA.deeper.le (by omega)) fun sr dsr nd t1 t2 lo => ?_
  walk_at "go"
  refine T.iterList (.tail _ (.tail _ (.tail _ (.tail _ htv)))) fun it => ?_
  refine T.forLoop (rest := []) (lj₀ := (L, isNs (put "sorter" (.ref sr) (ofB [("tree", .ref tv), ("turn", .int turn u)]))) :: SL b sr dsr nd .none (.int 0 t1) (.int 0 t2) [] l) (It.list hA.deeper.hh (x := tv) (xs := evs.map fun e => .ref e.1))
    (fun i lj => ∃ m N, lj = (L, isNs m) :: SL b sr dsr nd .none (.int 0 t1) (.int 0 t2) N l ∧ m "sorter" = some (.ref sr) ∧ m "tree" = some (.ref tv) ∧ m "turn" = some (.int turn u) ∧ Told N (es.take i) ∧ N.length ≤ 2 * i)
    (by rw [List.append_nil]; walk_at "pick") ⟨_, [], rfl, rfl, rfl, rfl, Told.nil, Nat.zero_le _⟩ (fun i lj hp hi hj H => ?_) ?_ ?_ (fun i v s Q E ⟨o, e, r⟩ hq => letGo_listiter ⟨o, e, r⟩ hq)
  · obtain ⟨m, N, rfl, -⟩ := hj
    exact H.list (.tail _ (.tail _ (.tail _ (.tail _ (.tail _ (List.mem_append_left _ (nds_tail htv)))))))
  · rintro i v lj KQ hK hi hv ⟨m, N, rfl, hm1, hm2, hm3, hT, hzN⟩
    rw [List.getElem?_map] at hv
    obtain ⟨e, he, rfl⟩ := Option.map_eq_some_iff.mp hv
    have hi' : i < evs.length := by simpa using hi
    have hel : es.length = evs.length := by rw [hes]; simp
    have he2 : es[i]? = some (e.2.1, e.2.2) := by rw [hes, List.getElem?_map, he]; rfl
    simp only [List.append_nil] at hK ⊢
    refine assign2 hA.deeper.hh (.tail _ (.tail _ (.tail _ (.tail _ (.tail _ (nds_tail (hent e (List.mem_of_getElem? he)))))))) fun t t' => ?_
    walk_at "go"
    refine T.gM (by walk_at "mem") m123 (by walk_at "mem") rfl ?_
    dsimp only
    refine T.cwK1 m123.2.2 ?_
    walk_at "go"
    refine T.pick ?_ (SL_in [(it, isListIt tv (i + 1)), (L, isNs (put "reached" (.int e.2.2 t') (put "one" (.int e.2.1 t) m)))])
    refine addT (d := d + 1) (hA.deeper.le (by omega)) lo hT (by omega) (by simp; omega) fun N' hT' hz' => ?_
    refine ⟨trivial, ?_⟩
    walk_at "go"
    refine hK _ _ ?_
    refine ⟨(L, isNs (put "reached" (.int e.2.2 t') (put "one" (.int e.2.1 t) m))) :: SL b sr dsr nd .none (.int 0 t1) (.int 0 t2) N' l, SL_out [(it, isListIt tv (i + 1)), (L, isNs (put "reached" (.int e.2.2 t') (put "one" (.int e.2.1 t) m)))], _, N', rfl, hm1, hm2, hm3, ?_, by omega⟩
    have e1 : es.take (i + 1) = es.take i ++ [(e.2.1, e.2.2)] := by rw [List.take_add_one, he2]; rfl
    rw [e1]; exact hT'
  · rintro lj ⟨m, N, rfl, hm1, hm2, hm3, hT, hzN⟩
    simp only [List.append_nil]
    rw [List.length_map] at hzN hT
    have hel : es.length = evs.length := by rw [hes]; simp
    rw [List.take_of_length_le (by omega)] at hT
    have hTF := hT.toF
    walk_at "go"
    refine T.gM (by walk_at "mem") m128 (by walk_at "mem") rfl ?_
    dsimp only
    refine T.cwK0 m128.2.2 ?_
    refine T.pick ?_ (SL_in [(L, isNs m)])
    refine prepareT (d := d + 3) (hA.deeper.le (by omega)) lo (Around.frames_deeper hfr) (Frames.cons (by show ScopeKind.function ≠ ScopeKind.module; decide) rfl hF) hTF hS (by omega) fun rd => ?_
    refine ⟨trivial, ?_⟩
    refine T.pick ?_ (RS_out [(L, isNs m)])
    simp only [List.cons_append, List.nil_append]
    walk_at "go"
    refine T.newI .nil fun wv => ?_
    walk_at "go"
    refine T.newI .nil fun ov => ?_
    walk_at "go"
    refine T.lenL (.tail _ (.tail _ (.tail _ (.tail _ (.tail _ (.tail _ (.tail _ (nds_tail htv)))))))) (by simp; omega) fun t3 => ?_
    walk_at "go"
    refine T.range1 fun rv => ?_
    rw [List.length_map, ← hel]
    refine T.iterRange (n := es.length + 1) (.head _) (small_of (by omega) (by omega) (.inl rfl)) (size_up rfl) fun rit => ?_
    refine T.forLoop (rest := []) (lj₀ := (L, isNs (put "order" (.ref ov) (put "waiting" (.ref wv) m))) :: (wv, isInts []) :: (ov, isInts []) :: (rd, isInts ((N.reverse.filter fun n => n.np = 0).map (·.id))) :: SL b sr dsr nd (.ref rd) (.int 0 t1) (.int 0 t2) N l) (It.range hA.deeper.hh)
      (fun k lj => ∃ m N P ws os rs po tp fin tf, lj = (L, isNs m) :: (wv, isInts ws) :: (ov, isInts os) :: (rd, isInts rs) :: SL b sr dsr nd (.ref rd) (.int po tp) (.int fin tf) N l ∧ m "waiting" = some (.ref wv) ∧ m "order" = some (.ref ov) ∧ m "sorter" = some (.ref sr) ∧ m "turn" = some (.int turn u) ∧
        ToldF N (DomE es) P (Par es) ∧ RunO es P os ws rs ∧ os.length = k ∧ N.length ≤ 20)
      (by rw [List.append_nil]; walk_at "pick") ⟨_, N, _, [], [], _, 0, t1, 0, t2, rfl, rfl, rfl, hm1, hm3, hTF, RunO.init hT, rfl, by omega⟩ (fun _ _ _ _ _ _ => trivial) ?_ ?_
    · rintro k v lj KQ hK hk ⟨t4, rfl⟩ ⟨m, N, P, ws, os, rs, po, tp, fin, tf, rfl, hm1, hm2, hm3, hm4, hT, hR, hol, hzN⟩
      have hlen := hR.len hdm
      simp only [List.append_nil] at hK ⊢
      walk_at "go"
      refine T.gmInts (by walk_at "mem") F.slot_list_extend F.type_list_extend ?_
      walk_at "go"
      refine T.gM (by walk_at "mem") m135 (by walk_at "mem") rfl ?_
      dsimp only
      refine T.cwK0 m135.2.2 ?_
      refine T.pick ?_ (RS_in [(rit, isRangeIt 0 1 (es.length + 1) (k + 1)), (L, isNs (put "k" (.int (0 + (k : Int) * 1) t4) m)), (wv, isInts ws), (ov, isInts os)])
      refine readyT (d := d + 3) (hA.deeper.le (by omega)) hT.nd (fun i hi => (hT.ids i).mpr (hR.dom i (by simp [hi]))) (by omega) (by omega) fun res tp' => ?_
      refine T.pick (t := (rit, isRangeIt 0 1 (es.length + 1) (k + 1)) :: (L, isNs (put "k" (.int (0 + (k : Int) * 1) t4) m)) :: (wv, isInts ws) :: (ov, isInts os) :: (res, isTupI rs) :: (rd, isInts []) :: SL b sr dsr nd (.ref rd) (.int (po + rs.length) tp') (.int fin tf) (mark rs N) l) ?_
        (.perm (RSS_perm [(rit, isRangeIt 0 1 (es.length + 1) (k + 1)), (L, isNs (put "k" (.int (0 + (k : Int) * 1) t4) m)), (wv, isInts ws), (ov, isInts os)]).symm .refl)
      have hT2 := hT.mark (R := rs) fun i hi => hR.dom i (by simp [hi])
      have hR2 := hR.take
      have hzN2 : (mark rs N).length ≤ 20 := by simpa [mark] using hzN
      walk_at "go"
      refine T.extT (by walk_at "rep") (by walk_at "mem") (by omega) (by omega) ?_
      refine ⟨trivial, ?_⟩
      walk_at "go"
      refine T.newI .nil fun nv => ?_
      refine T.eqL hA.deeper (.tail _ (.tail _ (.tail _ (.head _)))) (.head _) ?_
      have hne : ws ++ rs ≠ [] := by
        intro q
        rw [q] at hR2
        have := nodup_sub hdl fun x hx => hR2.full hrk hmx x ((hdm x).mp hx)
        omega
      rw [decide_eq_false hne]
      walk_at "go"
      rw [if_neg Bool.false_ne_true]
      walk_at "go"
      refine T.gmInts (by walk_at "mem") F.slot_list_append F.type_list_append ?_
      walk_at "go"
      refine T.gmInts (by walk_at "mem") F.slot_list_pop F.type_list_pop ?_
      walk_at "go"
      refine T.lenI (by walk_at "mem") (by simp; omega) fun t5 => ?_
      have hpos : 0 < (ws ++ rs).length := List.length_pos_iff.mpr hne
      have hle : (ws ++ rs).length ≤ 11 := by simp; omega
      refine T.mod (by omega) fun t6 => ?_
      walk_at "go"
      have ef := Int.fmod_eq_emod_of_nonneg (turn + (0 + (k : Int) * 1)) (b := ((ws ++ rs).length : Int)) (by omega)
      have e0 := Int.emod_nonneg (turn + (0 + (k : Int) * 1)) (b := ((ws ++ rs).length : Int)) (by omega)
      have e1 := Int.emod_lt_of_pos (turn + (0 + (k : Int) * 1)) (b := ((ws ++ rs).length : Int)) (by omega)
      rw [← ef] at e0 e1
      generalize (turn + (0 + (k : Int) * 1)).fmod ((ws ++ rs).length : Int) = jj at e0 e1 ⊢
      have hlt : jj.toNat < (ws ++ rs).length := by omega
      have hsl : sizeLine = 2 ^ 24 := rfl
      refine T.popAt (by walk_at "rep") e0 (by omega) (by omega) fun t7 => ?_
      have hperm : (ws ++ rs).Perm ((ws ++ rs)[jj.toNat] :: (ws ++ rs).eraseIdx jj.toNat) := (perm_cons_erase _ _ hlt).symm
      rw [List.getD_eq_getElem?_getD, List.getElem?_eq_getElem hlt, Option.getD_some]
      generalize (ws ++ rs)[jj.toNat] = x at hperm ⊢
      generalize (ws ++ rs).eraseIdx jj.toNat = ws' at hperm ⊢
      have hxw : x ∈ ws ++ rs := hperm.mem_iff.mpr (.head _)
      walk_at "go"
      refine T.appI (by walk_at "rep") (by omega) ?_
      refine ⟨trivial, ?_⟩
      walk_at "go"
      refine T.gM (by walk_at "mem") m156 (by walk_at "mem") rfl ?_
      dsimp only
      refine T.cwK1 m156.2.2 ?_
      walk_at "go"
      refine T.lastI (by walk_at "mem") (i := x) (by simp) (by simp; omega) fun t8 => ?_
      walk_at "go"
      have hxd : DomE es x := hR2.dom x (List.mem_append_right _ (List.mem_append_left _ hxw))
      have hxo : x ∉ os := fun q => (List.nodup_append.mp hR2.nd).2.2 x q x (List.mem_append_left _ hxw) rfl
      have hxP := hR2.num x hxd
      rw [if_neg hxo, if_pos hxw] at hxP
      have hSx : Par es x = [] ∨ ∃ s, Par es x = [s] ∧ s ≠ x ∧ DomE es s := (hS x hxd).imp id fun ⟨s, h1, h2, h3⟩ => ⟨s, h1, fun q => by rw [q] at h3; exact Nat.lt_irrefl _ h3, h2⟩
      refine T.pick (t := (rit, isRangeIt 0 1 (es.length + 1) (k + 1)) :: (L, isNs (put "k" (.int (0 + (k : Int) * 1) t4) m)) :: (wv, isInts ws') :: (ov, isInts (os ++ [x])) :: (rd, isInts []) :: SL b sr dsr nd (.ref rd) (.int (po + rs.length) tp') (.int fin tf) (mark rs N) l) ?_ (by walk_at "pick")
      refine T.pick ?_ (RS_in [(rit, isRangeIt 0 1 (es.length + 1) (k + 1)), (L, isNs (put "k" (.int (0 + (k : Int) * 1) t4) m)), (wv, isInts ws'), (ov, isInts (os ++ [x]))])
      refine doneT (d := d + 4) (hA.deeper.le (by omega)) lo hT2 hxd hxP hSx (by simp) (by omega) fun N' tf' hT3 hN' => ?_
      refine ⟨trivial, ?_⟩
      walk_at "go"
      refine hK _ _ ?_
      refine ⟨(L, isNs (put "k" (.int (0 + (k : Int) * 1) t4) m)) :: (wv, isInts ws') :: (ov, isInts (os ++ [x])) :: (rd, isInts ([] ++ (Par es x).filter fun j => (if j ∈ rs then -1 else P j) - 1 = 0)) :: SL b sr dsr nd (.ref rd) (.int (po + rs.length) tp') (.int (fin + 1) tf') N' l,
        RS_out [(rit, isRangeIt 0 1 (es.length + 1) (k + 1)), (L, isNs (put "k" (.int (0 + (k : Int) * 1) t4) m)), (wv, isInts ws'), (ov, isInts (os ++ [x]))], ?_⟩
      exact ⟨put "k" (.int (0 + (k : Int) * 1) t4) m, N', _, ws', os ++ [x], (Par es x).filter fun j => (if j ∈ rs then -1 else P j) - 1 = 0, _, tp', _, tf', rfl, hm1, hm2, hm3, hm4, hT3, hR2.step hperm (hSx.imp id fun ⟨s, h1, h2, _⟩ => ⟨s, h1, h2⟩) fun _ => rfl, by simp [hol], by omega⟩
    · rintro lj ⟨m, N, P, ws, os, rs, po, tp, fin, tf, rfl, hm1, hm2, hm3, hm4, hT, hR, hol, hzN⟩
      have hlen := hR.len hdm
      simp only [List.append_nil]
      walk_at "go"
      refine hK _ _ ?_
      exact ⟨(ov, isInts os) :: l, (.drop (.drop (.cons .head (.drop SL_l)))), h ov os (List.nodup_append.mp hR.nd).1 (fun i hi => hR.dom i (List.mem_append_left _ hi)) hol fun e he => hR.ord e he (nodup_full (List.nodup_append.mp hR.nd).1 (fun y hy => (hdm y).mpr (hR.dom y (List.mem_append_left _ hy))) (by omega) _ ((hdm _).mpr ⟨e, he, .inl rfl⟩))⟩
end

namespace KP
def bound : Obj := { cls := .type "builtin_function_or_method", data := .fields #[.builtin "type.__prepare__", .type "type"] }
theorem type_pr : typeOf (.builtin "type.__prepare__") = pure (.type "classmethod_descriptor") := by show builtinType _ = _; rw [builtinType_eq_fast]; kernel_rfl
theorem entry_pr : entryFor table "type.__prepare__" = some Builtin.«type.__prepare__» := entryFor_of_tree (by kernel_rfl)
theorem quiet_pr {as : Args} : (Code.builtin "type.__prepare__" as).quiet = true := Code.quiet_builtin _ (by decide +kernel)
theorem type_type : isType (.type "type") = pure true := by first | rfl | kernel_rfl | (unfold isType; rw [isSubtype_type]; kernel_rfl)
theorem owner_pr : (kfb_private% "ownerAndName") "type.__prepare__" = ("type", "__prepare__") := by first | decide +kernel | kernel_rfl
theorem sub_tt : isSubtype (.type "type") (.type "type") = pure true := by rw [isSubtype_type]; kernel_rfl
theorem tof : typeOf (.type "type") = pure (.type "type") := by first | rfl | kernel_rfl
theorem stub : opaqueClassAbove (.type "type") = pure none := by unfold opaqueClassAbove; dsimp only; rw [show Manifest.isStub "type" = false by decide +kernel]; rfl
theorem found : findCls [] (.type "type") (.type "type") (PySem.Str.ofString "__prepare__") = some (.get (.builtin "classmethod_descriptor.__get__") (.builtin "type.__prepare__") .none (.type "type")) := by kernel_rfl
theorem check_pr {n : Str} {t : Tok} {bt : Addr} : checkBoundCall "type.__prepare__" ⟨[.type "type", .str n t, .ref bt], []⟩ = pure () := by first | kernel_rfl | rfl
section
variable {w : World} {A : Around} {E : Value → Shared → Prop} {s : Shared}
theorem run_get {P : Fin → Shared → Prop} (h : P (.done (.ret (.ref s.heap.objs.size))) { s with heap := s.heap.push bound }) :
    wpAny (model pg w) A (Builtin.«classmethod_descriptor.__get__» ⟨[.builtin "type.__prepare__", .none, .type "type"], []⟩) P E s := by
  unfold Builtin.«classmethod_descriptor.__get__»
  refine wpAny_bind (wpAny_of_eq (a := (.builtin "type.__prepare__", none, some (.type "type"))) (by first | rfl | kernel_rfl) ?_)
  simp only [owner_pr]
  refine wpAny_bind (wpAny_of_eq (a := .type "type") rfl ?_)
  refine wpAny_bind (wpAny_of_eq (a := true) type_type ?_)
  refine KFB.if_not rfl ?_
  refine wpAny_bind (wpAny_of_eq (a := true) sub_tt ?_)
  refine KFB.if_not rfl ?_
  exact wpAny_bind (wpAny_newObj_type (wpAny_pure h))
theorem getP {Q : Option Value → Shared → Prop} (h : ∀ tk, Q (some (.ref s.heap.objs.size)) { s with heap := s.heap.push bound, toks := tk }) : wpAny (model pg w) A (getAttr? (.type "type") "__prepare__") Q E s := by
  unfold getAttr? getAttrBy?
  refine wpAny_bind (wpAny_mkText (wpAny_bind (wpAny_attempt ?_)))
  unfold getAttrBy
  refine wpAny_holding (wpAny_bind (wpAny_of_eq tof (wpAny_bind (wpAny_of_eq KF.slot_tga.lookup ?_))))
  dsimp only
  rw [if_neg (by decide)]
  unfold getAttrByItsOwn
  refine wpAny_bind (wpAny_of_eq (a := none) rfl (wpAny_bind (wpAny_attempt (wpAny_holding ?_))))
  unfold callGetattribute
  rw [if_neg (by decide)]
  unfold boundAndCalled
  rw [KF.slot_tga.bind]
  refine wpAny_bind (wpAny_pure ?_)
  show wpAny _ _ (call (.builtin "type.__getattribute__") [.type "type", .str "__prepare__" s.toks]) _ _ _
  refine wpAny_call ?_
  refine codeAny_call_builtin KF.slot_tga.plain KF.entry_tga ?_
  refine KF.slot_tga.check _ _ _ _ _ _ _ _ tof (KF.args_tga _ _) ?_
  have X : Frag.In [] s.heap := fun _ _ e => nomatch e
  refine tga_run (s := { s with toks := s.toks + 1 }) (K := []) (c := .type "type") (mc := .type "type") (name := PySem.Str.ofString "__prepare__") (tk := s.toks) (r := .get (.builtin "classmethod_descriptor.__get__") (.builtin "type.__prepare__") .none (.type "type")) X (Looks.of_pure stub) (Looks.of_pure tof) found ?_
  show wpAny _ _ (holding [.builtin "type.__prepare__"] (call (.builtin "classmethod_descriptor.__get__") [.builtin "type.__prepare__", .none, .type "type"]) >>= fun v => ret v) _ _ _
  refine wpAny_bind (wpAny_holding (wpAny_call_entry KFB.slot_get type_pr KFB.entry_get (run_get ⟨_, rfl, ?_⟩) (KFB.args_get _ _ _)))
  refine wpAny_pure ?_
  refine wpAny_bind (wpAny_pure ?_)
  exact wpAny_pure (wpAny_pure (h _))
theorem callP {p bt : Addr} {n : Str} {t : Tok} {Q : Value → Shared → Prop} (hp : s.heap.get? p = some bound) (h : Q (.ref s.heap.objs.size) { s with heap := s.heap.push { cls := .type "dict", data := .dict #[] } }) : wpAny (model pg w) A (call (.ref p) [.str n t, .ref bt]) Q E s := by
  refine wpAny_call (codeAny_of_tree ?_)
  show wpAny _ A.in1 (callAny (.ref p) _) _ _ _
  unfold callAny
  refine wpAny_bind (wpAny_load hp ?_)
  refine wpAny_bind (wpAny_of_eq (a := ()) check_pr ?_)
  refine wpAny_pure ⟨quiet_pr, codeAny_builtin entry_pr ?_⟩
  unfold Builtin.«type.__prepare__»
  exact wpAny_bind (wpAny_newObj_type (wpAny_pure h))
end
end KP
namespace T
section
variable {b : Bs} {A : Around} {l : Led}
def emptyD : Obj := { cls := .type "dict", data := .dict #[] }
theorem getP {Q : Option Value → Led → Prop} (h : ∀ p, Q (some (.ref p)) ((p, isO KP.bound) :: l)) : T b A (getAttr? (.type "type") "__prepare__") Q l := fun s I =>
  KP.getP fun tk => ⟨_, I.up (tk := tk) (I.st.push (p := isO KP.bound) rfl), h _⟩
theorem callP {p bt : Addr} {n : Str} {t : Tok} {Q : Value → Led → Prop} (hp : (p, isO KP.bound) ∈ l) (h : ∀ ns, Q (.ref ns) ((ns, isO emptyD) :: l)) : T b A (call (.ref p) [.str n t, .ref bt]) Q l := fun s I => by
  obtain ⟨o, e, rfl⟩ := I.st.get hp
  exact KP.callP e ⟨_, I.up (tk := s.toks) (I.st.push (p := isO emptyD) rfl), h _⟩
end
end T

def isCd (P : Addr) (qual : Str) : OP := fun o => ∃ vs file tf flags tg inF text tt t, o.cls = .type "code" ∧ o.data = .fields vs ∧ vs[11]? = some (.ref P) ∧ vs.getD 11 .none = .ref P ∧ vs.getD 18 .none = .str file tf ∧
    vs.getD 7 .none = .int flags tg ∧ vs.getD 9 .none = .bool inF ∧ vs.getD 10 .none = .int text tt ∧ vs[1]? = some (.str qual t)
def isRec (qual : Str) : OP := fun o => ∃ vs t, o.data = .fields vs ∧ vs[1]? = some (.str qual t)
theorem S.extAt {h₀ h h' : Heap} {l l' : Led} {a : Addr} {p p' : OP} (H : S h₀ l h) (R : Rep a p p' l l') (k : Heap.ExtBut a h h') (x : ∃ o, h'.get? a = some o ∧ p' o) : S h₀ l' h' := by
  obtain ⟨u, v, rfl, rfl⟩ := R.split
  have hfa : h₀.get? a = none := H.fresh (a, p) (by simp)
  have H2 := H.lose (u := u) fun b o hb e => k b o hb e
  refine ⟨H2.keep, fun q hq => ?_, fun q hq => ?_, by simpa using H.nd⟩
  · rcases List.mem_append.mp hq with h1 | h1
    · exact H2.led q (List.mem_append_left _ h1)
    · rcases List.mem_cons.mp h1 with rfl | h1
      · exact x
      · exact H2.led q (List.mem_append_right _ h1)
  · rcases List.mem_append.mp hq with h1 | h1
    · exact H2.fresh q (List.mem_append_left _ h1)
    · rcases List.mem_cons.mp h1 with rfl | h1
      · exact hfa
      · exact H2.fresh q (List.mem_append_right _ h1)
theorem S.addBut {h₀ h h' : Heap} {l l' : Led} {a c : Addr} {p p' q : OP} (H : S h₀ l h) (R : Rep a p p' l l') (k : Heap.ExtBut a h h') (x : ∃ o, h'.get? a = some o ∧ p' o) (hc : h.objs.size ≤ c) (y : ∃ o, h'.get? c = some o ∧ q o) : S h₀ ((c, q) :: l') h' := by
  have H2 := H.extAt R k x
  have hn : ∀ z ∈ l, z.1 ≠ c := fun z hz e => by
    obtain ⟨o, ho, -⟩ := H.led z hz
    have := Heap.lt_size ho
    rw [e] at this
    exact absurd this (Nat.not_lt.mpr hc)
  have hm : l'.map (·.1) = l.map (·.1) := by obtain ⟨u, v, rfl, rfl⟩ := R.split; simp
  refine ⟨H2.keep, fun z hz => ?_, fun z hz => ?_, List.nodup_cons.mpr ⟨fun hz => ?_, H2.nd⟩⟩
  · rcases List.mem_cons.mp hz with rfl | hz
    · exact y
    · exact H2.led z hz
  · rcases List.mem_cons.mp hz with rfl | hz
    · cases e : h₀.get? c with
      | none => rfl
      | some o => exact absurd (Heap.lt_size (H.keep _ _ e)) (Nat.not_lt.mpr hc)
    · exact H2.fresh z hz
  · rw [hm] at hz
    obtain ⟨z, hz, e⟩ := List.mem_map.mp hz
    exact hn z hz e
theorem S.new2 {h₀ h h' : Heap} {l : Led} {a c : Addr} {p q : OP} (H : S h₀ l h) (k : ∀ b o, h.get? b = some o → h'.get? b = some o) (ha : h.objs.size ≤ a) (hc : h.objs.size ≤ c) (hne : a ≠ c) (h1 : ∃ o, h'.get? a = some o ∧ p o) (h2 : ∃ o, h'.get? c = some o ∧ q o) : S h₀ ((a, p) :: (c, q) :: l) h' := by
  have H1 := H.new k ha h1
  have H2 := H.new k hc h2
  refine ⟨H1.keep, fun x hx => ?_, fun x hx => ?_, ?_⟩
  · rcases List.mem_cons.mp hx with rfl | hx
    · exact h1
    · exact H2.led x hx
  · rcases List.mem_cons.mp hx with rfl | hx
    · exact H1.fresh _ (.head _)
    · exact H2.fresh x hx
  · have n1 := List.nodup_cons.mp H1.nd
    have n2 := List.nodup_cons.mp H2.nd
    refine List.nodup_cons.mpr ⟨fun hm => ?_, H2.nd⟩
    rcases List.mem_cons.mp hm with e | hm
    · exact hne e
    · exact n1.1 hm
/-- a table of codes of which only the used places are known -/
def isPT (used : List (Nat × Nat)) : OP := fun o => ∃ ps : Array Value, o = tabObj ps ∧ TriplesOk ps.toList ∧ ∀ pos : Pos, (pos.line, pos.col) ∉ used → codeAmong pos ps.toList = none
theorem isPT.none : isPT [] (tabObj #[]) := ⟨#[], rfl, trivial, fun _ _ => rfl⟩
theorem codeAmong_other {pos p : Pos} {c : Value} (l : List Value) (h : TriplesOk l) (hn : codeAmong pos l = none) (hne : (pos.line, pos.col) ≠ (p.line, p.col)) : codeAmong pos (l ++ [rawInt p.line, rawInt p.col, c]) = none := by
  fun_induction TriplesOk l with
  | case1 =>
    simp only [List.nil_append, codeAmong, rawInt]
    rw [if_neg]
    intro q
    simp only [Bool.and_eq_true, beq_iff_eq] at q
    exact hne (by rw [Prod.mk.injEq]; omega)
  | case2 a t b u x rest ih =>
    simp only [List.cons_append, codeAmong] at hn ⊢
    split at hn
    · cases hn
    · rename_i hc; rw [if_neg hc]; exact ih h hn
  | case3 l h1 h2 => exact h.elim
theorem isPT.snoc {used : List (Nat × Nat)} {ps : Array Value} {pos : Pos} {c : Value} (ht : TriplesOk ps.toList) (hn : ∀ pos : Pos, (pos.line, pos.col) ∉ used → codeAmong pos ps.toList = .none) : isPT ((pos.line, pos.col) :: used) (tabObj (ps ++ #[rawInt pos.line, rawInt pos.col, c])) := by
  have hl : (ps ++ #[rawInt pos.line, rawInt pos.col, c]).toList = ps.toList ++ [rawInt pos.line, rawInt pos.col, c] := by simp
  refine ⟨_, rfl, by rw [hl]; exact TriplesOk_snoc _ _ _ _ ht, fun p hp => ?_⟩
  rw [hl]
  rw [List.mem_cons, not_or] at hp
  exact codeAmong_other _ ht (hn p hp.2) hp.1
namespace T
section
variable {b : Bs} {A : Around} {l : Led} {env : Env} {pos : Pos} {c P : Addr} {used : List (Nat × Nat)}
theorem clsCode {fl : Nat} {name qual : Str} {scope : Scope} {l' : Led} {Q : Value → Led → Prop} (hcode : env.code = .ref c) (C : CodeHd b.s₀.heap c P) (R : Rep P (isPT used) (isPT ((pos.line, pos.col) :: used)) l l') (hnf0 : (pos.line, pos.col) ∉ used)
    (h : ∀ c' P', c' ≠ P' → Q (.ref c') ((c', isCd P' qual) :: (P', isPT []) :: l')) : T b A (classCode env pos fl name qual scope) Q l := fun s I => by
  obtain ⟨o, vs, file, tf, flags, tg, inF, text, tt, ho, hcl, hd, h11', h11, h2, h7, h9, h10, hne⟩ := C.keeps I.st.keep
  obtain ⟨op, hop, ps, rfl, ht, hn⟩ := I.st.get R.mem
  have hnf := hn pos hnf0
  unfold classCode codeAt
  rw [hcode, if_neg (show ¬ ((Value.ref c == Value.none) = true) from Bool.false_ne_true)]
  refine wpAny_bind (wpAny_fieldsOf ho hd ?_)
  rw [h11]
  refine wpAny_bind (wpAny_fieldsOf hop rfl ?_)
  rw [hnf, h2, h7, h9, h10]
  refine wpAny_bind (wpAny_newCodeX fun c' P' h' tk hk hc' hP' hcode' htab' hrec' => ?_)
  have hop' := hk _ _ hop
  refine wpAny_bind (wpAny_updateFieldsOfTheText hop' rfl ?_)
  have hnew : (Obj.mapFields (fun vs => if (codeAmong pos vs.toList).isSome = true then vs else vs ++ #[rawInt pos.line, rawInt pos.col, .ref c']) (tabObj ps)) = tabObj (ps ++ #[rawInt pos.line, rawInt pos.col, .ref c']) := by
    show tabObj (if (codeAmong pos ps.toList).isSome = true then ps else ps ++ #[rawInt pos.line, rawInt pos.col, .ref c']) = _
    rw [hnf]; rfl
  have hget := Heap.get?_update_self (h := h') (fun o => Obj.mapFields (fun vs => if (codeAmong pos vs.toList).isSome = true then vs else vs ++ #[rawInt pos.line, rawInt pos.col, .ref c']) o) hop' (by rw [hnew]; rfl)
  rw [hnew] at hget
  refine wpAny_bind (wpAny_fieldsOf hget rfl ?_)
  have hl : (ps ++ #[rawInt pos.line, rawInt pos.col, Value.ref c']).toList = ps.toList ++ [rawInt pos.line, rawInt pos.col, .ref c'] := by simp
  rw [hl, codeAmong_snoc _ ht hnf]
  have hcd := CodeHd.of hcode' htab'
  obtain ⟨o₂, vs₂, file₂, tf₂, fl₂, tg₂, in₂, te₂, tt₂, e1, e2, e3, e4, e5, e6, e7, e8, e9, e10⟩ := hcd
  obtain ⟨c₃, o₃, vs₃, t₃, g1, g2, g3, g4⟩ := hrec'
  cases g1
  rw [e1] at g2; cases g2
  rw [e3] at g3; cases g3
  have H1 := I.st.new2 (p := isCd P' qual) (q := isPT []) hk hc' hP' e10 ⟨_, e1, _, _, _, _, _, _, _, _, _, e2, e3, e4, e5, e6, e7, e8, e9, g4⟩ ⟨_, htab'.2, isPT.none⟩
  exact wpAny_pure ⟨_, I.up (tk := tk) (H1.same (.tail (.tail R)) (Heap.SameBut.update ..) ⟨_, hget, isPT.snoc ht hn⟩), h c' P' e10⟩
end
end T
namespace T
section
variable {b : Bs} {A : Around} {l l' : Led} {env : Env} {pos : Pos} {c P : Addr} {used : List (Nat × Nat)}
theorem mkFunP {name qual : Str} {params : Arguments} {body : List Stmt} {scope : Scope} {clos : List (Str × Addr)} {fl : Nat} {Q : Value → Led → Prop} (hcl : closureFor scope env = pure clos) (hge : env.globals = mainGlobals) (hcode : env.code = .ref c)
    (C : CodeHd b.s₀.heap c P ∨ ∃ q, (c, isCd P q) ∈ l) (hcP : c ≠ P) (R : Rep P (isPT used) (isPT ((pos.line, pos.col) :: used)) l l') (hnf : (pos.line, pos.col) ∉ used)
    (h : ∀ f c' ctv doc, Q (.ref f) ((f, isO (fnMade name qual params body scope clos doc ((b.mg "__name__").getD .none) c' ctv)) :: (c', isRec qual) :: l')) : T b A (makeFunction name qual params (.stmts body) scope env [] [] [] pos fl) Q l := fun s I => by
  obtain ⟨op, hop, ps, rfl, ht, hn⟩ := I.st.get R.mem
  have hgP : mainGlobals ≠ P := by
    rintro rfl
    obtain ⟨o, es, ep, e, -⟩ := b.B.g
    have := I.st.fresh _ R.mem
    rw [e] at this; cases this
  have CH : CodeHd s.heap c P := by
    rcases C with C | ⟨q, hm⟩
    · exact C.keeps I.st.keep
    · obtain ⟨o, e, vs, file, tf, fl, tg, inF, te, tt, t, e2, e3, e4, e5, e6, e7, e8, e9, _⟩ := I.st.get hm
      exact ⟨o, vs, file, tf, fl, tg, inF, te, tt, e, e2, e3, e4, e5, e6, e7, e8, e9, hcP⟩
  obtain ⟨bm, ob, h1, h2, h3, h4, h5, h6⟩ := b.B.bmain
  have hbm : bm ≠ P := by
    rintro rfl
    have := I.st.fresh _ R.mem
    rw [h3] at this; cases this
  have hbmg : bm ≠ mainGlobals := by
    rintro rfl
    obtain ⟨o, es, ep, e, hd, -⟩ := b.B.g
    rw [h3] at e; cases e
    rw [h6] at hd; cases hd
  refine makeFunction_K hcl hge (b.B.g.keeps I.st.keep) hcode CH hop ht (hn pos hnf) hgP ⟨bm, ob, h1, h2, hbmg, hbm, I.st.keep _ _ h3, h4, h5, h6⟩ fun c' ctv doc h' tk hx hge' hlt hrec hP => ?_
  obtain ⟨c₃, o₃, vs₃, t₃, g1, g2, g3, g4⟩ := hrec
  cases g1
  have H1 := I.st.addBut (q := isRec qual) R hx ⟨_, hP, isPT.snoc ht hn⟩ hge' ⟨o₃, g2, vs₃, t₃, g3, g4⟩
  exact ⟨_, I.up (tk := tk) (H1.push (p := isO (fnMade name qual params body scope clos doc ((b.mg "__name__").getD .none) c' ctv)) rfl), h _ _ _ _⟩
end
end T

/-- a namespace whose names stand in a known order -/
inductive TabOf : List (Str × Value) → List DictEntry → Prop
  | nil : TabOf [] []
  | cons {k v h t r es} : TabOf r es → TabOf ((k, v) :: r) (⟨h, .str k t, v⟩ :: es)
def isTab (kvs : List (Str × Value)) : OP := fun o => ∃ es n, o = { cls := .type "dict", dict := none, data := .dict es n, slots := #[] } ∧ TabOf kvs es.toList
theorem TabOf.find {kvs es} (x : TabOf kvs es) (name : Str) : (∃ e, es.find? (·.key.isStr name) = some e ∧ kvs.lookup name = some e.val) ∨ (es.find? (·.key.isStr name) = none ∧ kvs.lookup name = none) := by
  induction x with
  | nil => exact .inr ⟨rfl, rfl⟩
  | @cons k v h t r es _ ih =>
    by_cases q : k = name
    · subst q
      exact .inl ⟨_, by rw [List.find?_cons_of_pos (by simp [Value.isStr])], by simp [List.lookup]⟩
    · rw [List.find?_cons_of_neg (by simpa [Value.isStr] using q), List.lookup_cons]
      rw [show (name == k) = false from beq_false_of_ne fun e => q e.symm]
      exact ih
theorem TabOf.noRef {kvs es} (x : TabOf kvs es) : es.any (·.refKey) = false := by
  induction x with
  | nil => rfl
  | cons _ ih => rw [List.any_cons, ih]; rfl
theorem TabOf.snoc {kvs es} (x : TabOf kvs es) (k : Str) (v : Value) (h : Int) (t : Tok) : TabOf (kvs ++ [(k, v)]) (es ++ [⟨h, .str k t, v⟩]) := by
  induction x with
  | nil => exact .cons .nil
  | cons _ ih => exact .cons ih
theorem TabOf.drop {kvs es} (x : TabOf kvs es) (name : Str) : TabOf (kvs.eraseP fun p => p.1 == name) (es.eraseP fun e => e.key.isStr name) := by
  induction x with
  | nil => exact .nil
  | @cons k v h t r es y ih =>
    by_cases q : k = name
    · rw [List.eraseP_cons_of_pos (by simpa using q), List.eraseP_cons_of_pos (by simpa [Value.isStr] using q)]; exact y
    · rw [List.eraseP_cons_of_neg (by simpa using q), List.eraseP_cons_of_neg (by simpa [Value.isStr] using q)]; exact .cons ih
theorem TabOf.any {kvs es} (x : TabOf kvs es) (name : Str) : es.any (·.key.isStr name) = (kvs.lookup name).isSome := by
  rcases x.find name with ⟨e, h1, h2⟩ | ⟨h1, h2⟩
  · rw [h2]
    have := List.find?_some h1
    exact List.any_eq_true.mpr ⟨e, List.mem_of_find?_eq_some h1, this⟩
  · rw [h2]
    rw [List.find?_eq_none] at h1
    simpa [List.any_eq_false] using h1
namespace T
section
variable {b : Bs} {A : Around} {l l' : Led} {ns : Addr} {kvs : List (Str × Value)} {x : Str} {v : Value}
theorem tabGet {Q : Option Value → Led → Prop} (hm : (ns, isTab kvs) ∈ l) (h : Q (kvs.lookup x) l) : T b A (nsGet ns x) Q l := fun s I => by
  obtain ⟨o, e, es, n, rfl, ht⟩ := I.st.get hm
  unfold nsGet
  refine wpAny_bind (wpAny_loadPart e ?_)
  rw [nsLook_eq]
  unfold nsLookByArray
  dsimp only
  rcases ht.find x with ⟨e', h1, h2⟩ | ⟨h1, h2⟩
  · rw [show es.find? (·.key.isStr x) = some e' by rw [← Array.find?_toList]; exact h1]
    rw [h2] at h
    exact wpAny_pure ⟨l, I, h⟩
  · rw [show es.find? (·.key.isStr x) = none by rw [← Array.find?_toList]; exact h1]
    rw [h2] at h
    dsimp only
    rw [if_neg (by rw [← Array.any_toList, ht.noRef]; exact Bool.false_ne_true)]
    exact wpAny_pure ⟨l, I, h⟩
theorem tabSet {Q : Unit → Led → Prop} (R : Rep ns (isTab kvs) (isTab (kvs ++ [(x, v)])) l l') (hx : kvs.lookup x = none) (h : Q () l') : T b A (nsSet ns x v) Q l := fun s I => by
  obtain ⟨o, e, es, n, rfl, ht⟩ := I.st.get R.mem
  unfold nsSet strHash
  refine wpAny_bind (wpAny_bind (wpAny_askSetting (wpAny_pure ?_)))
  refine wpAny_bind (wpAny_mkText ?_)
  refine wpAny_bind (wpAny_loadPart e ?_)
  dsimp only
  rw [aRefKeyMayBeTheName_at, if_neg (by rw [← Array.any_toList, ← Array.any_toList, ht.noRef]; simp)]
  refine wpAny_updatePart e ⟨l', ?_, h⟩
  have hn : es.findIdx? (·.key.isStr x) = none := by
    rw [Array.findIdx?_eq_none_iff]
    intro e' he'
    have h1 := ht.any x
    rw [hx] at h1
    have h2 := List.any_eq_false.mp h1 e' (by simpa using he')
    simpa using h2
  refine I.up (tk := s.toks + 1) (I.st.same R (Heap.SameBut.update ..) ⟨_, Heap.get?_update_self _ e ?_, ?_⟩)
  · rw [Obj.putName_eq]; unfold Obj.putNameByArray; dsimp only; rw [hn]; rfl
  · rw [Obj.putName_eq]
    unfold Obj.putNameByArray
    dsimp only
    rw [hn]
    exact ⟨_, _, rfl, by rw [Array.toList_push]; exact ht.snoc _ _ _ _⟩
theorem tabDel {Q : Bool → Led → Prop} (R : Rep ns (isTab kvs) (isTab (kvs.eraseP fun p => p.1 == x)) l l') (hx : (kvs.lookup x).isSome = true) (h : Q true l') : T b A (nsDel ns x) Q l := fun s I => by
  obtain ⟨o, e, es, n, rfl, ht⟩ := I.st.get R.mem
  unfold nsDel
  refine wpAny_bind (wpAny_loadPart e ?_)
  have hh : nsHas x { cls := .type "dict", dict := none, data := .dict es n, slots := #[] } = pure true := by
    rw [nsHas_eq]; unfold nsHasByArray
    dsimp only
    rw [if_pos (by rw [← Array.any_toList, ht.any x, hx])]
  refine wpAny_bind (wpAny_of_eq hh ?_)
  rw [if_pos rfl]
  refine wpAny_bind (wpAny_updatePart e (wpAny_pure ⟨l', ?_, h⟩))
  have key : Obj.dropName x { cls := .type "dict", dict := none, data := .dict es n, slots := #[] } = { cls := .type "dict", dict := none, data := .dict (es.toList.eraseP fun e => e.key.isStr x).toArray (n + 1), slots := #[] } := by
    rw [Obj.dropName_eq]
    unfold Obj.dropNameByArray
    rw [List.eraseP_eq_eraseIdx, ← List.findIdx?_toArray, Array.toArray_toList]
    have hs : es.findIdx? (·.key.isStr x) ≠ none := fun q => by
      rw [Array.findIdx?_eq_none_iff] at q
      have h1 := ht.any x
      rw [hx] at h1
      obtain ⟨e', he', h2⟩ := List.any_eq_true.mp h1
      have h3 := q e' (by simpa using he')
      rw [h2] at h3; cases h3
    cases q : es.findIdx? (·.key.isStr x) with
    | none => exact absurd q hs
    | some i =>
      dsimp only
      rw [← Array.toList_eraseIdxIfInBounds, Array.toArray_toList, q]
  refine I.up (tk := s.toks) (I.st.same R (Heap.SameBut.update ..) ⟨_, Heap.get?_update_self _ e (by rw [key]; rfl), ?_⟩)
  rw [key]
  exact ⟨_, _, rfl, ht.drop x⟩
theorem tabNoDel {Q : Bool → Led → Prop} (hm : (ns, isTab kvs) ∈ l) (hx : kvs.lookup x = none) (h : Q false l) : T b A (nsDel ns x) Q l := fun s I => by
  obtain ⟨o, e, es, n, rfl, ht⟩ := I.st.get hm
  unfold nsDel
  refine wpAny_bind (wpAny_loadPart e ?_)
  have hh : nsHas x { cls := .type "dict", dict := none, data := .dict es n, slots := #[] } = pure false := by
    rw [nsHas_eq]; unfold nsHasByArray
    dsimp only
    rw [if_neg (by rw [← Array.any_toList, ht.any x, hx]; exact Bool.false_ne_true), if_neg (by rw [← Array.any_toList, ht.noRef]; exact Bool.false_ne_true)]
  refine wpAny_bind (wpAny_of_eq hh ?_)
  rw [if_neg Bool.false_ne_true]
  exact wpAny_pure ⟨l, I, h⟩
end
end T
namespace T
section
variable {b : Bs} {A : Around} {l l' : Led} {kvs : List (Str × Value)} {x : Str} {v : Value} {env : Env}
theorem locSet {Q : Unit → Led → Prop} (R : Rep env.locals (isTab kvs) (isTab (kvs ++ [(x, v)])) l l') (hx : kvs.lookup x = none) (h : Q () l') : T b A (localSet env x v) Q l := by
  unfold localSet
  refine bnd (fun s I => ?_)
  obtain ⟨o, e, es, n, rfl, ht⟩ := I.st.get R.mem
  refine wpAny_load e ⟨l, I, ?_⟩
  dsimp only
  rw [if_pos (by rfl)]
  exact tabSet R hx h
theorem stK {Q : Unit → Led → Prop} (hk : env.scope.kind = .class) (hn : env.kindOf x = some .local ∨ (env.kindOf x = none ∧ compilersOwnNames.contains x = true)) (R : Rep env.locals (isTab kvs) (isTab (kvs ++ [(x, v)])) l l') (hx : kvs.lookup x = none) (h : Q () l') : T b A (storeName env x v) Q l := by
  unfold storeName
  have e1 : (some NameKind.local == some NameKind.globalImplicit) = false := by decide
  have e2 : ((none : Option NameKind) == some NameKind.globalImplicit) = false := by decide
  have e3 : (ScopeKind.class == ScopeKind.class) = true := by decide
  have e4 : (env.blockKind == ScopeKind.function) = false := by
    unfold Env.blockKind
    rw [hk]; rfl
  rcases hn with h1 | ⟨h1, h2⟩
  · rw [h1, e1, Bool.false_and, if_neg Bool.false_ne_true]
    dsimp only
    rw [hk, e3, Bool.true_or, if_pos rfl]
    exact locSet R hx h
  · rw [h1, e2, Bool.false_and, if_neg Bool.false_ne_true]
    dsimp only
    rw [hk, e3, h2, e4]
    simp only [Bool.true_or, Bool.not_true, Bool.and_false, Bool.or_false, Bool.false_eq_true, if_false, if_true]
    exact locSet R hx h
theorem ldKn {Q : Value → Led → Prop} (hk : env.scope.kind = .class) (h1 : env.kindOf "__name__" = none) (hg : env.globals = mainGlobals) (hm : (env.locals, isTab kvs) ∈ l) (hx : kvs.lookup (Str.ofString "__name__") = none) (h : Q (.str "law_il0175_01" 428) l) : T b A (loadName env "__name__") Q l := by
  have e4 : env.blockKind = ScopeKind.class := by
    unfold Env.blockKind
    rw [hk]; rfl
  unfold loadName
  rw [hk, if_neg (by rw [show ScopeKind.class.isAnnotationScope = false from rfl]; exact Bool.false_ne_true), e4, h1]
  dsimp only
  rw [if_neg (by decide)]
  refine bnd ?_
  unfold localGet
  refine bnd (fun s I => ?_)
  obtain ⟨o, e, es, n, rfl, ht⟩ := I.st.get hm
  refine wpAny_load e ⟨l, I, ?_⟩
  dsimp only
  rw [if_pos (by rfl)]
  refine tabGet hm ?_
  rw [hx]
  dsimp only
  unfold loadGlobal
  rw [hg]
  refine bnd (nsG (r := some (.str "law_il0175_01" 428)) rfl (by kernel_rfl) ?_)
  exact pur h
theorem tabSet0 {Q : Unit → Led → Prop} {ns : Addr} {u : Value} (R : Rep ns (isTab ((x, u) :: kvs)) (isTab ((x, v) :: kvs)) l l') (h : Q () l') : T b A (nsSet ns x v) Q l := fun s I => by
  obtain ⟨o, e, es, n, rfl, ht⟩ := I.st.get R.mem
  unfold nsSet strHash
  refine wpAny_bind (wpAny_bind (wpAny_askSetting (wpAny_pure ?_)))
  refine wpAny_bind (wpAny_mkText ?_)
  refine wpAny_bind (wpAny_loadPart e ?_)
  dsimp only
  rw [aRefKeyMayBeTheName_at, if_neg (by rw [← Array.any_toList, ← Array.any_toList, ht.noRef]; simp)]
  refine wpAny_updatePart e ⟨l', ?_, h⟩
  obtain ⟨es⟩ := es
  cases ht with
  | @cons _ _ hh t r es' y =>
    have hn : (⟨⟨hh, .str x t, u⟩ :: es'⟩ : Array DictEntry).findIdx? (·.key.isStr x) = some 0 := by
      rw [List.findIdx?_toArray, List.findIdx?_cons]; simp [Value.isStr]
    refine I.up (tk := s.toks + 1) (I.st.same R (Heap.SameBut.update ..) ⟨_, Heap.get?_update_self _ e ?_, ?_⟩)
    · rw [Obj.putName_eq]; unfold Obj.putNameByArray; dsimp only; rw [hn]; rfl
    · rw [Obj.putName_eq]
      unfold Obj.putNameByArray
      dsimp only
      rw [hn]
      exact ⟨_, _, rfl, by simp [Array.modify, Array.modifyM]; exact .cons y⟩
theorem stK0 {Q : Unit → Led → Prop} {u : Value} (hk : env.scope.kind = .class) (h1 : env.kindOf x = some .local) (R : Rep env.locals (isTab ((x, u) :: kvs)) (isTab ((x, v) :: kvs)) l l') (h : Q () l') : T b A (storeName env x v) Q l := by
  unfold storeName
  have e1 : (some NameKind.local == some NameKind.globalImplicit) = false := by decide
  have e3 : (ScopeKind.class == ScopeKind.class) = true := by decide
  rw [h1, e1, Bool.false_and, if_neg Bool.false_ne_true]
  dsimp only
  rw [hk, e3, Bool.true_or, if_pos rfl]
  unfold localSet
  refine bnd (fun s I => ?_)
  obtain ⟨o, e, es, n, rfl, ht⟩ := I.st.get R.mem
  refine wpAny_load e ⟨l, I, ?_⟩
  dsimp only
  rw [if_pos (by rfl)]
  exact tabSet0 R h
end
end T
namespace T
section
variable {b : Bs} {A : Around} {l : Led} {env : Env}
theorem runBody {stmts : List Stmt} {Q : Flow → Led → Prop} (hann : hasAnns stmts = false) (hdoc : docOf stmts = none) (h : T b (A.deeper env) (execs stmts env) Q l) : T b A (run (.body stmts env)) Q l := fun s I =>
  wpAny_run (codeAny_body hann hdoc (h.to I fun f s' l' I' h' => ⟨l', I', h'⟩))
theorem strC {x : Str} {k : Nat} {pos : Pos} {Q : Value → Led → Prop} (h : ∀ t, Q (.str x t) l) : T b A (eval (.Constant (.str x) k pos) env) Q l := fun s I => wpAny_Constant_str ⟨l, I.up I.st, h _⟩
end
end T
namespace T
section
variable {b : Bs} {A : Around} {l : Led} {env : Env}
theorem defS {name : Str} {params : Arguments} {body : List Stmt} {scope : Scope} {pos : Pos} {Q : Flow → Led → Prop} (hd : params.defaults = []) (hk : params.kw_defaults = []) (ha : annTrees params none env = [])
    (h : T b A (makeFunction name (qualnameIn env name name) params (.stmts body) scope env [] [] [] pos pos.line) (fun v l₁ => T b A (storeName env name v) (fun _ => Q .next) l₁) l) : T b A (exec (.FunctionDef name params body [] none [] scope none name pos) env) Q l := fun s I =>
  nestDef_K hd hk ha (h.to I fun v s' l' I' h' => h'.to I' fun _ s₂ l₂ I₂ h₂ => ⟨l₂, I₂, h₂⟩)
theorem txt1 {x : Str} {Q : List Value → Led → Prop} (h : ∀ t, Q [.str x t] l) : T b A (List.mapM mkText [x]) Q l := fun s I => by
  rw [List.mapM_cons, List.mapM_nil]
  exact wpAny_bind (wpAny_mkText (wpAny_bind (wpAny_pure (wpAny_pure ⟨l, I.up I.st, h _⟩))))
theorem newTT {vs : List Value} {Q : Value → Led → Prop} (h : ∀ a, Q (.ref a) ((a, isTuple vs) :: l)) : T b A (newTextTuple vs) Q l := fun s I => wpAny_newTextTuple ⟨_, I.up (tk := s.toks) (I.st.push (p := isTuple vs) rfl), h _⟩
end
end T

namespace KN
open PySem.Builtin
theorem p1 : notOverATurnedClass [.type "object"] = pure () := by kernel_rfl
theorem p2 : extendedBase [.type "object"] = pure (.type "object") := by kernel_rfl
theorem p3 : linearize [.type "object"] mroOf = pure [.type "object"] := by kernel_rfl
theorem p4 : mroHook? (.type "type") = pure none := by kernel_rfl
theorem p5 : Bind.madeBy (.type "type") = pure (some "type.__new__") := by kernel_rfl
theorem p6 : Bind.madeBy (.type "object") = pure (some "object.__new__") := by kernel_rfl
theorem p7 : Slots.bestBase [.type "object"] = pure (.type "object") := by kernel_rfl
theorem p8 : Slots.slotNamesOf (.type "object") = pure [] := by kernel_rfl
theorem p9 : Slots.givesDict (.type "object") = pure false := by kernel_rfl
theorem p10 : Slots.givesWeak (.type "object") = pure false := by kernel_rfl
theorem p11 : Slots.varSize (.type "object") = pure false := by kernel_rfl
theorem p12 : (typeSubclassesOfTheStartUp.contains "object") = true := by decide +kernel
theorem p13 : mroOf (.type "type") = pure [.type "type", .type "object"] := by kernel_rfl
theorem p14 : isType (.type "object") = pure true := by rfl
theorem p15 : isSubtype (.type "type") (.type "type") = pure true := by rw [isSubtype_type]; kernel_rfl
theorem p16 : isSubtype (.type "tuple") (.type "tuple") = pure true := by rw [isSubtype_type]; kernel_rfl
theorem p17 : isSubtype (.type "dict") (.type "dict") = pure true := by rw [isSubtype_type]; kernel_rfl
theorem p18 : typeLookup (.type "dict") "__iter__" = pure (some (.builtin "dict.__iter__")) := by rw [typeLookup_type, builtinLookup_eq_fast]; kernel_rfl
theorem p19 : isSubtype (.type "type") (.type ((Manifest.find? "object").elim "type" fun x => x.metatype)) = pure true := by
  have q0 : ((Manifest.find? "object").elim "type" fun x => x.metatype) = "type" := by decide +kernel
  rw [q0]; exact p15
theorem entry_tc : entryFor table "type.__call__" = some Builtin.«type.__call__» := entryFor_of_tree (by kernel_rfl)
theorem entry_tn : entryFor table "type.__new__" = some Builtin.«type.__new__» := entryFor_of_tree (by kernel_rfl)
theorem entry_ti : entryFor table "type.__init__" = some Builtin.«type.__init__» := entryFor_of_tree (by kernel_rfl)
theorem quiet_tc {as : Args} : (Code.builtin "type.__call__" as).quiet = true := Code.quiet_builtin _ (by decide +kernel)
theorem plain_tn : plainId "type.__new__" = true := by decide +kernel
theorem check_tn {n : Str} {t : Tok} {x y : Addr} : checkBuiltinCall "type.__new__" ⟨[.type "type", .str n t, .ref x, .ref y], []⟩ = pure () := by kernel_rfl
end KN
abbrev kvsL (t0 t3 : Tok) (sl f1 f2 f3 f4 f5 f6 sa : Addr) : List (Str × Value) := [("__module__", .str "cpy313.functools" t0), ("__firstlineno__", .int 19 t3), ("__slots__", .ref sl), ("__init__", .ref f1), ("__lt__", .ref f2), ("__gt__", .ref f3), ("__eq__", .ref f4), ("__le__", .ref f5), ("__ge__", .ref f6), ("__hash__", .none), ("__static_attributes__", .ref sa)]
def isFnc (fd : FuncData) : OP := fun o => o = { cls := .type "function", dict := none, data := .func fd, slots := #[] }
section
variable {b : Bs} {A : Around} {l : Led} {n d : Nat}
theorem T.callType {args : List Value} {Q : Value → Led → Prop} (h : T b (A.under (.builtin "type.__call__" ⟨.type "type" :: args, []⟩)) (Builtin.«type.__call__» ⟨.type "type" :: args, []⟩) (fun fin l' => match fin with | .done (.ret v) => Q v l' | _ => False) l) : T b A (call (.type "type") args) Q l := fun s I => by
  refine wpAny_call (codeAny_of_tree ?_)
  show wpAny _ A.in1 (callAny (.type "type") _) _ _ _
  unfold callAny
  refine wpAny_pure ⟨KN.quiet_tc, codeAny_builtin KN.entry_tc (h.to I fun fin s' l' I' h' => ?_)⟩
  rcases fin with (_ | _ | _ | v) | _ <;> first | exact h'.elim | exact ⟨l', I', h'⟩
abbrev kvsK (t0 t2 t3 : Tok) (u : Value) (sl f1 f2 f3 f4 f5 f6 sa : Addr) : List (Str × Value) := [("__module__", .str "cpy313.functools" t0), ("__qualname__", .str "cmp_to_key.<locals>.K" t2), ("__firstlineno__", .int 19 t3), ("__slots__", .ref sl), ("__init__", .ref f1), ("__lt__", .ref f2), ("__gt__", .ref f3), ("__eq__", .ref f4), ("__le__", .ref f5), ("__ge__", .ref f6), ("__hash__", .none), ("__static_attributes__", .ref sa)]
theorem T.opn {α : Type} {m : Sem α} {Q : α → Led → Prop} {a : Addr} {p : OP} {l : Led} {l' : Obj → Led} (R : ∀ o, Rep a p (isO o) l (l' o)) (h : ∀ o, p o → T b A m Q (l' o)) : T b A m Q l := fun s I => by
  obtain ⟨o, e, hp⟩ := I.st.get (R default).mem
  exact h o hp s ⟨I.st.strong (R o) ⟨o, e, rfl⟩, I.sh⟩
end
section
variable {b : Bs} {A : Around} {l : Led}
theorem T.newObjD {es : Array DictEntry} {Q : Value → Led → Prop} (hz : es.size ≤ 1000) (h : ∀ a, Q (.ref a) ((a, isO { cls := .type "dict", dict := none, data := .dict es, slots := #[] }) :: l)) : T b A (newObj (.type "dict") (.dict es)) Q l := fun s I =>
  wpAny_newObj_type ⟨_, I.up (tk := s.toks) (I.st.push (p := isO { cls := .type "dict", dict := none, data := .dict es, slots := #[] }) rfl), h _⟩ (by show es.size ≤ sizeLine + 1; have : sizeLine = 2 ^ 24 := rfl; omega)
theorem T.newObjF {c : String} {vs : List Value} {Q : Value → Led → Prop} (hz : vs.length ≤ 1000) (h : ∀ a, Q (.ref a) ((a, isO { cls := .type c, dict := none, data := .fields vs.toArray, slots := #[] }) :: l)) : T b A (newFields c vs) Q l := fun s I =>
  wpAny_newObj_type ⟨_, I.up (tk := s.toks) (I.st.push (p := isO { cls := .type c, dict := none, data := .fields vs.toArray, slots := #[] }) rfl), h _⟩ (by show vs.toArray.size ≤ sizeLine + 2; have : sizeLine = 2 ^ 24 := rfl; simp; omega)
end

namespace KN
open PySem.Builtin
theorem r1 : Slots.isIdentifier "obj" = some true := by decide +kernel
theorem r2 : Slots.mangle "K" "obj" = "obj" := by decide +kernel
end KN
section
variable {b : Bs} {A : Around} {l : Led}
theorem T.collectO {a : Addr} {xs : Array Value} {nn : Nat} {Q : List Value → Led → Prop} (hm : (a, isO { cls := .type "list", dict := none, data := .seq xs nn, slots := #[] }) ∈ l) (hz : xs.size ≤ 1000) (h : Q xs.toList l) : T b A (collect (.ref a)) Q l := fun s I => by
  obtain ⟨o, e, rfl⟩ := I.st.get hm
  exact wpAny_collect_seq a (.inl rfl) e rfl rfl (fun h' hk => ⟨l, I.up (tk := s.toks) (I.st.ext hk), h⟩) (by have : sizeLine = 2 ^ 24 := rfl; omega)
theorem T.for1A {α β : Type} {a : α} {x : β} {f : α → β → Sem (ForInStep β)} {Q : β → Led → Prop} (h : T b A (f a x) (fun r l' => match r with | .yield y => Q y l' | .done y => Q y l') l) : T b A (forIn (#[].push a) x f) Q l := by
  rw [← Array.forIn_toList]; exact T.for1 h
set_option maxHeartbeats 4000000 in
theorem readT {sl : Addr} {t4 : Tok} {es : Array DictEntry} {e : DictEntry} {Q : PySem.Builtin.Slots.Plan → Led → Prop} (hf : es.find? (·.key.isStr "__slots__") = some e) (he : e.val = .ref sl) (ha : (es.any fun x => x.key.isStr "obj") = false)
    {nn : Nat} (hm : (sl, isO { cls := .type "list", dict := none, data := .seq #[.str "obj" t4] nn, slots := #[] }) ∈ l) (hh : A.handled = none) (h : Q ⟨["obj"], false, false, []⟩ l) : T b A (PySem.Builtin.Slots.read "K" [.type "object"] es) Q l := by
  have p7 := KN.p7
  have p8 := KN.p8
  have p9 := KN.p9
  have p10 := KN.p10
  have p11 := KN.p11
  have r1 := KN.r1
  obtain ⟨eh, ek, ev⟩ := e
  simp only at he
  subst he
  unfold PySem.Builtin.Slots.read
  rw [hf]
  repeat (walk_at "w")
  refine T.ld hm ?_
  iterate 3 (walk_at "w")
  refine T.collectO hm (by show (1 : Nat) ≤ 1000; decide) ?_
  walk_at "wi"
  refine T.bnd (T.eqP p11 ?_)
  walk_at "wi"
  refine T.bnd (T.for1 ?_)
  refine T.bnd (T.eqP (x := some (Str.ofString "obj")) (by rfl) ?_)
  refine T.bnd (T.pur ?_)
  dsimp only
  rw [KN.r1]
  dsimp only
  refine T.bnd (T.pur ?_)
  refine T.ifF (by rfl) ?_
  refine T.ifF (by decide +kernel) ?_
  refine T.ifF (by decide +kernel) ?_
  refine T.pur ?_
  dsimp only
  refine T.bnd (T.for1A ?_)
  dsimp only
  rw [KN.r2]
  refine T.ifPF (by decide +kernel) ?_
  refine T.ifF (by rw [ha]; rfl) ?_
  refine T.ifF (by decide +kernel) ?_
  refine T.pur ?_
  dsimp only
  refine T.bnd (T.for1 ?_)
  refine T.ifF (by decide +kernel) ?_
  refine T.pur ?_
  dsimp only
  refine T.pur ?_
  exact h
end

theorem TabOf.len {kvs es} (x : TabOf kvs es) : es.length = kvs.length := by
  induction x with
  | nil => rfl
  | cons _ ih => simp [ih]
abbrev clsO (cd : ClassData) (sl : Array (Option Value)) : Obj := { cls := .type "type", dict := none, data := .cls cd, slots := sl }
def slotSet (sl : Array (Option Value)) (i : Nat) (v : Option Value) : Array (Option Value) := (sl ++ Array.replicate (i + 1 - sl.size) none).setIfInBounds i v
namespace T
section
variable {b : Bs} {A : Around} {l l' : Led} {a : Addr} {cd : ClassData} {sl : Array (Option Value)} {i : Nat} {v : Option Value}
theorem sSlot {Q : Unit → Led → Prop} (R : Rep a (isO (clsO cd sl)) (isO (clsO cd (slotSet sl i v))) l l') (hi : i < 100) (h : Q () l') : T b A (setSlotAt a i v) Q l := by
  unfold setSlotAt
  refine ifPF (decide_eq_false (by have : sizeLine = 2 ^ 24 := rfl; omega)) ?_
  exact updP R rfl h
theorem gSlot {Q : Option Value → Led → Prop} (hm : (a, isO (clsO cd sl)) ∈ l) (h : Q (sl[i]?).join l) : T b A (slotAt a i) Q l := by
  unfold slotAt
  exact bnd (ldP hm (pur h))
theorem uCls {f : ClassData → ClassData} {Q : Unit → Led → Prop} (R : Rep a (isO (clsO cd sl)) (isO (clsO (f cd) sl)) l l') (hp : (Data.cls (f cd)).pastItsLine = none) (h : Q () l') : T b A (updateCls a f) Q l := by
  unfold updateCls
  refine bnd (ld R.mem ?_)
  dsimp only
  refine bnd (upd R rfl ?_)
  unfold lookBehind
  have hm' : (a, isO (clsO (f cd) sl)) ∈ l' := by obtain ⟨u, w, rfl, rfl⟩ := R.split; simp
  refine bnd (ldP hm' ?_)
  rw [show (clsO (f cd) sl).data = Data.cls (f cd) from rfl, hp]
  exact pur h
end
end T
namespace T
section
variable {b : Bs} {A : Around} {l : Led} {α β : Type}
theorem forC {a : α} {r : List α} {x : β} {f : α → β → Sem (ForInStep β)} {Q : β → Led → Prop} (h : T b A (f a x) (fun st l' => match st with | .yield y => T b A (forIn r y f) Q l' | .done y => Q y l') l) : T b A (forIn (a :: r) x f) Q l := fun s I => by
  rw [List.forIn_cons]
  refine wpAny_bind (h.to I fun st s' l' I' h' => ?_)
  cases st with
  | yield y => exact h' s' I'
  | done y => exact wpAny_pure ⟨l', I', h'⟩
theorem forN {x : β} {f : α → β → Sem (ForInStep β)} {Q : β → Led → Prop} (h : Q x l) : T b A (forIn ([] : List α) x f) Q l := fun s I => by
  rw [List.forIn_nil]; exact wpAny_pure ⟨l, I, h⟩
end
end T
theorem noDel {C : Addr} {p : Addr → Sem Bool} : List.anyM (fun x => match x with
    | Value.ref b => p b
    | Value.type n => (pure ((Manifest.find? n).elim false fun ty => ty.attrs.any fun x => x.fst == "__del__") : Sem Bool)
    | _ => pure false) (List.filter (fun x => x != Value.ref C) [Value.ref C, Value.type "object"]) = pure false := by
  have e1 : List.filter (fun x => x != Value.ref C) [Value.ref C, Value.type "object"] = [Value.type "object"] := by
    rw [List.filter_cons_of_neg (by simp), List.filter_cons_of_pos (by rfl), List.filter_nil]
  have e2 : ((Manifest.find? "object").elim false fun ty => ty.attrs.any fun x => x.fst == "__del__") = false := by decide +kernel
  rw [e1]
  unfold List.anyM
  dsimp only
  rw [e2]
  rfl

section
variable {b : Bs} {A : Around} {l : Led}
theorem T.tlk {C ns : Addr} {cd : ClassData} {sl : Array (Option Value)} {kvs : List (Str × Value)} {x : Str} {r : Option Value} {Q : Option Value → Led → Prop} (hC : (C, isO (clsO cd sl)) ∈ l) (hmro : cd.mro = [.ref C, .type "object"]) (hns : cd.ns = ns) (hm : (ns, isTab kvs) ∈ l)
    (hr : (match kvs.lookup x with | some v => some v | none => fastBuiltinOwn "object" x) = r) (h : Q r l) : T b A (typeLookup (.ref C) x) Q l := fun s I => by
  obtain ⟨o1, e1, rfl⟩ := I.st.get hC
  obtain ⟨o2, e2, es, n, rfl, ht⟩ := I.st.get hm
  have hne : ns ≠ C := by
    rintro rfl
    have q : Data.cls cd = Data.dict es n := congrArg Obj.data (Option.some.inj (e1.symm.trans e2))
    cases q
  have l1 : List.lookup C [(C, clsO cd sl), (ns, { cls := .type "dict", dict := none, data := .dict es n, slots := #[] })] = some (clsO cd sl) := by simp [List.lookup]
  have l2 : List.lookup ns [(C, clsO cd sl), (ns, { cls := .type "dict", dict := none, data := .dict es n, slots := #[] })] = some { cls := .type "dict", dict := none, data := .dict es n, slots := #[] } := by
    rw [List.lookup_cons, show (ns == C) = false from beq_false_of_ne hne]; simp [List.lookup]
  have X : Frag.In [(C, clsO cd sl), (ns, { cls := .type "dict", dict := none, data := .dict es n, slots := #[] })] s.heap := by
    intro a o h
    by_cases q : a = C
    · subst q; rw [l1] at h; cases h; exact e1
    · by_cases q2 : a = ns
      · subst q2; rw [l2] at h; cases h; exact e2
      · rw [List.lookup_cons, show (a == C) = false from beq_false_of_ne q, List.lookup_cons, show (a == ns) = false from beq_false_of_ne q2] at h; cases h
  have e : findIn [(C, clsO cd sl), (ns, { cls := .type "dict", dict := none, data := .dict es n, slots := #[] })] (.ref C) x = some r := by
    unfold findIn
    dsimp only
    rw [l1]
    dsimp only
    rw [hmro]
    unfold alongIn ownIn
    dsimp only
    rw [l1]
    dsimp only
    unfold nsIn
    rw [hns, l2]
    dsimp only
    rcases ht.find x with ⟨e', h1, h2⟩ | ⟨h1, h2⟩
    · rw [h1]; rw [h2] at hr; dsimp only at hr ⊢; rw [hr]
    · rw [h1]
      rw [h2] at hr
      dsimp only at hr ⊢
      rw [if_neg (by rw [ht.noRef]; exact Bool.false_ne_true)]
      dsimp only
      unfold alongIn ownIn
      dsimp only
      rw [hr]
      cases r <;> rfl
  exact (looks_findIn (M := model pg b.w) X e).here ⟨l, I, h⟩
theorem T.tabSetV {ns : Addr} {kvs : List (Str × Value)} {x : Str} {v : Value} {l' : Led} {Q : Unit → Led → Prop} (R : Rep ns (isTab kvs) (isTab (kvs ++ [(x, v)])) l l') (hx : kvs.lookup x = none) (hz : kvs.length ≤ 1000) (h : Q () l') : T b A (nsSetByValue ns x v) Q l := by
  unfold nsSetByValue
  refine T.bnd (fun s I => ?_)
  obtain ⟨o, e, es, n, rfl, ht⟩ := I.st.get R.mem
  refine wpAny_loadPart e ⟨l, I, ?_⟩
  dsimp only
  have hl := ht.len
  rw [Array.length_toList] at hl
  refine T.ifF ?_ ?_
  · rw [Bool.and_eq_false_iff]; exact .inl (decide_eq_false (by have : sizeLine = 2 ^ 24 := rfl; omega))
  · exact T.tabSet R hx h
theorem T.refresh {C ns : Addr} {cd : ClassData} {sl : Array (Option Value)} {kvs : List (Str × Value)} {w : Value} {Q : Unit → Led → Prop} (hC : (C, isO (clsO cd sl)) ∈ l) (hmro : cd.mro = [.ref C, .type "object"]) (hns : cd.ns = ns) (hm : (ns, isTab kvs) ∈ l) (hs : (sl[4]?).join = some w) (hk : kvs.lookup (Str.ofString "__new__") = none) (h : Q () l) : T b A (Bind.refreshMaker C) Q l := by
  unfold Bind.refreshMaker
  refine T.bnd (T.gSlot hC ?_)
  rw [hs]
  refine T.ifF (by rfl) ?_
  refine T.bnd (T.tlk (r := some (.builtin "object.__new__")) hC hmro hns hm (by rw [hk]; kernel_rfl) ?_)
  dsimp only
  refine T.ifF (by decide +kernel) ?_
  exact T.pur h
abbrev mdO (t : Tok) (C : Addr) : Obj := { cls := .type "member_descriptor", dict := none, data := .fields #[.str "obj" t, .ref C, .builtin "proto.slot", .builtin "proto.slot#set", .int 0 0], slots := #[] }
theorem T.install {C ns : Addr} {cd : ClassData} {sl : Array (Option Value)} {kvs : List (Str × Value)} {l₁ : Addr → Led} {l₂ : Addr → Led} {Q : Unit → Led → Prop} (hsub : cd.subclasses = []) (hx : kvs.lookup (Str.ofString "obj") = none) (hz : kvs.length ≤ 1000) (hm : (ns, isTab kvs) ∈ l)
    (R1 : ∀ m t, Rep ns (isTab kvs) (isTab (kvs ++ [((Str.ofString "obj"), Value.ref m)])) ((m, isO (mdO t C)) :: l) ((m, isO (mdO t C)) :: l₁ m)) (R2 : ∀ m, Rep C (isO (clsO cd sl)) (isO (clsO { cd with hasDict := false, slotNames := ["obj"] } sl)) (l₁ m) (l₂ m))
    (h : ∀ m t, Q () ((m, isO (mdO t C)) :: l₂ m)) : T b A (PySem.Builtin.Slots.install (.ref C) ns [.type "object"] ⟨["obj"], false, false, []⟩) Q l := by
  unfold PySem.Builtin.Slots.install
  refine T.bnd (T.for1 ?_)
  dsimp only
  refine T.bnd (T.tabGet hm ?_)
  rw [hx]
  refine T.ifT (by rfl) ?_
  refine T.bnd (fun s I => wpAny_mkStr ⟨_, I.up (tk := s.toks + 1) I.st, ?_⟩ (by decide +kernel))
  refine T.bnd (T.newObjF (by show (5 : Nat) ≤ 1000; decide) fun m => ?_)
  refine T.bnd (T.tabSetV (R1 m s.toks) hx hz ?_)
  refine T.pur ?_
  dsimp only
  refine T.bnd (T.for1 ?_)
  refine T.bnd (T.eqP KN.p9 ?_)
  refine T.ifF rfl (T.pur ?_)
  dsimp only
  refine T.ifPF (by decide +kernel) ?_
  exact T.uCls (.tail (R2 m)) (by unfold Data.pastItsLine; dsimp only; rw [hsub]; rfl) (h m s.toks)
end

section
variable {b : Bs} {A : Around} {l : Led}
theorem T.noteSub {C : Addr} {Q : Unit → Led → Prop} (h : Q () l) : T b A (PySem.Builtin.noteSubclassOfBuiltin "object" C) Q l := by
  unfold PySem.Builtin.noteSubclassOfBuiltin
  refine T.ifT KN.p12 ?_
  exact T.pur h
end
section
variable {w : World} {A : Around} {E : Value → Shared → Prop} {h : Heap} {g : Array GenState} {d : Drawn} {t : Nat} {os : OsState}
theorem super_cls {C : Addr} {oC : Obj} {cd : ClassData} {Q : Value → Shared → Prop}
    (hC : h.get? C = some oC) (hCt : oC.data = .cls cd)
    (hsub : Looks (model pg w) h (isSubtype (.ref C) (.ref C)) true)
    (hq : ∀ h', h'.get? h.objs.size = some { cls := .type "super", dict := none, data := .fields #[.ref C, .ref C, .ref C], slots := #[] } → (∀ y o, h.get? y = some o → h'.get? y = some o) → Q (.ref h.objs.size) ⟨h', g, d, t, os⟩) :
    wpAny (model pg w) A (call (.type "super") [.ref C, .ref C]) Q E ⟨h, g, d, t, os⟩ := by
  refine ks_callType_codesW (Q₁ := fun obj s₁ => obj = .ref h.objs.size ∧ s₁ = ⟨h.push { cls := .type "super", data := .fields #[.none, .none, .none] }, g, d, t, os⟩) F.ks_called_super (ks_wpAny_checkTypeCall_super hC hCt) F.ks_entry_super_init
    (ks_code_super_new _ _ ⟨rfl, rfl⟩) fun obj s₁ h₁ => ?_
  obtain ⟨rfl, rfl⟩ := h₁
  have up : ∀ y o, h.get? y = some o → (h.push { cls := .type "super", data := .fields #[.none, .none, .none] }).get? y = some o := fun y o e => Heap.get?_push_of_some _ e
  have hso : (h.push { cls := .type "super", data := .fields #[.none, .none, .none] }).get? h.objs.size = some { cls := .type "super", dict := none, data := .fields #[.none, .none, .none], slots := #[] } := Heap.get?_push_at rfl rfl
  have hC' := up _ _ hC
  have hsub' := hsub.keeps up
  refine ⟨⟨_, hso, rfl⟩, F.ks_initArgs_super _ _ _, ?_⟩
  unfold Builtin.«super.__init__» noKeywords
  repeat (first | (with_reducible refine ks_wpAny_isType_cls hC' hCt ?_) | (with_reducible refine Looks.at hsub' ?_) | (with_reducible refine ks_wpAny_super_set3 hso ?_) | wp_step)
  intro h' e k
  exact ⟨rfl, hq h' e fun y o ey => k y o (Nat.ne_of_lt (Heap.lt_size ey)) (up y o ey)⟩
end
theorem subCls {M : Model} {h : Heap} {C : Addr} {cd : ClassData} {sl : Array (Option Value)} {base : Value} {r : Bool} (e : h.get? C = some (clsO cd sl)) (hmro : cd.mro = [.ref C, .type "object"]) (hr : [Value.ref C, Value.type "object"].contains base = r) : Looks M h (isSubtype (.ref C) base) r := by
  have X : Frag.In [(C, clsO cd sl)] h := by
    intro a o q
    by_cases p : a = C
    · subst p; simp [List.lookup] at q; rw [← q]; exact e
    · rw [List.lookup_cons, show (a == C) = false from beq_false_of_ne p] at q; cases q
  refine looks_subIn X ?_
  have c1 : clsIn [(C, clsO cd sl)] C = some cd := by unfold clsIn; rw [show List.lookup C [(C, clsO cd sl)] = some (clsO cd sl) by simp [List.lookup]]
  unfold subIn mroIn
  dsimp only
  rw [c1, Option.bind_some, hmro, hr]
  rfl
section
variable {b : Bs} {A : Around} {l : Led}
abbrev supO (C : Addr) : Obj := { cls := .type "super", dict := none, data := .fields #[.ref C, .ref C, .ref C], slots := #[] }
theorem T.superCls {C : Addr} {cd : ClassData} {sl : Array (Option Value)} {Q : Value → Led → Prop} (hC : (C, isO (clsO cd sl)) ∈ l) (hmro : cd.mro = [.ref C, .type "object"]) (h : ∀ s, Q (.ref s) ((s, isO (supO C)) :: l)) : T b A (call (.type "super") [.ref C, .ref C]) Q l := fun s I => by
  obtain ⟨o, e, rfl⟩ := I.st.get hC
  obtain ⟨hp, g, d, t, os⟩ := s
  refine super_cls e rfl (subCls e hmro (by simp)) fun h' e1 k => ⟨_, ?_, h _⟩
  exact I.up (tk := t) (I.st.new (p := isO (supO C)) k (Nat.le_refl _) ⟨_, e1, rfl⟩)
end

namespace KI
def bound (C : Addr) : Obj := { cls := .type "builtin_function_or_method", data := .fields #[.builtin "object.__init_subclass__", .ref C] }
theorem type_is : typeOf (.builtin "object.__init_subclass__") = pure (.type "classmethod_descriptor") := by show builtinType _ = _; rw [builtinType_eq_fast]; kernel_rfl
theorem own_is : classOwn (.type "object") (Str.ofString "__init_subclass__") = pure (some (.builtin "object.__init_subclass__")) := by kernel_rfl
theorem owner_is : (kfb_private% "ownerAndName") "object.__init_subclass__" = ("object", "__init_subclass__") := by first | decide +kernel | kernel_rfl
section
variable {w : World} {A : Around} {E : Value → Shared → Prop} {h : Heap} {g : Array GenState} {d : Drawn} {t : Nat} {os : OsState}
theorem run_get {C : Addr} {oC : Obj} {cd : ClassData} {P : Fin → Shared → Prop} (hC : h.get? C = some oC) (hCt : oC.data = .cls cd) (hsub : Looks (model pg w) h (isSubtype (.ref C) (.type "object")) true) (hq : P (.done (.ret (.ref h.objs.size))) ⟨h.push (bound C), g, d, t, os⟩) :
    wpAny (model pg w) A (Builtin.«classmethod_descriptor.__get__» ⟨[.builtin "object.__init_subclass__", .none, .ref C], []⟩) P E ⟨h, g, d, t, os⟩ := by
  unfold Builtin.«classmethod_descriptor.__get__»
  refine wpAny_bind (wpAny_of_eq (a := (.builtin "object.__init_subclass__", none, some (.ref C))) (by first | rfl | kernel_rfl) ?_)
  simp only [owner_is]
  refine wpAny_bind (wpAny_of_eq (a := .ref C) rfl ?_)
  refine wpAny_bind (ks_wpAny_isType_cls hC hCt ?_)
  refine KFB.if_not rfl ?_
  refine wpAny_bind (Looks.at hsub ?_)
  refine KFB.if_not rfl ?_
  exact wpAny_bind (wpAny_newObj_type (wpAny_pure hq))
theorem sup_ga {so C : Addr} {oC : Obj} {cd : ClassData} {tk : Tok} {Q : Fin → Shared → Prop} (hso : h.get? so = some (supO C)) (hC : h.get? C = some oC) (hCt : oC.data = .cls cd) (hno : Looks (model pg w) h (opaqueClassAbove (.ref C)) none)
    (hmro : Looks (model pg w) h (mroOf (.ref C)) [.ref C, .type "object"]) (hsub : Looks (model pg w) h (isSubtype (.ref C) (.type "object")) true)
    (hq : Q (.done (.ret (.ref h.objs.size))) ⟨h.push (bound C), g, d, t, os⟩) :
    wpAny (model pg w) A (Builtin.«super.__getattribute__» ⟨[.ref so, .str (Str.ofString "__init_subclass__") tk], []⟩) Q E ⟨h, g, d, t, os⟩ := by
  have hlk := KFB.slot_get.lookup
  have hdt : (supO C).data = .fields #[.ref C, .ref C, .ref C] := rfl
  have f0 : (#[.ref C, .ref C, .ref C] : Array Value)[0]? = some (.ref C) := rfl
  have f1 : (#[.ref C, .ref C, .ref C] : Array Value)[1]? = some (.ref C) := rfl
  have f2 : (#[.ref C, .ref C, .ref C] : Array Value)[2]? = some (.ref C) := rfl
  have hl : (([Value.ref C, .type "object"]).dropWhile (· != .ref C)).drop 1 = [.type "object"] := by simp [List.dropWhile]
  have hn : (Str.ofString "__init_subclass__" == ("__class__" : Str)) = false := by decide +kernel
  have own := own_is
  have tis := type_is
  unfold Builtin.«super.__getattribute__»
  repeat (first
    | (with_reducible refine wpAny_field hso hdt f0 ?_) | (with_reducible refine wpAny_field hso hdt f1 ?_) | (with_reducible refine wpAny_field hso hdt f2 ?_)
    | (with_reducible refine ks_wpAny_notOpaque hno ?_)
    | (with_reducible refine Looks.at hmro ?_; rw [hl])
    | (with_reducible refine wpAny_of_eq own ?_) | (with_reducible refine wpAny_of_eq tis ?_) | (with_reducible refine wpAny_of_eq hlk ?_)
    | (simp only [hn, beq_self_eq_true, Bool.or_false, if_true])
    | wp_step
    | dsimp only)
  refine codeAny_call_builtin KFB.slot_get.plain KFB.entry_get (KFB.slot_get.check _ _ _ _ _ _ _ _ tis (KFB.args_get _ _ _) ?_)
  refine run_get hC hCt hsub ?_
  repeat (first | wp_step | dsimp only)
  all_goals exact hq
end
end KI

namespace KI
section
variable {w : World} {A : Around} {E : Value → Shared → Prop} {s : Shared}
theorem sup_get {so C : Addr} {oC : Obj} {cd : ClassData} {Q : Value → Shared → Prop} (hso : s.heap.get? so = some (supO C)) (hC : s.heap.get? C = some oC) (hCt : oC.data = .cls cd) (hno : Looks (model pg w) s.heap (opaqueClassAbove (.ref C)) none)
    (hmro : Looks (model pg w) s.heap (mroOf (.ref C)) [.ref C, .type "object"]) (hsub : Looks (model pg w) s.heap (isSubtype (.ref C) (.type "object")) true)
    (hq : ∀ tk, Q (.ref s.heap.objs.size) { s with heap := s.heap.push (bound C), toks := tk }) : wpAny (model pg w) A (getAttr (.ref so) "__init_subclass__") Q E s := by
  have hT : ∀ tk, ({ s with toks := tk } : Shared).TypeIs (.ref so) "super" := fun _ => ⟨_, hso, rfl⟩
  unfold getAttr getAttrBy
  refine wpAny_bind (wpAny_mkText (wpAny_holding (wpAny_bind (wpAny_typeOf (hT _) (wpAny_bind (wpAny_of_eq F.ks_slot_super_ga.lookup ?_))))))
  dsimp only
  rw [if_neg (by decide)]
  unfold getAttrByItsOwn
  refine wpAny_bind (wpAny_of_eq (a := none) rfl (wpAny_bind (wpAny_attempt (wpAny_holding ?_))))
  unfold callGetattribute
  rw [if_neg (by decide)]
  unfold boundAndCalled
  rw [F.ks_slot_super_ga.bind]
  refine wpAny_bind (wpAny_pure ?_)
  show wpAny _ _ (call (.builtin "super.__getattribute__") [.ref so, .str "__init_subclass__" s.toks]) _ _ _
  refine wpAny_call ?_
  refine codeAny_call_builtin F.ks_slot_super_ga.plain F.ks_entry_super_ga ?_
  refine F.ks_slot_super_ga.check _ _ _ _ _ _ _ _ (hT _) (F.ks_gaArgs_super _ _) ?_
  refine sup_ga (h := s.heap) hso hC hCt hno hmro hsub ?_
  exact wpAny_pure (hq _)
theorem entry_is : entryFor table "object.__init_subclass__" = some Builtin.«object.__init_subclass__» := entryFor_of_tree (by kernel_rfl)
theorem quiet_is {as : Args} : (Code.builtin "object.__init_subclass__" as).quiet = true := Code.quiet_builtin _ (by decide +kernel)
theorem sub_tm : isSubtype (.type "type") (.type "module") = pure false := by rw [isSubtype_type]; kernel_rfl
theorem call_is {p C : Addr} {cd : ClassData} {sl : Array (Option Value)} {Q : Value → Shared → Prop} (hp : s.heap.get? p = some (bound C)) (hC : s.heap.get? C = some (clsO cd sl)) (hn : cd.qualname = "cmp_to_key.<locals>.K") (hq : Q .none s) : wpAny (model pg w) A (call (.ref p) []) Q E s := by
  obtain ⟨hpp, g, d, t, os⟩ := s
  refine wpAny_call (codeAny_of_tree ?_)
  show wpAny _ A.in1 (callAny (.ref p) _) _ _ _
  unfold callAny
  refine wpAny_bind (wpAny_load hp ?_)
  have hTC : (⟨hpp, g, d, t, os⟩ : Shared).TypeIs (.ref C) "type" := ⟨_, hC, rfl⟩
  have stm := sub_tm
  refine wpAny_bind (m := checkBoundCall "object.__init_subclass__" ⟨[.ref C], []⟩) ?_
  unfold checkBoundCall
  repeat (first | (with_reducible refine ks_wpAny_isType_cls hC rfl ?_) | assumption | wp_step | dsimp only)
  rw [hn]
  refine wpAny_ite_true (by decide +kernel) ?_
  repeat (first | (with_reducible refine ks_wpAny_isType_cls hC rfl ?_) | assumption | wp_step | dsimp only)
  refine ⟨quiet_is, codeAny_builtin entry_is ?_⟩
  show wpAny _ _ (Builtin.«object.__init_subclass__» ⟨[.ref C], []⟩) _ _ _
  unfold Builtin.«object.__init_subclass__»
  refine wpAny_ite_true (by rfl) ?_
  exact wpAny_pure hq
end
end KI
namespace T
section
variable {b : Bs} {A : Around} {l : Led}
theorem noThird {b : Bs} {l : Led} {s : Shared} (I : In b l s) (C : Addr) : Looks (model pg b.w) s.heap (opaqueClassAbove (.ref C)) none :=
  looks_opaque (K := hd.heap_1 b.w.params) (b.B.X.keeps I.st.keep) (by kernel_rfl)
theorem supGet {so C : Addr} {cd : ClassData} {sl : Array (Option Value)} {Q : Value → Led → Prop} (hs : (so, isO (supO C)) ∈ l) (hC : (C, isO (clsO cd sl)) ∈ l) (hmro : cd.mro = [.ref C, .type "object"]) (h : ∀ p, Q (.ref p) ((p, isO (KI.bound C)) :: l)) : T b A (getAttr (.ref so) "__init_subclass__") Q l := fun s I => by
  obtain ⟨o, e, rfl⟩ := I.st.get hs
  obtain ⟨o2, e2, rfl⟩ := I.st.get hC
  have hm : Looks (model pg b.w) s.heap (mroOf (.ref C)) [.ref C, .type "object"] := by
    have X : Frag.In [(C, clsO cd sl)] s.heap := by
      intro a o q
      by_cases p : a = C
      · subst p; simp [List.lookup] at q; rw [← q]; exact e2
      · rw [List.lookup_cons, show (a == C) = false from beq_false_of_ne p] at q; cases q
    have c1 : clsIn [(C, clsO cd sl)] C = some cd := by unfold clsIn; rw [show List.lookup C [(C, clsO cd sl)] = some (clsO cd sl) by simp [List.lookup]]
    rw [← hmro]
    exact (looks_clsIn X c1).andThen .now
  exact KI.sup_get e e2 rfl (noThird I C) hm (subCls e2 hmro (by simp)) fun tk => ⟨_, I.up (tk := tk) (I.st.push (p := isO (KI.bound C)) rfl), h _⟩
theorem callIs {p C : Addr} {cd : ClassData} {sl : Array (Option Value)} {Q : Value → Led → Prop} (hp : (p, isO (KI.bound C)) ∈ l) (hC : (C, isO (clsO cd sl)) ∈ l) (hn : cd.qualname = "cmp_to_key.<locals>.K") (h : Q .none l) : T b A (call (.ref p) []) Q l := fun s I => by
  obtain ⟨o, e, rfl⟩ := I.st.get hp
  obtain ⟨o2, e2, rfl⟩ := I.st.get hC
  exact KI.call_is e e2 hn ⟨l, I, h⟩
end
end T

theorem TabOf.mem {kvs es} (x : TabOf kvs es) {e : DictEntry} (h : e ∈ es) : ∃ k t, e.key = .str k t ∧ (k, e.val) ∈ kvs := by
  induction x with
  | nil => cases h
  | cons _ ih =>
    rcases List.mem_cons.mp h with rfl | h
    · exact ⟨_, _, rfl, .head _⟩
    · obtain ⟨k, t, h1, h2⟩ := ih h; exact ⟨k, t, h1, .tail _ h2⟩
namespace T
section
variable {b : Bs} {A : Around} {l : Led}
theorem tabEs {ns : Addr} {kvs : List (Str × Value)} {Q : Array DictEntry → Led → Prop} (hm : (ns, isTab kvs) ∈ l) (h : ∀ es : Array DictEntry, TabOf kvs es.toList → Q es l) : T b A (dictEntries ns) Q l := fun s I => by
  obtain ⟨o, e, es, n, rfl, ht⟩ := I.st.get hm
  unfold dictEntries
  exact wpAny_bind (wpAny_loadPart e (wpAny_pure ⟨l, I, h es ht⟩))
theorem forInv {α β : Type} {f : α → β → Sem (ForInStep β)} {Q : β → Led → Prop} (J : β → Led → Prop) : ∀ {xs : List α} {x : β} {l : Led}, (∀ e ∈ xs, ∀ y l', J y l' → T b A (f e y) (fun r l'' => ∃ y', r = .yield y' ∧ J y' l'') l') → J x l → (∀ y l', J y l' → Q y l') → T b A (forIn xs x f) Q l
  | [], x, l, _, hJ, hQ => forN (hQ _ _ hJ)
  | a :: xs, x, l, ht, hJ, hQ => forC ((ht a (.head _) x l hJ).mono fun r l' ⟨y', hr, hj⟩ => by
      subst hr
      exact forInv J (fun e he => ht e (.tail _ he)) hj hQ)
theorem forArr {α β : Type} {es : Array α} {x : β} {f : α → β → Sem (ForInStep β)} {Q : β → Led → Prop} (h : T b A (forIn es.toList x f) Q l) : T b A (forIn es x f) Q l := by
  rw [← Array.forIn_toList]; exact h
theorem forKeep {α β : Type} {f : α → β → Sem (ForInStep β)} {Q : β → Led → Prop} {xs : List α} {c : β} (turn : ∀ e ∈ xs, T b A (f e c) (fun r l' => r = .yield c ∧ l' = l) l) (h : Q c l) : T b A (forIn xs c f) Q l :=
  forInv (fun y l' => y = c ∧ l' = l) (fun e he y l' hj => by
    obtain ⟨rfl, rfl⟩ := hj
    exact (turn e he).mono fun r l'' h => ⟨_, h.1, rfl, h.2⟩) ⟨rfl, rfl⟩ fun y l' hj => by
    obtain ⟨rfl, rfl⟩ := hj
    exact h
/-- a value that asks for no name -/
def NoSN (b : Bs) (A : Around) (l : Led) (v : Value) : Prop := (∀ k, PySem.Builtin.heldUnderItsOwnName k v = false) ∧ T b A (specialOf v "__set_name__") (fun r l' => r = none ∧ l' = l) l
theorem withNo {α : Type} {m : Sem α} {Q : α → Led → Prop} (kvs : List (Str × Value)) (H : ∀ p ∈ kvs, NoSN b A l p.2) (k : (∀ p ∈ kvs, NoSN b A l p.2) → T b A m Q l) : T b A m Q l := k H
theorem noSN_val {T' : String} {v : Value} (h0 : ∀ k, PySem.Builtin.heldUnderItsOwnName k v = false) (h1 : typeOf v = pure (.type T')) (h2 : typeLookup (.type T') "__set_name__" = pure none) : NoSN b A l v := by
  refine ⟨h0, ?_⟩
  unfold specialOf
  exact bnd (eqP h1 (eqP h2 ⟨rfl, rfl⟩))
theorem noSN_ref {T' : String} {a : Addr} {o : Obj} (hm : (a, isO o) ∈ l) (hc : o.cls = .type T') (h2 : typeLookup (.type T') "__set_name__" = pure none) : NoSN b A l (.ref a) := by
  refine ⟨fun k => rfl, ?_⟩
  unfold specialOf typeOf
  refine bnd ?_
  dsimp only
  refine bnd (ldP hm ?_)
  refine pur ?_
  rw [hc]
  exact eqP h2 ⟨rfl, rfl⟩
end
end T
namespace KN
theorem s1 : typeLookup (.type "str") "__set_name__" = pure none := by rw [typeLookup_type, builtinLookup_eq_fast]; kernel_rfl
theorem s2 : typeLookup (.type "int") "__set_name__" = pure none := by rw [typeLookup_type, builtinLookup_eq_fast]; kernel_rfl
theorem s3 : typeLookup (.type "list") "__set_name__" = pure none := by rw [typeLookup_type, builtinLookup_eq_fast]; kernel_rfl
theorem s4 : typeLookup (.type "function") "__set_name__" = pure none := by rw [typeLookup_type, builtinLookup_eq_fast]; kernel_rfl
theorem s5 : typeLookup (.type "NoneType") "__set_name__" = pure none := by rw [typeLookup_type, builtinLookup_eq_fast]; kernel_rfl
theorem s6 : typeLookup (.type "tuple") "__set_name__" = pure none := by rw [typeLookup_type, builtinLookup_eq_fast]; kernel_rfl
theorem s7 : typeLookup (.type "member_descriptor") "__set_name__" = pure none := by rw [typeLookup_type, builtinLookup_eq_fast]; kernel_rfl
end KN

abbrev cdK (C ns : Addr) : ClassData := { name := "K", bases := [.type "object"], mro := [.ref C, .type "object"], ns := ns, qualname := "cmp_to_key.<locals>.K", hasDict := false, slotNames := ["obj"] }
abbrev slK (bt : Addr) (t t2 : Tok) : Array (Option Value) := slotSet #[some (.ref bt), none, some (.str "K" t), some (.str "cmp_to_key.<locals>.K" t2), some (.builtin "object.__new__")] 5 (some (.bool (false || false)))
abbrev fO (fd : FuncData) : Obj := { cls := .type "function", dict := none, data := .func fd, slots := #[] }
section
variable {b : Bs} {A : Around} {l : Led} {n d : Nat}
set_option maxHeartbeats 8000000 in
theorem typeNewT {ns bt sl f1 f2 f3 f4 f5 f6 sa : Addr} {t t0 t2 t3 t4 : Tok} {nn : Nat} {u : Value} {es : Array DictEntry} {en : Nat} {fd1 fd2 fd3 fd4 fd5 fd6 : FuncData} {ta : Array Value} {na : Nat} {Q : PySem.Fin → Led → Prop} (hh : A.handled = none) (lo : (ns == sysModules) = false) (ht : TabOf (kvsK t0 t2 t3 u sl f1 f2 f3 f4 f5 f6 sa) es.toList)
    (h : ∀ C ns2 md tmd, Q (.done (.ret (.ref C))) ((C, isO (clsO (cdK C ns2) (slK bt t t2))) :: (ns2, isTab (kvsL t0 t3 sl f1 f2 f3 f4 f5 f6 sa ++ [(Str.ofString "obj", Value.ref md)] ++ [(Str.ofString "__doc__", Value.none)])) :: (md, isO (mdO tmd C)) :: (f1, isO (fO fd1)) :: (f2, isO (fO fd2)) :: (f3, isO (fO fd3)) :: l)) :
    T b A (Builtin.«type.__new__» ⟨[.type "type", .str "K" t, .ref bt, .ref ns], []⟩) Q ((ns, isO { cls := .type "dict", dict := none, data := .dict es en, slots := #[] }) :: (bt, isTuple [.type "object"]) :: (sl, isO { cls := .type "list", dict := none, data := .seq #[.str "obj" t4] nn, slots := #[] }) :: (f1, isO (fO fd1)) :: (f2, isO (fO fd2)) :: (f3, isO (fO fd3)) :: (f4, isO (fO fd4)) :: (f5, isO (fO fd5)) :: (f6, isO (fO fd6)) :: (sa, isO { cls := .type "tuple", dict := none, data := .seq ta na, slots := #[] }) :: l) := by
  have p1 := KN.p1
  have p2 := KN.p2
  have p14 := KN.p14
  have p15 := KN.p15
  have p16 := KN.p16
  have p17 := KN.p17
  have p18 := KN.p18
  have p3 := KN.p3
  have p4 := KN.p4
  have p6 := KN.p6
  have p7 := KN.p7
  have p8 := KN.p8
  have p9 := KN.p9
  have p10 := KN.p10
  have p11 := KN.p11
  have p19 := KN.p19
  unfold Builtin.«type.__new__»
  repeat (walk_at "ws")
  refine T.ifPF (by decide) ?_
  refine T.bnd (T.for1 ?_)
  repeat (walk_at "ws")
  repeat (walk_at "ws")
  refine T.eqP KN.p1 ?_
  repeat (walk_at "ws")
  refine T.eqP KN.p2 ?_
  repeat (walk_at "ws")
  refine T.ifF lo ?_
  have hany : ∀ n, (es.any fun x => x.key.isStr n) = (List.lookup n (kvsK t0 t2 t3 u sl f1 f2 f3 f4 f5 f6 sa)).isSome := fun n => by rw [← Array.any_toList]; exact ht.any n
  repeat (walk_at "ws")
  refine T.ifT (by simp) ?_
  repeat (walk_at "ws")
  have hlen : es.size ≤ 1000 := by
    have := ht.len
    rw [Array.length_toList] at this
    rw [this]; show (12 : Nat) ≤ 1000; decide
  have hsl : ∃ e, es.find? (fun x => x.key.isStr "__slots__") = some e ∧ e.val = .ref sl := by
    rcases ht.find "__slots__" with ⟨e, h1, h2⟩ | ⟨_, h2⟩
    · exact ⟨e, by rw [← Array.find?_toList]; exact h1, Option.some.inj (h2.symm.trans rfl)⟩
    · cases h2
  obtain ⟨e0, hf, he⟩ := hsl
  refine readT hf he (by rw [hany]; rfl) (by walk_at "mem") hh ?_
  refine T.bnd (T.newObjD hlen fun ns2 => ?_)
  refine T.weak (a := ns2) (p' := isTab (kvsK t0 t2 t3 u sl f1 f2 f3 f4 f5 f6 sa)) .head (fun o e => ⟨es, 0, e, ht⟩) ?_
  dsimp -zeta -zetaHave only
  refine T.ifF (by rw [hany]; rfl) ?_
  repeat (walk_at "ws")
  refine T.tabGet (by walk_at "mem") ?_
  repeat (walk_at "ws")
  refine T.tabGet (by walk_at "mem") ?_
  repeat (walk_at "ws")
  refine T.tabGet (by walk_at "mem") ?_
  repeat (walk_at "ws")
  refine T.alo (o := clsO { name := "K", bases := [.type "object"], mro := [], ns := ns2, qualname := "cmp_to_key.<locals>.K" } #[]) fun C => ?_
  repeat (walk_at "ws")
  refine T.sSlot (by walk_at "rep") (by decide) ?_
  repeat (walk_at "ws")
  refine T.sSlot (by walk_at "rep") (by decide) ?_
  repeat (walk_at "ws")
  refine T.sSlot (by walk_at "rep") (by decide) ?_
  repeat (walk_at "ws")
  refine T.tabDel (by walk_at "rep") (by rfl) ?_
  refine T.weak (a := ns2) (p' := isTab (kvsL t0 t3 sl f1 f2 f3 f4 f5 f6 sa)) (by walk_at "rep") (fun o e => e) ?_
  repeat (walk_at "ws")
  refine T.tabGet (by walk_at "mem") ?_
  repeat (walk_at "ws")
  refine T.tabGet (by walk_at "mem") ?_
  repeat (walk_at "ws")
  refine T.tabGet (by walk_at "mem") ?_
  repeat (walk_at "ws")
  refine T.tabGet (by walk_at "mem") ?_
  repeat (walk_at "ws")
  refine T.tabGet (by walk_at "mem") ?_
  repeat (walk_at "ws")
  refine T.eqP KN.p3 ?_
  iterate 3 (walk_at "ws")
  refine T.eqP noDel ?_
  repeat (walk_at "ws")
  refine T.uCls (by walk_at "rep") (by rfl) ?_
  repeat (walk_at "ws")
  refine T.sSlot (by walk_at "rep") (by decide) ?_
  repeat (walk_at "ws")
  have hd : (es.any fun x => x.key.isStr (Str.ofString "__del__")) = false := by rw [hany]; rfl
  refine T.weak (a := C) (p' := isO (clsO { name := "K", bases := [.type "object"], mro := [.ref C, .type "object"], ns := ns2, qualname := "cmp_to_key.<locals>.K" } #[some (.ref bt), none, some (.str "K" t), some (.str "cmp_to_key.<locals>.K" t2), some (.builtin "object.__new__")])) (by walk_at "rep") (fun o e => Eq.trans (show o = _ from e) (by rw [hd]; kernel_rfl)) ?_
  refine T.refresh (ns := ns2) (w := .builtin "object.__new__") (by walk_at "mem") rfl rfl (by walk_at "mem") rfl rfl ?_
  refine T.bnd ?_
  refine T.install (kvs := kvsL t0 t3 sl f1 f2 f3 f4 f5 f6 sa) rfl rfl (by show (11 : Nat) ≤ 1000; decide) (by walk_at "mem") (l₁ := fun m => _) (l₂ := fun m => _) (fun m t => by walk_at "rep") (fun m => by walk_at "rep") fun md tmd => ?_
  refine T.bnd (T.eqP KN.p10 ?_)
  refine T.bnd (T.sSlot (by walk_at "rep") (by decide) ?_)
  refine T.ifF rfl ?_
  refine T.ifF rfl ?_
  refine T.bnd (T.tabGet (by walk_at "mem") ?_)
  refine T.ifT (by rfl) ?_
  refine T.bnd (T.tabSet (by walk_at "rep") (by rfl) ?_)
  refine T.bnd (T.tabGet (by walk_at "mem") ?_)
  refine T.ifT (by rfl) ?_
  refine T.bnd (T.tabGet (by walk_at "mem") ?_)
  refine T.ifF (by rfl) ?_
  refine T.bnd (T.for1 ?_)
  dsimp -zeta -zetaHave only
  refine T.bnd (T.noteSub ?_)
  refine T.pur ?_
  dsimp -zeta -zetaHave only
  refine T.bnd (T.tryC (T.hold ?_))
  refine T.bnd (T.tabEs (by walk_at "mem") fun es1 ht1 => ?_)
  refine T.bnd (T.forArr (T.forKeep (fun e he => ?_) ?_))
  · obtain ⟨k, tk, h1, h2⟩ := ht1.mem he
    rw [h1]
    refine T.bnd (T.eqP (x := some k) rfl ?_)
    exact T.ifF rfl (T.pur ⟨rfl, rfl⟩)
  refine T.ifF rfl ?_
  refine T.bnd (T.tabEs (by walk_at "mem") fun es2 ht2 => ?_)
  refine T.bnd (T.forArr (T.forKeep (fun e he => ?_) ?_))
  · obtain ⟨k, tk, h1, h2⟩ := ht2.mem he
    refine T.withNo (kvsL t0 t3 sl f1 f2 f3 f4 f5 f6 sa ++ [(Str.ofString "obj", Value.ref md)] ++ [(Str.ofString "__doc__", Value.none)]) ?_ fun hno => ?_
    · refine List.forall_mem_cons.mpr ⟨T.noSN_val (T' := "str") (fun _ => rfl) rfl KN.s1, ?_⟩
      refine List.forall_mem_cons.mpr ⟨T.noSN_val (T' := "int") (fun _ => rfl) rfl KN.s2, ?_⟩
      refine List.forall_mem_cons.mpr ⟨T.noSN_ref (by walk_at "mem") rfl KN.s3, ?_⟩
      refine List.forall_mem_cons.mpr ⟨T.noSN_ref (by walk_at "mem") rfl KN.s4, ?_⟩
      refine List.forall_mem_cons.mpr ⟨T.noSN_ref (by walk_at "mem") rfl KN.s4, ?_⟩
      refine List.forall_mem_cons.mpr ⟨T.noSN_ref (by walk_at "mem") rfl KN.s4, ?_⟩
      refine List.forall_mem_cons.mpr ⟨T.noSN_ref (by walk_at "mem") rfl KN.s4, ?_⟩
      refine List.forall_mem_cons.mpr ⟨T.noSN_ref (by walk_at "mem") rfl KN.s4, ?_⟩
      refine List.forall_mem_cons.mpr ⟨T.noSN_ref (by walk_at "mem") rfl KN.s4, ?_⟩
      refine List.forall_mem_cons.mpr ⟨T.noSN_val (T' := "NoneType") (fun _ => rfl) rfl KN.s5, ?_⟩
      refine List.forall_mem_cons.mpr ⟨T.noSN_ref (by walk_at "mem") rfl KN.s6, ?_⟩
      refine List.forall_mem_cons.mpr ⟨T.noSN_ref (by walk_at "mem") rfl KN.s7, ?_⟩
      refine List.forall_mem_cons.mpr ⟨T.noSN_val (T' := "NoneType") (fun _ => rfl) rfl KN.s5, ?_⟩
      exact fun _ h => by cases h
    have hn := hno _ h2
    rw [h1]
    refine T.ifF (hn.1 k) ?_
    refine T.bnd (hn.2.mono fun r l' hr => ?_)
    obtain ⟨rfl, rfl⟩ := hr
    exact T.pur ⟨rfl, rfl⟩
  refine T.bnd (T.superCls (by walk_at "mem") rfl fun so => ?_)
  refine T.bnd (T.hold (T.supGet (.head _) (by walk_at "mem") rfl fun pis => ?_))
  refine T.bnd (T.callIs (.head _) (by walk_at "mem") rfl ?_)
  refine T.pur ?_
  refine T.pick (t := (C, isO (clsO (cdK C ns2) (slK bt t t2))) :: (ns2, isTab (kvsL t0 t3 sl f1 f2 f3 f4 f5 f6 sa ++ [(Str.ofString "obj", Value.ref md)] ++ [(Str.ofString "__doc__", Value.none)])) :: (md, isO (mdO tmd C)) :: (f1, isO (fO fd1)) :: (f2, isO (fO fd2)) :: (f3, isO (fO fd3)) :: l) ?_ (by walk_at "pick")
  exact T.pur (h C ns2 md tmd)
end

section
variable {b : Bs} {A : Around} {l : Led} {n d : Nat}
theorem slotTI : Slot "type" "__init__" "type.__init__" :=
  .of (owner := "type") (n := "__init__") (by rw [typeLookup_type, builtinLookup_eq_fast]; kernel_rfl) (by decide +kernel) (by decide +kernel) (by decide +kernel)
    (by first | exact .inl (by decide +kernel) | exact .inr (by decide +kernel)) (by rw [isSubtype_type]; kernel_rfl)
theorem T.callTI {C : Addr} {cd : ClassData} {sl : Array (Option Value)} {x y z : Value} {Q : Value → Led → Prop} (hC : (C, isO (clsO cd sl)) ∈ l) (h : Q .none l) : T b A (call (.builtin "type.__init__") [.ref C, x, y, z]) Q l := fun s I => by
  obtain ⟨o, e, rfl⟩ := I.st.get hC
  refine wpAny_call (codeAny_call_builtin slotTI.plain KN.entry_ti (slotTI.check _ _ _ _ _ _ _ _ ⟨_, e, rfl⟩ (by unfold argsOk; kernel_rfl) ?_))
  unfold Builtin.«type.__init__»
  refine wpAny_ite_false (by rfl) ?_
  refine wpAny_ite_false (by rfl) ?_
  exact wpAny_pure ⟨l, I, h⟩
set_option maxHeartbeats 8000000 in
theorem newClassT {ns bt sl f1 f2 f3 f4 f5 f6 sa : Addr} {t t0 t2 t3 t4 : Tok} {nn : Nat} {u : Value} {fd1 fd2 fd3 fd4 fd5 fd6 : FuncData} {ta : Array Value} {na : Nat} {Q : Value → Led → Prop} (hA : A.handled = none) (lo : (ns == sysModules) = false)
    (h : ∀ C ns2 md tmd, Q (.ref C) ((C, isO (clsO (cdK C ns2) (slK bt t t2))) :: (ns2, isTab (kvsL t0 t3 sl f1 f2 f3 f4 f5 f6 sa ++ [(Str.ofString "obj", Value.ref md)] ++ [(Str.ofString "__doc__", Value.none)])) :: (md, isO (mdO tmd C)) :: (f1, isO (fO fd1)) :: (f2, isO (fO fd2)) :: (f3, isO (fO fd3)) :: l)) :
    T b A (call (.type "type") [.str "K" t, .ref bt, .ref ns]) Q ((ns, isTab (kvsK t0 t2 t3 u sl f1 f2 f3 f4 f5 f6 sa)) :: (bt, isTuple [.type "object"]) :: (sl, isO { cls := .type "list", dict := none, data := .seq #[.str "obj" t4] nn, slots := #[] }) :: (f1, isO (fO fd1)) :: (f2, isO (fO fd2)) :: (f3, isO (fO fd3)) :: (f4, isO (fO fd4)) :: (f5, isO (fO fd5)) :: (f6, isO (fO fd6)) :: (sa, isO { cls := .type "tuple", dict := none, data := .seq ta na, slots := #[] }) :: l) := by
  refine T.callType ?_
  have hA' : (A.under (.builtin "type.__call__" ⟨[.type "type", .str "K" t, .ref bt, .ref ns], []⟩)).handled = none := hA
  generalize A.under _ = A at hA' ⊢
  unfold Builtin.«type.__call__»
  have e1 : PySem.checkTypeCall "type" ⟨[.str "K" t, .ref bt, .ref ns], []⟩ = pure () := by kernel_rfl
  have e2 := KN.p13
  have e3 := KN.p5
  repeat (walk_at "ws")
  walk_at "wi"
  repeat (walk_at "ws")
  walk_at "wi"
  repeat (walk_at "ws")
  refine T.callB KN.plain_tn KN.entry_tn KN.check_tn ?_
  refine T.opn (l' := fun o => _) (fun o => .head) fun on hon => ?_
  obtain ⟨es, en, rfl, ht⟩ := hon
  refine typeNewT hA' lo ht fun C ns2 md tmd => ?_
  have p15 := KN.p15
  repeat (walk_at "ws")
  refine T.eqP slotTI.lookup ?_
  repeat (walk_at "ws")
  refine T.eqP (slotTI.bind _) ?_
  repeat (walk_at "ws")
  refine T.callTI (by walk_at "mem") ?_
  repeat (walk_at "ws")
  exact h C ns2 md tmd
end

theorem S.newNs {h₀ h h₁ : Heap} {l : Led} {m : Str → Option Value} (H : S h₀ l h) (hns : h₁.Ns h.objs.size m) (hk₁ : ∀ b o, h.get? b = some o → h₁.get? b = some o) : S h₀ ((h.objs.size, isNs m) :: l) h₁ := by
  refine ⟨fun b o e => hk₁ b o (H.keep b o e), fun p hp => ?_, fun p hp => ?_, ?_⟩
  · rcases List.mem_cons.mp hp with rfl | hp
    · exact isNs_of hns
    · obtain ⟨o, e, q⟩ := H.led p hp; exact ⟨o, hk₁ _ _ e, q⟩
  · rcases List.mem_cons.mp hp with rfl | hp
    · cases e : h₀.get? h.objs.size with
      | none => rfl
      | some o' => exact absurd (Heap.lt_size (H.keep _ _ e)) (Nat.lt_irrefl _)
    · exact H.fresh p hp
  · exact (H.push (p := fun _ => True) (o := default) trivial).nd
theorem codeRecOf {h₀ h : Heap} {l : Led} {c : Addr} {q : Str} (H : S h₀ l h) (hc : (c, isRec q) ∈ l) : h.CodeRec (.ref c) q := by
  obtain ⟨o, e, vs, t, e1, e2⟩ := H.get hc
  exact ⟨c, o, vs, t, rfl, e, e1, e2⟩
namespace T
section
variable {b : Bs} {A : Around} {l l' : Led} {env : Env} {pos : Pos} {c P : Addr} {used : List (Nat × Nat)} {n : Nat}
theorem enterDK {name qual : Str} {params : Arguments} {body : List Stmt} {scope : Scope} {clos : List (Str × Addr)} {doc pm ctv : Value} {c' f : Addr} {args : Args} {binds : List (Str × Value)} {Q : Value → Led → Prop}
    (hA : Ok A (n + 1)) (hf : (f, isO (fnMade name qual params body scope clos doc pm c' ctv)) ∈ l) (hc : (c', isRec qual) ∈ l)
    (hbind : ∀ s, In b l s → BindsTo s (fnX name qual params body scope clos .none .none doc pm none (.ref c') ctv) args binds) (hloc : (binds.all fun x => decide (scope.names.lookup x.1 = some .local)) = true)
    (h : ∀ L (K : Flow → Led → Prop), (∀ fl l', Out (Q (match fl with | .ret v => v | _ => .none)) l' → K fl l') → T b (A.deeper (envX qual scope L f (.ref c') clos)) (execs body (envX qual scope L f (.ref c') clos)) K ((L, isNs (ofB binds)) :: l))
    (hcell : ∀ x ∈ scope.names, x.2 ≠ .cell := by decide) (hco : scope.isCoroutine = false := by k_dflt rfl) (hgen : scope.isGenerator = false := by k_dflt rfl) (hk : scope.kind = .function := by k_dflt rfl) :
    TK b A (.call (.ref f) args) Q l := fun s I => by
  obtain ⟨o, e, rfl⟩ := I.st.get hf
  refine codeAny_call_def (fd := fnX name qual params body scope clos .none .none doc pm none (.ref c') ctv) (body := body) (binds := binds) hA.room e rfl (b.B.nolimit.keeps I.st.keep) (codeRecOf I.st hc) rfl (hbind s I) hcell (locs hloc) (fun h₁ hns hk₁ => ?_) hco hgen hk
  exact (h _ _ fun _ _ x => x).to (I.up (I.st.newNs hns hk₁)) fun fl s' l' I' ⟨t, x, h'⟩ => ⟨t, I'.pick x, h'⟩
theorem enterD {name qual : Str} {params : Arguments} {body : List Stmt} {scope : Scope} {clos : List (Str × Addr)} {doc pm ctv : Value} {c' f : Addr} {args : List Value} {binds : List (Str × Value)} {Q : Value → Led → Prop}
    (hA : Ok A (n + 1)) (hf : (f, isO (fnMade name qual params body scope clos doc pm c' ctv)) ∈ l) (hc : (c', isRec qual) ∈ l)
    (hbind : ∀ s, In b l s → BindsTo s (fnX name qual params body scope clos .none .none doc pm none (.ref c') ctv) ⟨args, []⟩ binds) (hloc : (binds.all fun x => decide (scope.names.lookup x.1 = some .local)) = true)
    (h : ∀ L (K : Flow → Led → Prop), (∀ fl l', Out (Q (match fl with | .ret v => v | _ => .none)) l' → K fl l') → T b (A.deeper (envX qual scope L f (.ref c') clos)) (execs body (envX qual scope L f (.ref c') clos)) K ((L, isNs (ofB binds)) :: l))
    (hcell : ∀ x ∈ scope.names, x.2 ≠ .cell := by decide) (hco : scope.isCoroutine = false := by k_dflt rfl) (hgen : scope.isGenerator = false := by k_dflt rfl) (hk : scope.kind = .function := by k_dflt rfl) :
    T b A (call (.ref f) args) Q l := ofTK (enterDK hA hf hc hbind hloc h hcell hco hgen hk)
theorem enterL {name qual : Str} {params : Arguments} {body : Expr} {scope : Scope} {clos : List (Str × Addr)} {pm ctv : Value} {c' f : Addr} {args : List Value} {binds : List (Str × Value)} {Q : Value → Led → Prop}
    (hA : Ok A (n + 1)) (hf : (f, isO (kla_obj name qual params body scope clos pm c' ctv)) ∈ l) (hc : (c', isRec qual) ∈ l)
    (hbind : bindArgs (kla_fn name qual params body scope clos pm (.ref c') ctv) ⟨args, []⟩ = pure binds) (hloc : (binds.all fun x => decide (scope.names.lookup x.1 = some .local)) = true)
    (h : ∀ L, T b (A.deeper (envX qual scope L f (.ref c') clos)) (eval body (envX qual scope L f (.ref c') clos)) (fun v => Out (Q v)) ((L, isNs (ofB binds)) :: l))
    (hcell : ∀ x ∈ scope.names, x.2 ≠ .cell := by decide) (hco : scope.isCoroutine = false := by k_dflt rfl) (hgen : scope.isGenerator = false := by k_dflt rfl) (hk : scope.kind = .function := by k_dflt rfl) :
    T b A (call (.ref f) args) Q l := ofTK fun s I => by
  obtain ⟨o, e, rfl⟩ := I.st.get hf
  refine kla_callFunE hA.room e rfl hco hgen rfl (codeRecOf I.st hc) ?_
  rw [hbind]
  refine wpAny_pure (wpAny_newFunctionEnv hcell (locs hloc) (fun h₁ hns hsb => ⟨(b.B.nolimit.keeps I.st.keep).fresh _ hsb, ?_⟩) hk)
  have hk₁ : ∀ b o, s.heap.get? b = some o → h₁.get? b = some o := fun b o e => hsb.extBut b o (Nat.ne_of_lt (Heap.lt_size e)) (Heap.get?_push_of_some _ e)
  show codeAny _ _ (.expr body (envX qual scope s.heap.objs.size f (.ref c') clos)) _ _
  exact kla_codeExpr ((h _).to (I.up (I.st.newNs hns hk₁)) fun v s' l' I' ⟨t, x, h'⟩ => ⟨t, I'.pick x, h'⟩)
theorem mkLamP {name qual : Str} {params : Arguments} {body : Expr} {scope : Scope} {clos : List (Str × Addr)} {fl : Nat} {Q : Value → Led → Prop} (hcl : closureFor scope env = pure clos) (hge : env.globals = mainGlobals) (hcode : env.code = .ref c)
    (C : CodeHd b.s₀.heap c P) (hcP : c ≠ P) (R : Rep P (isPT used) (isPT ((pos.line, pos.col) :: used)) l l') (hnf : (pos.line, pos.col) ∉ used)
    (h : ∀ f c' ctv, Q (.ref f) ((f, isO (kla_obj name qual params body scope clos ((b.mg "__name__").getD .none) c' ctv)) :: (c', isRec qual) :: l')) : T b A (makeFunction name qual params (.expr body) scope env [] [] [] pos fl) Q l := fun s I => by
  obtain ⟨op, hop, ps, rfl, ht, hn⟩ := I.st.get R.mem
  have hgP : mainGlobals ≠ P := by
    rintro rfl
    obtain ⟨o, es, ep, e, -⟩ := b.B.g
    have := I.st.fresh _ R.mem
    rw [e] at this; cases this
  have CH : CodeHd s.heap c P := C.keeps I.st.keep
  obtain ⟨bm, ob, h1, h2, h3, h4, h5, h6⟩ := b.B.bmain
  have hbm : bm ≠ P := by
    rintro rfl
    have := I.st.fresh _ R.mem
    rw [h3] at this; cases this
  have hbmg : bm ≠ mainGlobals := by
    rintro rfl
    obtain ⟨o, es, ep, e, hd, -⟩ := b.B.g
    rw [h3] at e; cases e
    rw [h6] at hd; cases hd
  refine kla_makeFunction hcl hge (b.B.g.keeps I.st.keep) hcode CH hop ht (hn pos hnf) hgP ⟨bm, ob, h1, h2, hbmg, hbm, I.st.keep _ _ h3, h4, h5, h6⟩ fun c' ctv h' tk hx hge' hlt hrec hP => ?_
  obtain ⟨c₃, o₃, vs₃, t₃, g1, g2, g3, g4⟩ := hrec
  cases g1
  have H1 := I.st.addBut (q := isRec qual) R hx ⟨_, hP, isPT.snoc ht hn⟩ hge' ⟨o₃, g2, vs₃, t₃, g3, g4⟩
  exact ⟨_, I.up (tk := tk) (H1.push (p := isO (kla_obj name qual params body scope clos ((b.mg "__name__").getD .none) c' ctv)) rfl), h _ _ _⟩
theorem lam {params : Arguments} {body : Expr} {scope : Scope} {Q : Value → Led → Prop} (hdef : defaultsOf params env = ([], [])) (h : T b A (makeFunction "<lambda>" (env.qual ++ "<lambda>") params (.expr body) scope env [] [] [] pos pos.line) Q l) :
    T b A (eval (.Lambda params body scope pos) env) Q l := fun s I => kla_eval hdef (h s I)
end
end T

theorem kinOf {b : Bs} {l : Led} {K : Frag} (h : ∀ p ∈ K, (p.1, isO p.2) ∈ l) : Kin b l K := fun s I a o e => by
  have hm : (a, o) ∈ K := by
    clear h
    induction K with
    | nil => cases e
    | cons p r ih =>
      obtain ⟨a', o'⟩ := p
      rw [List.lookup_cons] at e
      split at e
      · rename_i q; cases e; rw [beq_iff_eq.mp q]; exact .head _
      · exact .tail _ (ih e)
  obtain ⟨o', e', rfl⟩ := I.st.get (h _ hm)
  exact e'
def IsInit (b : Bs) (fd : FuncData) (c1 : Addr) (q1 : Str) : Prop := ∀ {A : Around} {l : Led} {f C x dx md : Addr} {v : Value} {K : Frag} {d : Nat} {Q : Value → Led → Prop}, Ok A (d + 1) → (f, isO (fO fd)) ∈ l → (c1, isRec q1) ∈ l → (∀ p ∈ K, (p.1, isO p.2) ∈ l) → SlotOf K C md "obj" 0 →
  Q .none ((x, isO (slotObj C dx [v])) :: (dx, isO emptyDict) :: l) → TK b A (.call (.ref f) ⟨[.ref x, v], []⟩) Q ((x, isO (instObj C dx)) :: (dx, isO emptyDict) :: l)
def IsCmp (b : Bs) (fd : FuncData) (c2 : Addr) (q2 : Str) (cl g : Addr) (sg : Int → Bool) : Prop := ∀ {A : Around} {l : Led} {f C x y dx dy md : Addr} {u v : Value} {K : Frag} {gd : FuncData} {z : Int} {d : Nat} {Q : Value → Led → Prop}, Ok A (d + 1) → (f, isO (fO fd)) ∈ l → (c2, isRec q2) ∈ l → (cl, isCell (some (.ref g))) ∈ l → (g, isFun gd) ∈ l →
  (∀ p ∈ K, (p.1, isO p.2) ∈ l) → SlotOf K C md "obj" 0 → (x, isO (slotObj C dx [u])) ∈ l → (dx, isO emptyDict) ∈ l → (y, isO (slotObj C dy [v])) ∈ l → (dy, isO emptyDict) ∈ l → handedIn u = true → handedIn v = true →
  (∀ (A' : Around) (l₁ : Led) (Q' : Value → Led → Prop), Ok A' d → (∀ p ∈ l, p ∈ l₁) → (∀ t, Q' (.int z t) l₁) → T b A' (call (.ref g) [u, v]) Q' l₁) → Q (.bool (sg z)) l → T b A (call (.ref f) [.ref x, .ref y]) Q l
structure KPk where
  (C ns2 md f1 f2 f3 c1 c2 c3 cl bt sl f4 f5 f6 sa : Addr)
  (t t2 t0 t3 tmd : Tok)
  (es : Array DictEntry)
  (n : Nat)
  (fd1 fd2 fd3 : FuncData)
  (q1 q2 q3 : Str)
namespace KPk
abbrev kvs (k : KPk) : List (Str × Value) := kvsL k.t0 k.t3 k.sl k.f1 k.f2 k.f3 k.f4 k.f5 k.f6 k.sa ++ [(Str.ofString "obj", Value.ref k.md)] ++ [(Str.ofString "__doc__", Value.none)]
abbrev nsO (k : KPk) : Obj := { cls := .type "dict", dict := none, data := .dict k.es k.n, slots := #[] }
def frag (k : KPk) : Frag := [(k.C, clsO (cdK k.C k.ns2) (slK k.bt k.t k.t2)), (k.ns2, k.nsO), (k.md, mdO k.tmd k.C), (k.f1, fO k.fd1), (k.f2, fO k.fd2), (k.f3, fO k.fd3)]
def led (k : KPk) (g : Addr) : Led := [(k.C, isO (clsO (cdK k.C k.ns2) (slK k.bt k.t k.t2))), (k.ns2, isO k.nsO), (k.md, isO (mdO k.tmd k.C)), (k.f1, isO (fO k.fd1)), (k.f2, isO (fO k.fd2)), (k.f3, isO (fO k.fd3)), (k.c1, isRec k.q1), (k.c2, isRec k.q2), (k.c3, isRec k.q3), (k.cl, isCell (some (.ref g)))]
structure Good (b : Bs) (g : Addr) (k : KPk) : Prop where
  tab : TabOf k.kvs k.es.toList
  nd : (k.frag.map (·.1)).Nodup
  init : IsInit b k.fd1 k.c1 k.q1
  lt : IsCmp b k.fd2 k.c2 k.q2 k.cl g fun z => decide (z < 0)
  gt : IsCmp b k.fd3 k.c3 k.q3 k.cl g fun z => decide (z > 0)
section
variable {b : Bs} {g : Addr} {k : KPk} (H : Good b g k)
include H
theorem lC : k.frag.lookup k.C = some (clsO (cdK k.C k.ns2) (slK k.bt k.t k.t2)) := by unfold frag; rw [List.lookup_cons_self]
theorem nds : k.ns2 ≠ k.C ∧ k.md ≠ k.C ∧ k.md ≠ k.ns2 ∧ k.f1 ≠ k.C ∧ k.f1 ≠ k.ns2 ∧ k.f1 ≠ k.md := by
  have h := H.nd
  simp only [frag, List.map_cons, List.map_nil, List.nodup_cons, List.mem_cons, not_or] at h
  obtain ⟨⟨h1, h2, h3, -⟩, ⟨h4, h5, -⟩, ⟨h6, -⟩, -⟩ := h
  exact ⟨Ne.symm h1, Ne.symm h2, Ne.symm h4, Ne.symm h3, Ne.symm h5, Ne.symm h6⟩
theorem lN : k.frag.lookup k.ns2 = some k.nsO := by
  unfold frag
  rw [List.lookup_cons, beq_false_of_ne (nds H).1]
  exact List.lookup_cons_self
theorem lM : k.frag.lookup k.md = some (mdO k.tmd k.C) := by
  unfold frag
  rw [List.lookup_cons, beq_false_of_ne (nds H).2.1]
  dsimp only
  rw [List.lookup_cons, beq_false_of_ne (nds H).2.2.1]
  exact List.lookup_cons_self
theorem lF : k.frag.lookup k.f1 = some (fO k.fd1) := by
  unfold frag
  rw [List.lookup_cons, beq_false_of_ne (nds H).2.2.2.1]
  dsimp only
  rw [List.lookup_cons, beq_false_of_ne (nds H).2.2.2.2.1]
  dsimp only
  rw [List.lookup_cons, beq_false_of_ne (nds H).2.2.2.2.2]
  exact List.lookup_cons_self
theorem find {x : Str} {r : Option Value} (hr : (match k.kvs.lookup x with | some v => some v | none => fastBuiltinOwn "object" x) = r) : findIn k.frag (.ref k.C) x = some r := by
  unfold findIn
  dsimp only
  rw [lC H]
  dsimp only
  unfold alongIn ownIn
  dsimp only
  rw [lC H]
  dsimp only
  unfold nsIn
  rw [lN H]
  dsimp only
  rcases H.tab.find x with ⟨e', h1, h2⟩ | ⟨h1, h2⟩
  · rw [h1]; rw [h2] at hr; dsimp only at hr ⊢; rw [hr]
  · rw [h1]
    rw [h2] at hr
    dsimp only at hr ⊢
    rw [if_neg (by rw [H.tab.noRef]; exact Bool.false_ne_true)]
    dsimp only
    unfold alongIn ownIn
    dsimp only
    rw [hr]
    cases r <;> rfl
theorem cls : clsIn k.frag k.C = some (cdK k.C k.ns2) := by unfold clsIn; rw [lC H]
theorem tM : typeIn k.frag (.ref k.md) = some (.type "member_descriptor") := by unfold typeIn; dsimp only; rw [lM H]; rfl
theorem tC : typeIn k.frag (.ref k.C) = some (.type "type") := by unfold typeIn; dsimp only; rw [lC H]; rfl
theorem sp {a : Value} {n : String} {x : Str} {r : Option Value} (h1 : typeIn k.frag a = some (.type n)) (h2 : fastLookup n x = some r) : specialIn k.frag a x = some r := by unfold specialIn; rw [h1]; exact h2
theorem slot : SlotOf k.frag k.C k.md "obj" 0 where
  gt := by unfold plainGet; rw [find H (r := some (.builtin "object.__getattribute__")) (by kernel_rfl), find H (r := none) (by kernel_rfl)]; decide +kernel
  cl := by unfold isClsIn; rw [cls H]; rfl
  fd := find H (by kernel_rfl)
  get := sp H (tM H) (by kernel_rfl)
  tk := by unfold takesIn; rw [sp H (tM H) (r := some (.builtin "member_descriptor.__set__")) (by kernel_rfl)]
  sl := by
    unfold slotIn recIn
    rw [lM H, cls H]
    dsimp only
    simp
  st := find H (by kernel_rfl)
  pl := by unfold plainOver; rw [cls H]; rfl
  tr := by
    unfold takerIn
    rw [find H (r := some (.ref k.md)) (by kernel_rfl), Option.bind_some]
    dsimp only
    unfold takesIn
    rw [sp H (tM H) (r := some (.builtin "member_descriptor.__set__")) (by kernel_rfl)]
    rfl
  ty := tM H
theorem makes : makesIn k.frag k.C = true := by
  unfold makesIn
  rw [lC H]
  dsimp only
  rw [sp H (tC H) (r := some (.builtin "type.__call__")) (by kernel_rfl)]
  unfold instIn
  rw [tC H, Option.bind_some, show subIn k.frag (.type "type") (.type "type") = some true by kernel_rfl]
  have e1 : ((slK k.bt k.t k.t2).toList[4]?).join = some (.builtin "object.__new__") := by kernel_rfl
  rw [e1]
  simp
theorem keep : keepIn k.frag (.ref k.C) = true := by
  unfold keepIn
  dsimp only
  rw [lC H]
  dsimp only
  rw [sp H (tC H) (r := some (.builtin "type.__call__")) (by kernel_rfl)]
  decide +kernel
end
end KPk

namespace KPk
section
variable {b : Bs} {A : Around} {l : Led} {g : Addr} {k : KPk} {n d : Nat} {x y dx dy : Addr} {u v : Value}
theorem mems (hm : ∀ p ∈ k.led g, p ∈ l) : ∀ p ∈ k.frag, (p.1, isO p.2) ∈ l := fun p hp => hm _ (by
  simp only [frag, List.mem_cons, List.not_mem_nil, or_false] at hp
  simp only [led, List.mem_cons]
  rcases hp with rfl | rfl | rfl | rfl | rfl | rfl <;> simp)
theorem make {Q : Value → Led → Prop} (H : Good b g k) (hA : Ok A (d + 2)) (hm : ∀ p ∈ k.led g, p ∈ l) (h : ∀ x dx, Q (.ref x) ((x, isO (slotObj k.C dx [v])) :: (dx, isO emptyDict) :: l)) : T b A (call (.ref k.C) [v]) Q l := by
  refine T.make (kinOf (mems hm)) (makes H) (fI := k.f1) (find H (by kernel_rfl)) (by unfold typeIn; dsimp only; rw [lF H]; rfl) fun x dx => ?_
  exact H.init (Ok.under hA) (hm _ (by simp [led])) (hm _ (by simp [led])) (mems hm) (slot H) ⟨rfl, h x dx⟩
theorem cwK {pos : Pos} {env : Env} {first : List Value} {e : Expr} {rest : List Expr} {Q : Value → Led → Prop} (H : Good b g k) (hm : ∀ p ∈ k.led g, p ∈ l)
    (h : T b A (spliced (backTo pos (starEach (e :: rest) env))) (fun vs l₁ => (∀ p ∈ k.led g, p ∈ l₁) ∧ T b A (call (.ref k.C) (first ++ vs)) Q l₁) l)
    (he : starEach (e :: rest) env = (false, eval e env) :: starEach rest env := by k_dflt rfl) (hp : ((backTo pos (starEach rest env)).any fun x => x.fst) = false := by k_dflt rfl) :
    T b A (callWith pos (.ref k.C) first (backTo pos (starEach (e :: rest) env)) []) Q l := fun s I =>
  callWith_K (kinOf (mems hm) s I) (keep H) (h.to I fun vs s₁ l₁ I₁ ⟨hm', h'⟩ => ⟨kinOf (mems hm') s₁ I₁, h' s₁ I₁⟩) he hp
theorem rich {op : CmpOp} {f : Addr} {c : Bool} {Q : Value → Led → Prop} (H : Good b g k) (hA : Ok A n) (hm : ∀ p ∈ k.led g, p ∈ l) (hx : (x, isO (slotObj k.C dx [u])) ∈ l) (hdx : (dx, isO emptyDict) ∈ l) (hy : (y, isO (slotObj k.C dy [v])) ∈ l)
    (hs : findIn k.frag (.ref k.C) (cmpInfo op).2.1 = some (some (.ref f))) (hf : isFn k.frag (.ref f) = true)
    (h : T b A (call (.ref f) [.ref x, .ref y]) (fun v l' => v = .bool c ∧ Q v l') l) : T b A (richCompare op (.ref x) (.ref y)) Q l := fun s I => by
  obtain ⟨o, e1, rfl⟩ := I.st.get hx
  obtain ⟨o, e2, rfl⟩ := I.st.get hdx
  obtain ⟨o, e3, rfl⟩ := I.st.get hy
  have hu : A.units < cLine := by have := hA.room64; omega
  unfold richCompare
  simp only [oneThing_ref]
  refine wpAny_holding (wpAny_bind (wpAny_cRoomFor hu ?_))
  refine wpAny_bind ((slot_at e1 e2).type.here (wpAny_bind ?_))
  unfold typeOf
  dsimp only
  refine wpAny_bind (wpAny_loadPart e3 (wpAny_pure ?_))
  rw [show (Value.ref k.C != (slotObj k.C dy [v]).cls) = false by simp [slotObj]]
  refine wpAny_bind (wpAny_pure ?_)
  simp only [Bool.false_eq_true, if_false]
  refine wpAny_bind ?_
  unfold tryCompare
  refine wpAny_bind (ifBound_K (kinOf (mems hm) s I) (slot_at e1 e2) hs hf (h.to I fun r s' l' I' h' => ?_))
  obtain ⟨rfl, q⟩ := h'
  exact wpAny_pure (wpAny_pure ⟨l', I', q⟩)
theorem isF2 (H : Good b g k) : isFn k.frag (.ref k.f2) = true := by
  unfold isFn typeIn
  dsimp only
  have h : ∃ fd, k.frag.lookup k.f2 = some (fO fd) := by
    have h := H.nd
    simp only [frag, List.map_cons, List.map_nil, List.nodup_cons, List.mem_cons, not_or] at h
    unfold frag
    refine ⟨k.fd2, ?_⟩
    rw [List.lookup_cons, beq_false_of_ne (Ne.symm h.1.2.2.2.1)]; dsimp only
    rw [List.lookup_cons, beq_false_of_ne (Ne.symm h.2.1.2.2.1)]; dsimp only
    rw [List.lookup_cons, beq_false_of_ne (Ne.symm h.2.2.1.2.1)]; dsimp only
    rw [List.lookup_cons, beq_false_of_ne (Ne.symm h.2.2.2.1.1)]; exact List.lookup_cons_self
  obtain ⟨fd, h⟩ := h
  rw [h]; rfl
theorem isF3 (H : Good b g k) : isFn k.frag (.ref k.f3) = true := by
  unfold isFn typeIn
  dsimp only
  have h : ∃ fd, k.frag.lookup k.f3 = some (fO fd) := by
    have h := H.nd
    simp only [frag, List.map_cons, List.map_nil, List.nodup_cons, List.mem_cons, not_or] at h
    unfold frag
    refine ⟨k.fd3, ?_⟩
    rw [List.lookup_cons, beq_false_of_ne (Ne.symm h.1.2.2.2.2.1)]; dsimp only
    rw [List.lookup_cons, beq_false_of_ne (Ne.symm h.2.1.2.2.2.1)]; dsimp only
    rw [List.lookup_cons, beq_false_of_ne (Ne.symm h.2.2.1.2.2.1)]; dsimp only
    rw [List.lookup_cons, beq_false_of_ne (Ne.symm h.2.2.2.1.2.1)]; dsimp only
    rw [List.lookup_cons, beq_false_of_ne (Ne.symm h.2.2.2.2.1.1)]; exact List.lookup_cons_self
  obtain ⟨fd, h⟩ := h
  rw [h]; rfl
/-- what a comparison of two keys is made of -/
structure Cmps (b : Bs) (g : Addr) (k : KPk) (l : Led) (x dx y dy : Addr) (u v : Value) (gd : FuncData) (d : Nat) (z : Int) : Prop where
  m : ∀ p ∈ k.led g, p ∈ l
  f : (g, isFun gd) ∈ l
  x : (x, isO (slotObj k.C dx [u])) ∈ l
  dx : (dx, isO emptyDict) ∈ l
  y : (y, isO (slotObj k.C dy [v])) ∈ l
  dy : (dy, isO emptyDict) ∈ l
  hu : handedIn u = true
  hv : handedIn v = true
  act : ∀ (A' : Around) (l₁ : Led) (Q' : Value → Led → Prop), Ok A' d → (∀ p ∈ l, p ∈ l₁) → (∀ t, Q' (.int z t) l₁) → T b A' (call (.ref g) [u, v]) Q' l₁
theorem ltK {gd : FuncData} {z : Int} {Q : Value → Led → Prop} (H : Good b g k) (hA : Ok A (d + 1)) (X : Cmps b g k l x dx y dy u v gd d z) (h : Q (.bool (decide (z < 0))) l) : T b A (compareOp .Lt (.ref x) (.ref y)) Q l := by
  show T b A (richCompare .Lt (.ref x) (.ref y)) Q l
  have hs : findIn k.frag (.ref k.C) (cmpInfo .Lt).2.1 = some (some (.ref k.f2)) := find H (x := "__lt__") (by kernel_rfl)
  refine rich (op := .Lt) (f := k.f2) (c := decide (z < 0)) H hA X.m X.x X.dx X.y hs (isF2 H) ?_
  exact H.lt hA (X.m _ (by simp [led])) (X.m _ (by simp [led])) (X.m _ (by simp [led])) X.f (mems X.m) (slot H) X.x X.dx X.y X.dy X.hu X.hv X.act ⟨rfl, h⟩
theorem gtK {gd : FuncData} {z : Int} {Q : Value → Led → Prop} (H : Good b g k) (hA : Ok A (d + 1)) (X : Cmps b g k l x dx y dy u v gd d z) (h : Q (.bool (decide (z > 0))) l) : T b A (compareOp .Gt (.ref x) (.ref y)) Q l := by
  show T b A (richCompare .Gt (.ref x) (.ref y)) Q l
  have hs : findIn k.frag (.ref k.C) (cmpInfo .Gt).2.1 = some (some (.ref k.f3)) := find H (x := "__gt__") (by kernel_rfl)
  refine rich (op := .Gt) (f := k.f3) (c := decide (z > 0)) H hA X.m X.x X.dx X.y hs (isF3 H) ?_
  exact H.gt hA (X.m _ (by simp [led])) (X.m _ (by simp [led])) (X.m _ (by simp [led])) X.f (mems X.m) (slot H) X.x X.dx X.y X.dy X.hu X.hv X.act ⟨rfl, h⟩
end
end KPk

def tupO (xs : List Value) : Obj := { cls := .type "tuple", data := .seq xs.toArray }
section
variable {b : Bs} {A : Around} {l : Led} {n d : Nat}
theorem T.callP2 {p bt : Addr} {n : Str} {t : Tok} {Q : Value → Led → Prop} (hp : (p, isO KP.bound) ∈ l) (h : ∀ ns, (ns == sysModules) = false → Q (.ref ns) ((ns, isO emptyD) :: l)) : T b A (call (.ref p) [.str n t, .ref bt]) Q l := fun s I => by
  obtain ⟨o, e, rfl⟩ := I.st.get hp
  exact KP.callP e ⟨_, I.up (tk := s.toks) (I.st.push (p := isO emptyD) rfl), h _ I.big⟩
theorem T.ndp {α : Type} {m : Sem α} {Q : α → Led → Prop} {t u : Led} (p : Pick (t ++ u) l) (h : (t.map (·.1)).Nodup → T b A m Q l) : T b A m Q l := fun s I => h ((((List.sublist_append_left t u).map _).nodup) (I.pick p).st.nd) s I
set_option maxHeartbeats 8000000 in
theorem keyT {f : Addr} {Q : Value → Led → Prop} (hA : Ok A (d + 1)) (h : ∀ (k : KPk) used, KPk.Good b f k → Q (.ref k.C) (k.led f ++ (43, isPT used) :: l)) : T b A (call (.ref 48) [.ref f]) Q ((43, isPT []) :: l) := by
  refine T.enterC (y := "mycmp") (u := .ref f) (od := none) hA (by exact rfl) (by kernel_rfl) rfl (fun _ => rfl) rfl (fun L c K hK => ?_)
  walk_at "go"
  rw [arm_exec_ClassDef]
  iterate 6 (walk_at "w")
  refine T.bcg rfl ?_
  refine T.bnd (T.hold (T.bnd (T.ea1 ?_)))
  walk_at "go"
  refine T.bnd (T.stand (T.hold ?_))
  unfold buildClass
  refine T.bnd (T.newT (fun bt => ?_))
  refine T.bnd (T.for1 ?_)
  dsimp -zeta -zetaHave only
  refine T.bnd (T.eqP (x := true) (by rfl) ?_)
  rw [if_pos rfl]
  refine T.ifPF (by decide) ?_
  refine T.pur ?_
  dsimp -zeta -zetaHave only
  have q1 : isSubtype (.type "type") (.type "type") = pure true := by rw [isSubtype_type]; kernel_rfl
  have q0 : ((Manifest.find? "object").elim "type" fun x => x.metatype) = "type" := by decide +kernel
  repeat (walk_at "w")
  rw [q0]
  refine T.eqP q1 ?_
  iterate 11 (walk_at "w")
  refine T.bnd (T.pur ?_)
  refine T.hold (T.bnd (T.getP fun pr => ?_))
  dsimp -zeta -zetaHave only
  refine T.bnd (T.callP2 (.head _) fun ns lo => ?_)
  dsimp -zeta -zetaHave only
  refine T.bnd (m := notTheModulesDict _ _) ?_
  unfold notTheModulesDict
  refine T.ifF lo (T.pur ?_)
  have q3 := slot_dict_getitem.lookup
  have q3' : typeLookup (Obj.cls T.emptyD) (Str.ofString "__getitem__") = _ := slot_dict_getitem.lookup
  refine T.bnd (m := specialOf _ _) ?_
  unfold specialOf typeOf
  repeat (walk_at "ws")
  refine T.clsCode (P := 43) (c := 47) rfl b.B.code47 (by walk_at "rep") (by decide) fun cK pK ne => ?_
  walk_at "ws"
  refine T.bFor ?_
  repeat (walk_at "ws")
  refine T.nsG (r := some (.str "law_il0175_01" 428)) rfl (by kernel_rfl) ?_
  repeat (walk_at "ws")
  refine T.alo (fun fr => ?_)
  repeat (walk_at "ws")
  refine T.enterF hA.deeper.room ?_
  refine T.weak (a := ns) (p' := isTab []) (by walk_at "rep") (fun o e => by subst e; exact ⟨#[], 0, rfl, .nil⟩) ?_
  repeat (walk_at "ws")
  refine T.ldKn rfl rfl rfl (by walk_at "mem") rfl ?_
  refine T.bnd ?_
  refine T.stK rfl (.inl rfl) (by walk_at "rep") rfl ?_
  repeat (walk_at "ws")
  refine T.stK rfl (.inr ⟨by rfl, by decide +kernel⟩) (by walk_at "rep") rfl ?_
  repeat (walk_at "ws")
  refine T.stK rfl (.inr ⟨by rfl, by decide +kernel⟩) (by walk_at "rep") rfl ?_
  repeat (walk_at "ws")
  refine T.runBody rfl rfl ?_
  refine T.exC ?_
  refine T.asgN (T.strC fun t => ?_)
  refine T.stK0 rfl rfl (by walk_at "rep") ?_
  dsimp -zeta -zetaHave only
  refine T.exC ?_
  refine T.asgN ?_
  walk_at "go"
  refine T.strC fun t => ?_
  walk_at "go"
  refine T.newL fun sl => ?_
  refine T.stK rfl (.inl rfl) (by walk_at "rep") rfl ?_
  dsimp -zeta -zetaHave only
  refine T.exC (T.defS rfl rfl rfl ?_)
  refine T.mkFunP (P := pK) (c := cK) (clos := []) rfl rfl rfl (.inr ⟨_, by walk_at "mem"⟩) ne (by walk_at "rep") (by decide) fun f1 c1 ct1 dc1 => ?_
  refine T.stK rfl (.inl rfl) (by walk_at "rep") rfl ?_
  dsimp -zeta -zetaHave only
  refine T.exC (T.defS rfl rfl rfl ?_)
  refine T.mkFunP (P := pK) (c := cK) (clos := [("mycmp", c)]) rfl rfl rfl (.inr ⟨_, by walk_at "mem"⟩) ne (by walk_at "rep") (by decide) fun f2 c2 ct2 dc2 => ?_
  refine T.stK rfl (.inl rfl) (by walk_at "rep") rfl ?_
  dsimp -zeta -zetaHave only
  refine T.exC (T.defS rfl rfl rfl ?_)
  refine T.mkFunP (P := pK) (c := cK) (clos := [("mycmp", c)]) rfl rfl rfl (.inr ⟨_, by walk_at "mem"⟩) ne (by walk_at "rep") (by decide) fun f3 c3 ct3 dc3 => ?_
  refine T.stK rfl (.inl rfl) (by walk_at "rep") rfl ?_
  dsimp -zeta -zetaHave only
  refine T.exC (T.defS rfl rfl rfl ?_)
  refine T.mkFunP (P := pK) (c := cK) (clos := [("mycmp", c)]) rfl rfl rfl (.inr ⟨_, by walk_at "mem"⟩) ne (by walk_at "rep") (by decide) fun f4 c4 ct4 dc4 => ?_
  refine T.stK rfl (.inl rfl) (by walk_at "rep") rfl ?_
  dsimp -zeta -zetaHave only
  refine T.exC (T.defS rfl rfl rfl ?_)
  refine T.mkFunP (P := pK) (c := cK) (clos := [("mycmp", c)]) rfl rfl rfl (.inr ⟨_, by walk_at "mem"⟩) ne (by walk_at "rep") (by decide) fun f5 c5 ct5 dc5 => ?_
  refine T.stK rfl (.inl rfl) (by walk_at "rep") rfl ?_
  dsimp -zeta -zetaHave only
  refine T.exC (T.defS rfl rfl rfl ?_)
  refine T.mkFunP (P := pK) (c := cK) (clos := [("mycmp", c)]) rfl rfl rfl (.inr ⟨_, by walk_at "mem"⟩) ne (by walk_at "rep") (by decide) fun f6 c6 ct6 dc6 => ?_
  refine T.stK rfl (.inl rfl) (by walk_at "rep") rfl ?_
  dsimp -zeta -zetaHave only
  refine T.exC (T.asgN (T.noneC ?_))
  refine T.stK rfl (.inl rfl) (by walk_at "rep") rfl ?_
  dsimp -zeta -zetaHave only
  refine T.exN ?_
  refine T.bnd (T.onR ?_)
  refine T.bnd (T.txt1 fun ts => ?_)
  refine T.bnd (T.newTT fun sa => ?_)
  repeat (walk_at "ws")
  refine T.stK rfl (.inr ⟨by rfl, by decide +kernel⟩) (by walk_at "rep") rfl ?_
  repeat (walk_at "ws")
  refine T.opn (a := sl) (l' := fun o => _) (fun o => by walk_at "rep") fun o ho => ?_
  obtain ⟨nn, rfl⟩ := ho
  show T b _ (call (.type "type") [.str "K" _, .ref bt, .ref ns]) _ _
  refine T.pick (t := (ns, isTab (kvsK _ _ _ Value.none sl f1 f2 f3 f4 f5 f6 sa)) :: (bt, isTuple [.type "object"]) :: (sl, isO _) :: (f1, isO _) :: (f2, isO _) :: (f3, isO _) :: (f4, isO _) :: (f5, isO _) :: (f6, isO _) :: (sa, isTuple [_]) ::
    (c1, isRec _) :: (c2, isRec _) :: (c3, isRec _) :: (43, isPT _) :: (c, isCell (some (.ref f))) :: (L, isNs _) :: l) ?_ (by walk_at "pick")
  refine newClassT hA.deeper.hh lo fun C ns2 md tmd => ?_
  iterate 12 (walk_at "ws")
  walk_at "1"
  refine T.opn (a := ns2) (l' := fun o => _) (fun o => by walk_at "rep") fun o ho => ?_
  obtain ⟨es, en, rfl, ht⟩ := ho
  refine T.ndp (t := (C, isO _) :: (ns2, isO _) :: (md, isO _) :: (f1, isO _) :: (f2, isO _) :: (f3, isO _) :: []) (u := l) (by walk_at "pick") fun hnd => ?_
  walk_at "ws"
  walk_at "ws"
  walk_at "go"
  refine hK _ _ ?_
  refine ⟨(C, isO _) :: (ns2, isO _) :: (md, isO _) :: (f1, isO (fO _)) :: (f2, isO (fO _)) :: (f3, isO (fO _)) :: (c1, isRec _) :: (c2, isRec _) :: (c3, isRec _) :: (c, isCell (some (.ref f))) :: (43, isPT _) :: l, by walk_at "pick", ?_⟩
  refine h ⟨C, ns2, md, f1, f2, f3, c1, c2, c3, c, bt, sl, f4, f5, f6, sa, _, _, _, _, tmd, es, en, _, _, _, _, _, _⟩ _ ⟨ht, hnd, ?_, ?_, ?_⟩
  · intro A' l' f' C' x dx md' v K d' Q' hA' hf hc hKf hs hq
    refine T.enterDK (binds := [("self", .ref x), ("obj", v)]) hA' (.tail _ (.tail _ hf)) (.tail _ (.tail _ hc)) (fun _ _ => BindsTo.of_eq rfl) rfl (fun L' K hK => ?_)
    walk_at "go"
    refine T.setS (vs := []) (vs' := [v]) (kinOf fun p hp => .tail _ (.tail _ (.tail _ (hKf p hp)))) hs (.tail .head) (by walk_at "mem") (.head _) (by decide) rfl (by simp) ?_
    walk_at "go"
    refine hK _ _ ?_
    exact ⟨(x, _) :: (dx, _) :: l', by walk_at "pick", hq⟩
  all_goals
    intro A' l' f' C' x y dx dy md' u v K gd z d' Q' hA' hf hc hcl hg hKf hs hx hdx hy hdy hu hv hact hq
    refine T.enterD (binds := [("self", .ref x), ("other", .ref y)]) hA' hf hc (fun _ _ => BindsTo.of_eq rfl) rfl (fun L' K hK => ?_)
    walk_at "go"
    refine T.nmF rfl rfl (.tail _ hcl) ?_
    refine T.cwF1 (.tail _ hg) ?_
    walk_at "go"
    refine T.getS (kinOf fun p hp => .tail _ (hKf p hp)) hs (.tail _ hx) (.tail _ hdx) rfl hu ?_
    walk_at "go"
    refine T.getS (kinOf fun p hp => .tail _ (hKf p hp)) hs (.tail _ hy) (.tail _ hdy) rfl hv ?_
    walk_at "go"
    refine ⟨.tail _ hg, hact _ _ _ hA'.deeper (fun p hp => .tail _ hp) fun t => ?_⟩
    walk_at "go"
    refine hK _ _ ?_
    exact ⟨l', by walk_at "pick", hq⟩
end

/-! the plain laws -/
/-- a fold that takes the better one -/
def crown (B : Int → Int → Bool) (c x : Int) : Int := if B x c then x else c
theorem crown_mem {B : Int → Int → Bool} : ∀ (xs : List Int) (c : Int), xs.foldl (crown B) c ∈ c :: xs
  | [], c => .head _
  | x :: xs, c => by
    have := crown_mem (B := B) xs (crown B c x)
    rw [List.foldl_cons]
    rcases List.mem_cons.mp this with h | h
    · rw [h]; unfold crown; split
      · exact .tail _ (.head _)
      · exact .head _
    · exact .tail _ (.tail _ h)
/-- who is crowned is beaten by none that comes later -/
theorem crown_last {B : Int → Int → Bool} : ∀ (xs : List Int) (c : Int), (c :: xs).Nodup → ∀ X Y, c :: xs = X ++ xs.foldl (crown B) c :: Y → ∀ p ∈ Y, B p (xs.foldl (crown B) c) = false
  | [], c, _, X, Y, h, p, hp => by
    have := congrArg List.length h
    simp at this
    have hY : Y = [] := List.length_eq_zero_iff.mp (by omega)
    rw [hY] at hp; cases hp
  | x :: xs, c, hd, X, Y, h, p, hp => by
    have hd1 := List.nodup_cons.mp hd
    rw [List.foldl_cons] at h ⊢
    by_cases hb : B x c = true
    · have e : crown B c x = x := by unfold crown; rw [if_pos hb]
      rw [e] at h ⊢
      have hm := crown_mem (B := B) xs x
      cases X with
      | nil =>
        have h1 := (List.cons.inj h).1
        rw [← h1] at hm
        exact absurd hm hd1.1
      | cons c' X => exact crown_last xs x hd1.2 X Y (List.cons.inj h).2 p hp
    · have e : crown B c x = c := by unfold crown; rw [if_neg hb]
      rw [e] at h ⊢
      have hd2 := List.nodup_cons.mp hd1.2
      have hdc : (c :: xs).Nodup := List.nodup_cons.mpr ⟨fun q => hd1.1 (.tail _ q), hd2.2⟩
      have ih := crown_last (B := B) xs c hdc
      have hm := crown_mem (B := B) xs c
      cases X with
      | nil =>
        obtain ⟨h1, h2⟩ := List.cons.inj h
        rw [← h2] at hp
        rcases List.mem_cons.mp hp with h3 | h3
        · rw [h3, ← h1]; simpa using hb
        · exact ih [] xs (by rw [List.nil_append]; rw [← h1]) p h3
      | cons c' X =>
        obtain ⟨h1, h2⟩ := List.cons.inj h
        have hmx : xs.foldl (crown B) c ∈ x :: xs := by rw [h2]; simp
        cases X with
        | nil =>
          obtain ⟨h3, h4⟩ := List.cons.inj h2
          rcases List.mem_cons.mp hm with h5 | h5
          · exact absurd (by rw [← h5, ← h3]; exact .head _) hd1.1
          · rw [← h3] at h5; exact absurd h5 hd2.1
        | cons x' X =>
          obtain ⟨h3, h4⟩ := List.cons.inj h2
          exact ih (c :: X) Y (congrArg (c :: ·) h4) p hp
theorem crown_root {B : Int → Int → Bool} {es : List (Int × Int)} {root x : Int} {xs : List Int} (hd : (x :: xs).Nodup) (hb : ∀ e ∈ es, B e.1 e.2 = true) (hp : ∀ y ∈ x :: xs, y = root ∨ ∃ p, (p, y) ∈ es)
    (ho : ∀ e ∈ es, ∃ X Y, x :: xs = X ++ e.2 :: Y ∧ e.1 ∈ Y) : xs.foldl (crown B) x = root := by
  rcases hp _ (crown_mem xs x) with h | ⟨p, h⟩
  · exact h
  · obtain ⟨X, Y, h1, h2⟩ := ho _ h
    have h3 := crown_last xs x hd X Y h1 p h2
    have h4 := hb _ h
    dsimp only at h4
    rw [h3] at h4; cases h4
/-- every closed set around the crowned one holds all -/
theorem crown_reach {B : Int → Int → Bool} {S : Int → Prop} : ∀ (xs : List Int) (c : Int), (c :: xs).Nodup → (∀ a ∈ c :: xs, ∀ b ∈ c :: xs, a ≠ b → B a b = true ∨ B b a = true) → (∀ a ∈ c :: xs, ∀ b ∈ c :: xs, S a → B a b = true → S b) →
    ∀ (done : List Int), (∀ y ∈ done, S c → S y) → S (xs.foldl (crown B) c) → (∀ y ∈ c :: xs, S y) ∧ ∀ y ∈ done, S y
  | [], c, _, _, _, done, hdn, h => ⟨fun y hy => by rw [List.mem_singleton.mp hy]; exact h, fun y hy => hdn y hy h⟩
  | x :: xs, c, hd, ht, hc, done, hdn, h => by
    have hd1 := List.nodup_cons.mp hd
    rw [List.foldl_cons] at h
    by_cases hb : B x c = true
    · have e : crown B c x = x := by unfold crown; rw [if_pos hb]
      rw [e] at h
      have ih := crown_reach xs x hd1.2 (fun a ha b hb => ht a (.tail _ ha) b (.tail _ hb)) (fun a ha b hb => hc a (.tail _ ha) b (.tail _ hb)) (c :: done) (fun y hy hx => by
        have hcS : S c := hc x (.tail _ (.head _)) c (.head _) hx hb
        rcases List.mem_cons.mp hy with rfl | hy
        · exact hcS
        · exact hdn y hy hcS) h
      exact ⟨fun y hy => (List.mem_cons.mp hy).elim (fun q => ih.2 y (by rw [q]; exact .head _)) (ih.1 y), fun y hy => ih.2 y (.tail _ hy)⟩
    · have e : crown B c x = c := by unfold crown; rw [if_neg hb]
      rw [e] at h
      have hd2 := List.nodup_cons.mp hd1.2
      have hne : c ≠ x := fun q => hd1.1 (by rw [q]; exact .head _)
      have hcx : B c x = true := (ht c (.head _) x (.tail _ (.head _)) hne).resolve_right hb
      have sub : ∀ {a}, a ∈ c :: xs → a ∈ c :: x :: xs := fun ha => (List.mem_cons.mp ha).elim (fun q => by rw [q]; exact .head _) fun q => .tail _ (.tail _ q)
      have ih := crown_reach xs c (List.nodup_cons.mpr ⟨fun q => hd1.1 (.tail _ q), hd2.2⟩) (fun a ha b hb => ht a (sub ha) b (sub hb)) (fun a ha b hb => hc a (sub ha) b (sub hb)) (x :: done) (fun y hy hS => by
        rcases List.mem_cons.mp hy with rfl | hy
        · exact hc c (.head _) y (.tail _ (.head _)) hS hcx
        · exact hdn y hy hS) h
      exact ⟨fun y hy => by
        rcases List.mem_cons.mp hy with rfl | hy
        · exact ih.1 _ (.head _)
        · rcases List.mem_cons.mp hy with rfl | hy
          · exact ih.2 _ (.head _)
          · exact ih.1 y (.tail _ hy), fun y hy => ih.2 y (.tail _ hy)⟩

/-- the middle of an odd list is below zero just when most of the list is -/
theorem count_neg : ∀ (ns : List Int), ns.Pairwise (· ≤ ·) → ∀ (k : Nat) (m : Int), ns[k]? = some m → (m < 0 → k < ns.countP (· < 0)) ∧ (¬ m < 0 → ns.countP (· < 0) ≤ k)
  | [], _, k, m, h => by simp at h
  | x :: ns, hp, k, m, h => by
    have hp2 := List.pairwise_cons.mp hp
    cases k with
    | zero =>
      simp at h
      subst h
      refine ⟨fun h => by rw [List.countP_cons_of_pos (by simpa using h)]; omega, fun h => ?_⟩
      rw [List.countP_cons_of_neg (by simpa using h), List.countP_eq_zero.mpr]
      · exact Nat.le_refl _
      · intro y hy
        have := hp2.1 y hy
        simp; omega
    | succ k =>
      have h' : ns[k]? = some m := by simpa using h
      have ih := count_neg ns hp2.2 k m h'
      have hx : x ≤ m := hp2.1 m (List.mem_of_getElem? h')
      refine ⟨fun hm => ?_, fun hm => ?_⟩
      · rw [List.countP_cons_of_pos (by simp; omega)]
        have := ih.1 hm; omega
      · have := ih.2 hm
        by_cases q : x < 0
        · rw [List.countP_cons_of_pos (by simpa using q)]; omega
        · rw [List.countP_cons_of_neg (by simpa using q)]; omega
theorem count_pos : ∀ (ns : List Int), ns.Pairwise (· ≤ ·) → ∀ (k : Nat) (m : Int), ns[k]? = some m → (0 < m → ns.countP (0 < ·) + k ≥ ns.length) ∧ (¬ 0 < m → ns.countP (0 < ·) + k + 1 ≤ ns.length)
  | [], _, k, m, h => by simp at h
  | x :: ns, hp, k, m, h => by
    have hp2 := List.pairwise_cons.mp hp
    cases k with
    | zero =>
      simp at h
      subst h
      refine ⟨fun h => ?_, fun h => ?_⟩
      · rw [List.countP_cons_of_pos (by simpa using h)]
        have : ns.countP (0 < ·) = ns.length := List.countP_eq_length.mpr fun y hy => by have := hp2.1 y hy; simp; omega
        rw [this]; simp
      · rw [List.countP_cons_of_neg (by simpa using h)]
        have := List.countP_le_length (p := fun x : Int => decide (0 < x)) (l := ns)
        simp; omega
    | succ k =>
      have h' : ns[k]? = some m := by simpa using h
      have ih := count_pos ns hp2.2 k m h'
      have hx : x ≤ m := hp2.1 m (List.mem_of_getElem? h')
      refine ⟨fun hm => ?_, fun hm => ?_⟩
      · have := ih.1 hm
        by_cases q : 0 < x
        · rw [List.countP_cons_of_pos (by simpa using q)]; simp; omega
        · rw [List.countP_cons_of_neg (by simpa using q)]; simp; omega
      · have := ih.2 hm
        rw [List.countP_cons_of_neg (by simp; omega)]; simp; omega
/-- the sign of the middle of an odd list tells the majority -/
theorem median_sign {xs ns : List Int} {k : Nat} {m : Int} (hp : ns.Perm xs) (hs : ns.Pairwise (· ≤ ·)) (hl : xs.length = 2 * k + 1) (hm : ns[k]? = some m) :
    (m < 0 ↔ xs.length < xs.countP (· < 0) * 2) ∧ (0 < m ↔ xs.length < xs.countP (0 < ·) * 2) := by
  have h1 := count_neg ns hs k m hm
  have h2 := count_pos ns hs k m hm
  have e1 := hp.countP_eq (fun x : Int => decide (x < 0))
  have e2 := hp.countP_eq (fun x : Int => decide (0 < x))
  have e3 := hp.length_eq
  rw [e1] at h1
  rw [e2, e3] at h2
  refine ⟨⟨fun h => ?_, fun h => ?_⟩, ⟨fun h => ?_, fun h => ?_⟩⟩
  · have := h1.1 h; omega
  · exact Decidable.byContradiction fun q => by have := h1.2 q; omega
  · have := h2.1 h; omega
  · exact Decidable.byContradiction fun q => by have := h2.2 q; omega

/-! what a grown tree gives to the run -/
theorem Grown.edge {M n root kn es} (g : Grown M n root kn es) : ∀ e ∈ es, e.1 ∈ kn ∧ e.2 ∈ kn ∧ M e.1 e.2 = true ∧ e.2 ≠ root ∧ kn.idxOf e.1 < kn.idxOf e.2 := by
  induction g with
  | nil => intro e he; cases he
  | @step kn es p c g hp hM hc hn ih =>
    have hroot : root ∈ kn := by
      clear ih hp hM hc hn
      induction g with
      | nil => exact .head _
      | step _ _ _ _ _ ih => exact List.mem_append_left _ ih
    intro e he
    rcases List.mem_cons.mp he with rfl | he
    · refine ⟨List.mem_append_left _ hp, by simp, hM, fun q => hc (by rw [show c = root from q]; exact hroot), ?_⟩
      dsimp only
      rw [List.idxOf_append, List.idxOf_append, if_pos hp, if_neg hc]
      have := List.idxOf_lt_length_of_mem hp
      omega
    · obtain ⟨h1, h2, h3, h4, h5⟩ := ih e he
      refine ⟨List.mem_append_left _ h1, List.mem_append_left _ h2, h3, h4, ?_⟩
      rw [List.idxOf_append, List.idxOf_append, if_pos h1, if_pos h2]; exact h5
theorem Grown.kids {M n root kn es} (g : Grown M n root kn es) : (es.map (·.2)).Nodup ∧ ∀ y, y ∈ kn ↔ y = root ∨ y ∈ es.map (·.2) := by
  induction g with
  | nil => exact ⟨by simp, fun y => by simp⟩
  | @step kn es p c g hp hM hc hn ih =>
    refine ⟨?_, fun y => ?_⟩
    · rw [List.map_cons, List.nodup_cons]
      exact ⟨fun q => hc ((ih.2 c).mpr (.inr q)), ih.1⟩
    · rw [List.mem_append, ih.2 y, List.mem_singleton, List.map_cons, List.mem_cons]
      constructor
      · rintro ((h | h) | h)
        · exact .inl h
        · exact .inr (.inr h)
        · exact .inr (.inl h)
      · rintro (h | h | h)
        · exact .inl (.inl h)
        · exact .inr h
        · exact .inl (.inr h)
theorem Grown.closed {M n root kn es} (g : Grown M n root kn es) {S : Nat → Prop} (hr : S root) (hc : ∀ p q, S p → p ∈ kn → q ∈ kn → M p q = true → S q) : ∀ y ∈ kn, S y := by
  induction g with
  | nil => intro y hy; rw [List.mem_singleton.mp hy]; exact hr
  | @step kn es p c g hp hM hcn hn ih =>
    have ih' := ih fun p q h1 h2 h3 => hc p q h1 (List.mem_append_left _ h2) (List.mem_append_left _ h3)
    intro y hy
    rcases List.mem_append.mp hy with h | h
    · exact ih' y h
    · rw [List.mem_singleton.mp h]; exact hc p c (ih' p hp) (List.mem_append_left _ hp) (by simp) hM

theorem filter_one {i : Int} : ∀ {l : List (Int × Int)}, (l.map (·.2)).Nodup → l.filter (fun e => e.2 = i) = [] ∨ ∃ e ∈ l, e.2 = i ∧ l.filter (fun e => e.2 = i) = [e]
  | [], _ => .inl rfl
  | e :: l, h => by
    rw [List.map_cons, List.nodup_cons] at h
    by_cases q : e.2 = i
    · refine .inr ⟨e, .head _, q, ?_⟩
      rw [List.filter_cons_of_pos (by simpa using q)]
      congr 1
      rw [List.filter_eq_nil_iff]
      intro x hx hxi
      exact h.1 (List.mem_map.mpr ⟨x, hx, by rw [q]; simpa using hxi⟩)
    · rw [List.filter_cons_of_neg (by simpa using q)]
      rcases filter_one h.2 with h1 | ⟨x, hx, h1, h2⟩
      · exact .inl h1
      · exact .inr ⟨x, .tail _ hx, h1, h2⟩
abbrev edgesI (es : List (Nat × Nat)) : List (Int × Int) := es.reverse.map fun e => ((e.1 : Int), (e.2 : Int))
theorem mem_edgesI {es : List (Nat × Nat)} {e : Int × Int} : e ∈ edgesI es ↔ ∃ p c : Nat, (p, c) ∈ es ∧ e = ((p : Int), (c : Int)) := by
  simp only [edgesI, List.mem_map, List.mem_reverse]
  constructor
  · rintro ⟨⟨p, c⟩, h, rfl⟩; exact ⟨p, c, h, rfl⟩
  · rintro ⟨p, c, h, rfl⟩; exact ⟨(p, c), h, rfl⟩
/-- what the run asks of the edges -/
structure RunE (M : Nat → Nat → Bool) (root : Nat) (kn : List Nat) (es : List (Int × Int)) : Prop where
  dom : ∀ i, i ∈ natI kn ↔ DomE es i
  par : ∀ i, DomE es i → Par es i = [] ∨ ∃ s, Par es i = [s] ∧ DomE es s ∧ kn.idxOf s.toNat < kn.idxOf i.toNat
  rk : ∀ e ∈ es, kn.idxOf e.1.toNat < kn.idxOf e.2.toNat
  mx : ∀ i, DomE es i → kn.idxOf i.toNat ≤ kn.length
  len : (natI kn).length = es.length + 1
  nd : (natI kn).Nodup
  top : ∀ y ∈ kn, y = root ∨ ∃ p, (p, (y : Int)) ∈ es
  beats : ∀ e ∈ es, ∃ p c : Nat, e = ((p : Int), (c : Int)) ∧ M p c = true
theorem Grown.run {M n root kn es} (g : Grown M n root kn es) (hne : es ≠ []) : RunE M root kn (edgesI es) := by
  have hk := g.kids
  have he := g.edge
  have dom1 : ∀ i, DomE (edgesI es) i → ∃ y ∈ kn, i = ((y : Nat) : Int) := by
    rintro i ⟨e, hm, h⟩
    obtain ⟨p, c, hpc, rfl⟩ := mem_edgesI.mp hm
    obtain ⟨h1, h2, -⟩ := he _ hpc
    rcases h with rfl | rfl
    · exact ⟨p, h1, rfl⟩
    · exact ⟨c, h2, rfl⟩
  have hroot : ∃ c, (root, c) ∈ es := by
    clear hk he dom1
    induction g with
    | nil => exact absurd rfl hne
    | @step kn es p c g hp hM hc hn ih =>
      cases g with
      | nil => rw [List.mem_singleton.mp hp]; exact ⟨c, .head _⟩
      | @step kn' es' p' c' g' hp' hM' hc' hn' => obtain ⟨x, hx⟩ := ih (by simp); exact ⟨x, .tail _ hx⟩
  have domk : ∀ y ∈ kn, DomE (edgesI es) (y : Int) := fun y hy => by
    rcases (hk.2 y).mp hy with rfl | h
    · obtain ⟨c, hc⟩ := hroot
      exact ⟨_, mem_edgesI.mpr ⟨_, _, hc, rfl⟩, .inl rfl⟩
    · obtain ⟨⟨p, c⟩, hpc, rfl⟩ := List.mem_map.mp h
      exact ⟨_, mem_edgesI.mpr ⟨p, c, hpc, rfl⟩, .inr rfl⟩
  have hnd2 : ((edgesI es).map (·.2)).Nodup := by
    have : (edgesI es).map (·.2) = ((es.map (·.2)).reverse).map fun x : Nat => (x : Int) := by simp [edgesI, List.map_map, Function.comp_def]
    rw [this, List.Nodup, List.pairwise_map]
    refine List.Pairwise.imp (fun h q => h (by omega)) ((List.reverse_perm _).nodup_iff.mpr hk.1)
  have hrk : ∀ e ∈ edgesI es, kn.idxOf e.1.toNat < kn.idxOf e.2.toNat := fun e hm => by
    obtain ⟨p, c, hpc, rfl⟩ := mem_edgesI.mp hm
    exact (he _ hpc).2.2.2.2
  refine ⟨fun i => ⟨fun h => ?_, fun h => ?_⟩, fun i hi => ?_, hrk, fun i hi => ?_, ?_, ?_, fun y hy => ?_, fun e hm => ?_⟩
  · obtain ⟨y, hy, rfl⟩ := List.mem_map.mp h; exact domk y hy
  · obtain ⟨y, hy, rfl⟩ := dom1 i h; exact List.mem_map.mpr ⟨y, hy, rfl⟩
  · rcases filter_one (i := i) hnd2 with h1 | ⟨e, hm, h1, h2⟩
    · exact .inl (by unfold Par; rw [h1]; rfl)
    · refine .inr ⟨e.1, by unfold Par; rw [h2]; rfl, ⟨e, hm, .inl rfl⟩, ?_⟩
      have := hrk e hm
      rw [h1] at this; exact this
  · exact List.idxOf_le_length
  · rw [show (natI kn).length = kn.length by simp [natI], g.len]; simp [edgesI]
  · rw [natI, List.Nodup, List.pairwise_map]
    exact List.Pairwise.imp (fun h q => h (by omega)) g.nodup
  · rcases (hk.2 y).mp hy with rfl | h
    · exact .inl rfl
    · obtain ⟨⟨p, c⟩, hpc, rfl⟩ := List.mem_map.mp h
      exact .inr ⟨p, mem_edgesI.mpr ⟨p, c, hpc, rfl⟩⟩
  · obtain ⟨p, c, hpc, rfl⟩ := mem_edgesI.mp hm
    exact ⟨p, c, rfl, (he _ hpc).2.2.1⟩

abbrev sliceO (x y z : Value) : Obj := { cls := .type "slice", dict := none, data := .fields #[x, y, z], slots := #[] }
namespace T
section
variable {b : Bs} {A : Around} {l l' : Led} {env : Env} {pos : Pos} {a sl : Addr} {ns : List Int} {i : Int} {t u : Tok} {Q : Value → Led → Prop}
theorem newSl {x y z : Value} (h : ∀ a, Q (.ref a) ((a, isO (sliceO x y z)) :: l)) : T b A (newFields "slice" [x, y, z]) Q l := newObjF (by show (3 : Nat) ≤ 1000; decide) h
theorem slcU {e : Expr} (h : T b A (eval e env) (fun v l₁ => ∀ a, Q (.ref a) ((a, isO (sliceO .none v .none)) :: l₁)) l) : T b A (eval (.Slice none (some e) none pos) env) Q l := by
  rw [arm_eval_Slice]
  refine bnd (pur ?_)
  refine bnd (hold (h.mono fun v l' h' => ?_))
  refine bnd (hold (pur ?_))
  exact newSl h'
theorem slcS {e₁ e₂ : Expr} (h : T b A (eval e₁ env) (fun v l₁ => T b A (eval e₂ env) (fun w l₂ => ∀ a, Q (.ref a) ((a, isO (sliceO v .none w)) :: l₂)) l₁) l) : T b A (eval (.Slice (some e₁) none (some e₂) pos) env) Q l := by
  rw [arm_eval_Slice]
  refine bnd (h.mono fun v l' h' => ?_)
  refine bnd (hold (pur ?_))
  refine bnd (hold (h'.mono fun w l'' h'' => ?_))
  exact newSl h''
/-- a list of ints that the ledger bears, or that stood at the start -/
def Has (b : Bs) (l : Led) (a : Addr) (ns : List Int) : Prop := ∀ s, In b l s → ∃ vs, IntsAre vs ns ∧ s.heap.IsList a vs.toArray
theorem has (hm : (a, isInts ns) ∈ l) : Has b l a ns := fun s I => by
  obtain ⟨vs, n, hi, e⟩ := I.st.intsAt hm; exact ⟨vs, hi, _, e, rfl, n, rfl⟩
theorem hasBase {vs : List Value} (hi : IntsAre vs ns) (hl : b.s₀.heap.IsList a vs.toArray) : Has b l a ns := fun s I => by
  obtain ⟨o, e, r⟩ := hl; exact ⟨vs, hi, o, I.st.keep _ _ e, r⟩
theorem lenH (hm : Has b l a ns) (hsz : ns.length < 2 ^ 60) (h : ∀ t, Q (.int ns.length t) l) : T b A (call (.builtin "len") [.ref a]) Q l := fun s I => by
  obtain ⟨vs, hi, e⟩ := hm s I
  refine call_len_list e (by simp [hi.length]; omega) ⟨l, I.up I.st, ?_⟩
  have := h (s.toks + 1)
  rw [← hi.length] at this
  simpa using this
theorem sliceH {value slice : Expr} {vl vu vk : Value} {lo hi st : Option Int} {ops : List Value} (hm : Has b l a ns) (hs : (sl, isO (sliceO vl vu vk)) ∈ l) (hsz : ns.length < 1000) (pl : IsPart vl lo) (pu : IsPart vu hi) (pk : IsPart vk st) (h0 : st ≠ some 0)
    (h : ∀ r, Q (.ref r) ((r, isInts (pickNums ns lo hi st)) :: l)) (he : subscripted slice false (.ref a) (.ref sl) = operate ops (getItem (.ref a) (.ref sl)) := by with_unfolding_all rfl) (ht : ∀ r, letTemporaryGo value (.ref a) r = pure () := by intro _; with_unfolding_all rfl) :
    T b A (subscriptTail value slice (.ref a) (.ref sl)) Q l := fun s I => by
  obtain ⟨vs, hi', e⟩ := hm s I
  obtain ⟨o, eo, rfl⟩ := I.st.get hs
  refine subscriptTail_ops e.typeIs list_getitem_lookup (wpAny_getItem_list_slice e ⟨_, eo, rfl, rfl⟩ pl pu pk h0 ?_ (by simp [hi'.length]; have : sizeLine = 2 ^ 24 := rfl; omega)) he ht
  exact ⟨_, I.up (tk := s.toks) (I.st.push (p := isInts (pickNums ns lo hi st)) ⟨_, hi'.pick lo hi st, 0, by simp [lsO]⟩), h _⟩
theorem sumI (hh : A.handled = none) (hm : (a, isInts ns) ∈ l) (h : ∀ t, Q (.int ns.sum t) l) : T b A (call (.builtin "sum") [.ref a]) Q l := fun s I => by
  obtain ⟨vs, n, hi, e⟩ := I.st.intsAt hm
  obtain ⟨xs, hx⟩ := hi.allInts.items
  have hl' : s.heap.IsList a (intItems xs) := hx ▸ ⟨_, e, rfl, n, rfl⟩
  refine sum_intListG hh hl' fun h' tk t' hk => ?_
  have e1 : ns = xs.toList.map (·.1) := by
    rw [← nums_intItems, ← hx]
    exact (show numsOf vs.toArray.toList = ns from hi.numsOf).symm
  have e2 : preSum (numAt xs) xs.size = ns.sum := by
    rw [preSum_eq, List.take_of_length_le (by simp), e1]
  rw [e2]
  exact ⟨l, I.up (tk := tk) (I.st.ext hk), h t'⟩
theorem indexI {j : Nat} (hm : (a, isInts ns) ∈ l) (hsz : ns.length < 1000) (hj : ns.idxOf i = j) (hi : i ∈ ns) (h : ∀ t, Q (.int j t) l) : T b A (call (.builtin "list.index") [.ref a, .int i t]) Q l := fun s I => by
  obtain ⟨vs, n, hv, e⟩ := I.st.intsAt hm
  have hlt : ns.idxOf i < ns.length := List.idxOf_lt_length_of_mem hi
  have hl := hv.length
  have hvs : vs.toArray.size = vs.length := by simp
  subst hj
  refine call_meets PySem.F.slot_list_index ⟨_, e, rfl⟩ PySem.F.entry_list_index (PySem.F.args_list_index_2 _ _)
    (MeetsSeq.list_index a vs.toArray n (.int i t) (isInt i) (fun y hy => ?_) (ns.idxOf i) (by omega) (by omega) ?_ fun m hm' hlt' => ?_) ⟨e, ⟨l, I.up I.st, h _⟩⟩
  · obtain ⟨k, u, rfl⟩ := hv.all y (by simpa using hy)
    exact MeetsSeq.EqGives.int k i u t
  · obtain ⟨u, hu⟩ := hv.get (ns.idxOf i) i (by rw [List.getElem?_eq_getElem hlt, List.getElem_idxOf])
    have hx : vs.toArray[ns.idxOf i]'(by omega) = .int i u := by
      have := List.getElem?_eq_some_iff.mp hu
      obtain ⟨h1, h2⟩ := this
      simpa using h2
    rw [hx]; simp [isInt]
  · have hm2 : m < ns.length := by omega
    obtain ⟨u, hu⟩ := hv.get m ns[m] (List.getElem?_eq_getElem hm2)
    have hx : vs.toArray[m] = .int ns[m] u := by
      obtain ⟨h1, h2⟩ := List.getElem?_eq_some_iff.mp hu
      simpa using h2
    rw [hx]
    have : ns[m] ≠ i := fun q => by
      have h2 := List.not_of_lt_findIdx (p := (· == i)) (xs := ns) hlt'
      rw [q] at h2
      simp at h2
    simp [isInt, this]
end
end T

noncomputable def lawFd (P : Params) : Option FuncData := match (hd.heap_1 P).lookup 203 with | some ⟨_, _, .func fd, _⟩ => some fd | _ => none
noncomputable def lawB (P : Params) : List Stmt := match lawFd P with | some fd => (match fd.body with | .stmts b => b | _ => []) | none => []
noncomputable def lawSc (P : Params) : Scope := match lawFd P with | some fd => fd.scope | none => { kind := .function, names := [], isGenerator := false, isCoroutine := false }
noncomputable abbrev lawEnv (b : Bs) (L fa : Addr) (cs : List (Str × Addr)) : Env := envX "law" (lawSc b.w.params) L fa (.ref 202) cs
abbrev cs9 (c1 c2 c3 c4 c5 c6 c7 c8 c9 : Addr) : List (Str × Addr) := [("table", c9), ("keys", c8), ("order", c7), ("key", c6), ("ahead", c5), ("places", c4), ("voters", c3), ("size", c2), ("numbers", c1)]
def ent2 (e : Addr × List Int) : Addr × OP := (e.1, isInts e.2)
theorem pick_bounds {ns : List Int} {lo hi st : Option Int} : ∀ x ∈ pickNums ns lo hi st, x ∈ ns := fun x hx => by
  unfold pickNums at hx
  obtain ⟨i, -, h⟩ := List.mem_filterMap.mp hx
  exact List.mem_of_getElem? h
theorem sum_bounds {ns : List Int} {M : Int} (h : ∀ x ∈ ns, 0 ≤ x ∧ x < M) : 0 ≤ ns.sum ∧ ns.sum ≤ ns.length * M := by
  induction ns with
  | nil => simp
  | cons x r ih =>
    have h1 := h x (.head _)
    have h2 := ih fun y hy => h y (.tail _ hy)
    simp only [List.sum_cons, List.length_cons]
    have : ((r.length + 1 : Nat) : Int) * M = r.length * M + M := by rw [Int.natCast_add, Int.add_mul]; simp
    omega
theorem ifsT.none {b : Bs} {A : Around} {env : Env} {l : Led} {P R : Led → Prop} (h : P l) : ifsT b A [] env (fun ok l₄ => if ok = true then P l₄ else R l₄) l := by
  show (if true = true then P l else R l)
  rw [if_pos rfl]; exact h
theorem ifsT.one {b : Bs} {A : Around} {env : Env} {l : Led} {c : Expr} {P R : Led → Prop} (h : T b A (isTrue c env (eval c env)) (fun ok l₄ => if ok = true then P l₄ else R l₄) l) : ifsT b A [c] env (fun ok l₄ => if ok = true then P l₄ else R l₄) l := h
section
variable {b : Bs} {A : Around} {l : Led} {n d : Nat} {c1 c2 c3 c4 c5 c6 c7 c8 c9 L fa : Addr}
set_option maxHeartbeats 8000000 in
theorem law1 {sc : Addr} {script : List Int} {Q : Flow → Led → Prop} (hA : Ok A (d + 8)) (hb : ∀ l, T.Has b l sc script) (hlen : script.length ≤ 63)
    (h : ∀ m (n vt : Nat) (nums : List Int) (turn : Int) t2 t3 t4 na, 3 ≤ n → n ≤ 5 → (vt = 3 ∨ vt = 5) → nums.length ≤ 24 → (∀ x ∈ nums, 0 ≤ x ∧ x < 5040) → 0 ≤ turn → turn < 2 ^ 40 → m "turn" = some (.int turn t4) →
      T b A (execs ((lawB b.w.params).drop 4) (lawEnv b L fa (cs9 c1 c2 c3 c4 c5 c6 c7 c8 c9))) Q ((L, isNs m) :: (c1, isCell (some (.ref na))) :: (c2, isCell (some (.int n t2))) :: (c3, isCell (some (.int vt t3))) :: (c4, isCell none) :: (c5, isCell none) :: (c6, isCell none) :: (c7, isCell none) :: (c8, isCell none) :: (c9, isCell none) :: (na, isInts nums) :: l)) :
    T b A (execs (lawB b.w.params) (lawEnv b L fa (cs9 c1 c2 c3 c4 c5 c6 c7 c8 c9))) Q ((L, isNs (ofB [("script", .ref sc)])) :: (c1, isCell none) :: (c2, isCell none) :: (c3, isCell none) :: (c4, isCell none) :: (c5, isCell none) :: (c6, isCell none) :: (c7, isCell none) :: (c8, isCell none) :: (c9, isCell none) :: l) := by
  refine (show T b A (execs (_ :: _ :: _ :: _ :: (lawB b.w.params).drop 4) (envX _ ⟨_, _, _, _, _⟩ _ _ _ _)) _ _ from ?_)
  walk_at "1"
  refine T.asgN ?_
  refine T.compE (cl := []) (by rfl) (by rfl) (by decide) ?_
  walk_at "go"
  refine T.slcU ?_
  walk_at "go"
  intro sl
  refine T.sliceH (lo := none) (hi := some 24) (st := none) (hb _) (.head _) (by omega) .none (.int _ _) .none (by simp) fun na0 => ?_
  have hnl : (pickNums script none (some 24) none).length ≤ 24 := by
    unfold pickNums
    refine Nat.le_trans (List.length_filterMap_le _ _) ?_
    show (sliceRange 0 (max 0 (min 24 (script.length : Int))) 1).length ≤ 24
    unfold sliceRange
    rw [List.length_map, List.length_range, if_pos (by decide)]
    split <;> omega
  refine T.iterI (.head _) fun it => ?_
  refine ⟨it, _, _, _, _, fun k ys lj => lj = [] ∧ (∃ ms, IntsAre ys ms ∧ ∀ x ∈ ms, 0 ≤ x ∧ x < 5040) ∧ ys.length ≤ k, [], (na0, isInts (pickNums script none (some 24) none)) :: (L, isNs (ofB [("script", .ref sc)])) :: (c1, isCell none) :: (c2, isCell none) :: (c3, isCell none) :: (c4, isCell none) :: (c5, isCell none) :: (c6, isCell none) :: (c7, isCell none) :: (c8, isCell none) :: (c9, isCell none) :: l, rfl, It.ints hA.hh (x := na0) (ns := pickNums script none (some 24) none), fun _ _ _ _ _ _ h => wpAny_pure h, by walk_at "pick", ⟨rfl, ⟨[], .nil, by simp⟩, Nat.le_refl _⟩, ?_, ?_, ?_, ?_, ?_⟩
  · have := hnl; have : sizeLine = 2 ^ 24 := rfl; omega
  · rintro i ys lj h' hi ⟨rfl, -⟩ H
    exact H.sideI (.tail _ (.head _))
  · exact fun i ys lj x => x.2.2
  · rintro C Dd cs mC i w ys lj hcs hi ⟨t, j, hj, rfl⟩ ⟨rfl, ⟨ms, hms, hbd⟩, hl⟩
    obtain rfl : cs = [] := hcs.trans (by rfl)
    simp only [List.append_nil, someCells, List.map_nil, List.nil_append]
    walk_at "go"
    refine ifsT.none ?_
    walk_at "go"
    refine T.mod (by decide) fun t => ?_
    refine ⟨[], _, by walk_at "pick", rfl, ⟨ms ++ [_], hms.append (.cons _ _ .nil), fun x hx => ?_⟩, by simp; omega⟩
    rcases List.mem_append.mp hx with hx | hx
    · exact hbd x hx
    · rw [List.mem_singleton.mp hx, Int.fmod_eq_emod_of_nonneg _ (by decide)]
      omega
  · rintro Dd ys lj ⟨rfl, ⟨ms, hms, hbd⟩, hl⟩
    dsimp only
    rw [List.nil_append]
    refine T.weak (a := Dd) (p' := isInts ms) .head (fun o e => ⟨ys, hms, e⟩) ?_
    walk_at "go"
    have hL0 : script.length < 2 ^ 60 := by omega
    have e2 := Int.fdiv_eq_ediv_of_nonneg (script.length : Int) (b := 2) (by decide)
    have e3 := Int.fdiv_eq_ediv_of_nonneg (script.length : Int) (b := 3) (by decide)
    have m3 := Int.fmod_eq_emod_of_nonneg ((script.length : Int).fdiv 2) (b := 3) (by decide)
    have m2 := Int.fmod_eq_emod_of_nonneg ((script.length : Int).fdiv 3) (b := 2) (by decide)
    refine T.lenH (hb _) hL0 fun t => ?_
    walk_at "go"
    refine T.fdiv hA.hh (by decide) (PyProof.noPylong_small (by omega)) fun t => ?_
    walk_at "go"
    refine T.mod (by decide) fun t => ?_
    walk_at "go"
    obtain ⟨n, hn, hn3, hn5⟩ : ∃ n : Nat, 3 + ((script.length : Int).fdiv 2).fmod 3 = n ∧ 3 ≤ n ∧ n ≤ 5 := ⟨(3 + ((script.length : Int).fdiv 2).fmod 3).toNat, by omega, by omega, by omega⟩
    rw [hn]
    refine T.lenH (hb _) hL0 fun t => ?_
    walk_at "go"
    refine T.fdiv hA.hh (by decide) (PyProof.noPylong_small (by omega)) fun t => ?_
    walk_at "go"
    refine T.mod (by decide) fun t => ?_
    walk_at "go"
    refine T.mul (.of_right (by decide)) fun t => ?_
    walk_at "go"
    obtain ⟨vt, hv, hv2⟩ : ∃ vt : Nat, 3 + ((script.length : Int).fdiv 3).fmod 2 * 2 = vt ∧ (vt = 3 ∨ vt = 5) := ⟨(3 + ((script.length : Int).fdiv 3).fmod 2 * 2).toNat, by omega, by omega⟩
    rw [hv]
    refine T.sumI hA.hh (by walk_at "mem") fun t => ?_
    walk_at "go"
    have hml : ms.length ≤ 24 := by
      rw [← hms.length]; exact Nat.le_trans hl hnl
    have hturn := sum_bounds hbd
    refine T.pick (t := (L, isNs _) :: (c1, _) :: (c2, _) :: (c3, _) :: (c4, _) :: (c5, _) :: (c6, _) :: (c7, _) :: (c8, _) :: (c9, _) :: (Dd, isInts ms) :: l) ?_ (by walk_at "pick")
    exact h _ n vt ms ms.sum _ _ _ Dd hn3 hn5 hv2 hml hbd hturn.1 (by omega) (by rfl)
end

abbrev envS (env : Env) (sc : Scope) (C : Addr) (cells : List (Str × Addr)) : Env := { scope := sc, locals := C, globals := env.globals, cells := cells, qual := env.qual, func := none, code := env.code, frame := env.frame, builtins := env.builtins }
inductive CPS (b : Bs) (A : Around) (elt target : Expr) (ifs : List Expr) (scope sc : Scope) (cl : List (Str × Addr)) (env : Env) (use' : Option (Value → Sem Unit)) (Q : Value → Led → Prop) (itv : Value) (l : Led) : Prop
  | mk (it : Addr) (n : Nat) (val : Nat → Value → Prop) (P : Nat → OP) (side : Heap → Prop) (J : Nat → List Value → Led → Prop) (lj₀ rest : Led)
    (e : itv = .ref it)
    (X : It b.w A it n val P side)
    (ht : (∀ i v (s : Shared) (Q : Unit → Shared → Prop) (E : Value → Shared → Prop), (∃ o, s.heap.get? it = some o ∧ P i o) → Q () s → wpAny (model pg b.w) A (letOwnedTupleGo target (.ref it) v) Q E s))
    (hp : Pick ((it, P 0) :: (lj₀ ++ rest)) l)
    (hJ : J 0 [] lj₀)
    (hn : n ≤ sizeLine)
    (hside : (∀ i ys lj h, i ≤ n → J i ys lj → S b.s₀.heap ((it, P i) :: (lj ++ rest)) h → side h))
    (hlen : (∀ i ys lj, J i ys lj → ys.length ≤ i))
    (turn : (∀ C D cs mC i v ys lj, cs = cellsFrom (C + 1) scope.names [] → i < n → val i v → J i ys lj →
      T b A (assign target (envS env sc C (cs ++ cl)) v) (fun _ l₃ => ifsT b A ifs (envS env sc C (cs ++ cl)) (fun ok l₄ =>
        if ok = true then T b A (eval elt (envS env sc C (cs ++ cl))) (fun y l₅ => ∃ lj' mC', Pick ((it, P (i + 1)) :: (C, isNs mC') :: (D, isList ys) :: (someCells cs ++ (lj' ++ rest))) l₅ ∧ J (i + 1) (ys ++ [y]) lj') l₄
        else ∃ lj' mC', Pick ((it, P (i + 1)) :: (C, isNs mC') :: (D, isList ys) :: (someCells cs ++ (lj' ++ rest))) l₄ ∧ J (i + 1) ys lj') l₃) ((it, P (i + 1)) :: (C, isNs mC) :: (D, isList ys) :: (someCells cs ++ (lj ++ rest)))))
    (done : (∀ D ys lj, J n ys lj → match use' with
      | none => Q (.ref D) ((D, isList ys) :: (lj ++ rest))
      | some u => ∀ C mC, T b A (u (.ref D)) (fun _ l' => ∃ mC' t, Pick ((C, isNs mC') :: t) l' ∧ Q .none t) ((C, isNs mC) :: (D, isList ys) :: (lj ++ rest)))) : CPS b A elt target ifs scope sc cl env use' Q itv l
namespace T
section
variable {b : Bs} {A : Around} {l l' : Led} {env : Env} {elt iter target : Expr} {ifs : List Expr} {scope : Scope} {pos : Pos} {cl : List (Str × Addr)}
theorem compES {Q : Value → Led → Prop} (sc : Scope) (cl : List (Str × Addr)) (hr : relabel scope env = sc) (hclos : closureFor scope env = pure cl) (hkind : scope.kind = .function) (hnames : ∀ x ∈ scope.names, x.2 = .local → scope.names.lookup x.1 = some .local)
    (h : T b A (eval iter env) (fun x l₁ => T b A (pyIter x) (CPS b A elt target ifs scope sc cl env none Q) l₁) l)
    (hs : ∀ x, foldedSetIterable iter env x = pure x := by k_dflt (intro _; rfl)) :
    T b A (eval (.ListComp elt [⟨target, iter, ifs, 0⟩] scope pos) env) Q l := by
  subst hr
  exact compE hclos hkind hnames (h.mono fun x l₁ h₁ => h₁.mono fun itv l₂ ⟨it, n, val, P, side, J, lj₀, rest, e, X, ht, hp, hJ, hn, hside, hlen, turn, done⟩ => ⟨it, n, val, P, side, J, lj₀, rest, e, X, ht, hp, hJ, hn, hside, hlen, turn, done⟩) hs
theorem compAS {y : Str} {py spos : Pos} {Q : Flow → Led → Prop} (sc : Scope) (cl : List (Str × Addr)) (hr : relabel scope env = sc) (hclos : closureFor scope env = pure cl) (hkind : scope.kind = .function) (hnames : ∀ x ∈ scope.names, x.2 = .local → scope.names.lookup x.1 = some .local)
    (h : T b A (eval iter env) (fun x l₁ => T b A (pyIter x) (CPS b A elt target ifs scope sc cl env (some (assign (.Name y py) env)) fun _ => Q .next) l₁) l)
    (hsw : swapsWith (.ListComp elt [⟨target, iter, ifs, 0⟩] scope pos) (some (.Name y py)) spos.line env = pure true := by k_dflt rfl)
    (hs : ∀ x, foldedSetIterable iter env x = pure x := by k_dflt (intro _; rfl)) :
    T b A (exec (.Assign [.Name y py] (.ListComp elt [⟨target, iter, ifs, 0⟩] scope pos) spos) env) Q l := by
  subst hr
  exact compA hclos hkind hnames (h.mono fun x l₁ h₁ => h₁.mono fun itv l₂ ⟨it, n, val, P, side, J, lj₀, rest, e, X, ht, hp, hJ, hn, hside, hlen, turn, done⟩ => ⟨it, n, val, P, side, J, lj₀, rest, e, X, ht, hp, hJ, hn, hside, hlen, turn, done⟩) hsw hs
/-- a post-condition over a weaker ledger -/
theorem wk {α : Type} {m : Sem α} {Q : α → Led → Prop} (h : T b A m (fun a l' => ∃ t, (∀ h₀ h', S h₀ l' h' → S h₀ t h') ∧ Q a t) l) : T b A m Q l := fun s I =>
  h.to I fun a s' l' I' ⟨t, k, q⟩ => ⟨t, ⟨k _ _ I'.st, I'.sh⟩, q⟩
end
end T
theorem intsMk : ∀ ns : List Int, IntsAre (ns.map fun x => .int x 0) ns
  | [] => .nil
  | x :: r => .cons _ _ (intsMk r)
abbrev scF (names : List (Str × NameKind)) : Scope := { kind := .function, names := names, isGenerator := false, isCoroutine := false }

section
variable {b : Bs} {A : Around} {l : Led} {n d : Nat} {c1 c2 c3 c4 c5 c6 c7 c8 c9 L fa : Addr}
set_option maxHeartbeats 8000000 in
theorem law2 {m : Str → Option Value} {n vt : Nat} {nums : List Int} {turn : Int} {t2 t3 t4 : Tok} {na : Addr} {Q : Flow → Led → Prop} (hA : Ok A (d + 8)) (hn3 : 3 ≤ n) (hn5 : n ≤ 5) (hv2 : vt = 3 ∨ vt = 5) (hml : nums.length ≤ 24) (hbd : ∀ x ∈ nums, 0 ≤ x ∧ x < 5040) (hm : m "turn" = some (.int turn t4))
    (h : ∀ m bl (bs : List (Addr × List Int)), m "turn" = some (.int turn t4) → m "ballots" = some (.ref bl) → bs.length = vt → (∀ e ∈ bs, e.2.Perm (rangeI n)) →
      T b A (execs ((lawB b.w.params).drop 5) (lawEnv b L fa (cs9 c1 c2 c3 c4 c5 c6 c7 c8 c9))) Q ((L, isNs m) :: (c2, isCell (some (.int n t2))) :: (c3, isCell (some (.int vt t3))) :: (c4, isCell none) :: (c5, isCell none) :: (c6, isCell none) :: (c7, isCell none) :: (c8, isCell none) :: (c9, isCell none) :: (bl, isList (bs.reverse.map fun e => .ref e.1)) :: (bs.map ent2 ++ l))) :
    T b A (execs ((lawB b.w.params).drop 4) (lawEnv b L fa (cs9 c1 c2 c3 c4 c5 c6 c7 c8 c9))) Q ((L, isNs m) :: (c1, isCell (some (.ref na))) :: (c2, isCell (some (.int n t2))) :: (c3, isCell (some (.int vt t3))) :: (c4, isCell none) :: (c5, isCell none) :: (c6, isCell none) :: (c7, isCell none) :: (c8, isCell none) :: (c9, isCell none) :: (na, isInts nums) :: l) := by
  refine (show T b A (execs (_ :: (lawB b.w.params).drop 5) (envX _ ⟨_, _, _, _, _⟩ _ _ _ _)) _ _ from ?_)
  walk_at "1"
  refine T.compAS (scF [(".0", .local), ("v", .local), ("_law_ballot", .globalImplicit), ("sum", .globalImplicit), ("numbers", .cell), ("size", .cell), ("voters", .cell)]) [("voters", c3), ("size", c2), ("numbers", c1)] (by kernel_rfl!) (by kernel_rfl!) rfl (by decide) ?_
  walk_at "go"
  refine T.range1 fun r => ?_
  refine T.iterRange (n := vt) (.head _) (small_of (by omega) (by omega) (.inl rfl)) (size_up rfl) fun it => ?_
  refine ⟨it, _, _, _, _, fun k ys lj => ∃ bs : List (Addr × List Int), lj = (L, isNs m) :: (c1, isCell (some (.ref na))) :: (c2, isCell (some (.int n t2))) :: (c3, isCell (some (.int vt t3))) :: (c4, isCell none) :: (c5, isCell none) :: (c6, isCell none) :: (c7, isCell none) :: (c8, isCell none) :: (c9, isCell none) :: (na, isInts nums) :: bs.map ent2 ∧ ys = bs.reverse.map (fun e => Value.ref e.1) ∧ bs.length = k ∧ ∀ e ∈ bs, e.2.Perm (rangeI n), _, l, rfl, It.range (a := 0) (c := 1) (n := vt) hA.hh, fun _ _ _ _ _ _ h => wpAny_pure h, ?_, ⟨[], rfl, rfl, rfl, by simp⟩, ?_, ?_, ?_, ?_, ?_⟩
  · simp only [List.map_nil, List.cons_append, List.nil_append]
    walk_at "pick"
  · have : sizeLine = 2 ^ 24 := rfl; omega
  · intros; trivial
  · rintro i ys lj ⟨bs, rfl, rfl, rfl, -⟩; simp
  · rintro C Dd' cs mC i w ys lj hcs hi ⟨tj, rfl⟩ ⟨bs, rfl, rfl, hbl, hbs⟩
    obtain rfl : cs = [] := hcs.trans (by rfl)
    simp only [someCells, List.map_nil, List.nil_append, List.cons_append]
    walk_at "go"
    refine ifsT.none ?_
    walk_at "go"
    walk_at "K"
    walk_at "go"
    refine T.newI (ns := [0, 4, 2, 1, 5]) (.cons _ _ (.cons _ _ (.cons _ _ (.cons _ _ (.cons _ _ .nil))))) fun ca => ?_
    walk_at "go"
    obtain ⟨o, ho, ho5⟩ : ∃ o, ([0, 4, 2, 1, 5] : List Int)[((0 : Int) + (i : Int) * 1).toNat]? = some o ∧ 0 ≤ o ∧ o ≤ 5 := by
      rw [show ((0 : Int) + (i : Int) * 1).toNat = i by omega]
      have : i = 0 ∨ i = 1 ∨ i = 2 ∨ i = 3 ∨ i = 4 := by omega
      rcases this with rfl | rfl | rfl | rfl | rfl <;> exact ⟨_, rfl, by decide, by decide⟩
    refine T.itemI (.head _) (by omega) (by omega) ho fun t => ?_
    walk_at "go"
    refine T.slcS ?_
    walk_at "go"
    intro sl
    refine T.sliceH (lo := some _) (hi := none) (st := some (vt : Int)) (T.has (by walk_at "mem")) (.head _) (by omega) (.int _ _) .none (.int _ _) (by simp; omega) fun pa => ?_
    walk_at "go"
    have hps : ∀ x ∈ pickNums nums (some ((0 : Int) + (i : Int) * 1)) none (some (vt : Int)), 0 ≤ x ∧ x < 5040 := fun x hx => hbd x (pick_bounds x hx)
    have hpl : (pickNums nums (some ((0 : Int) + (i : Int) * 1)) none (some (vt : Int))).length ≤ 24 := by
      exact Nat.le_trans (length_pickNums_le (intsMk nums) _ _ _) hml
    have hsum := sum_bounds hps
    refine T.sumI hA.hh (.head _) fun t => ?_
    walk_at "go"
    refine ballotT (n := n) (d := d + 7) hA (by omega) (by omega) rfl (by omega) fun bv p hp => ?_
    refine ⟨(L, isNs m) :: (c1, isCell (some (.ref na))) :: (c2, isCell (some (.int n t2))) :: (c3, isCell (some (.int vt t3))) :: (c4, isCell none) :: (c5, isCell none) :: (c6, isCell none) :: (c7, isCell none) :: (c8, isCell none) :: (c9, isCell none) :: (na, isInts nums) :: (bv, isInts p) :: bs.map ent2, _, by walk_at "pick", (bv, p) :: bs, rfl, by simp, by simp [hbl], ?_⟩
    exact List.forall_mem_cons.mpr ⟨hp, hbs⟩
  · rintro Dd' ys lj ⟨bs, rfl, rfl, hbl, hbs⟩
    dsimp only
    intro C mC
    simp only [List.cons_append]
    walk_at "go"
    refine ⟨mC, (L, isNs (put "ballots" (.ref Dd') m)) :: (c2, isCell (some (.int n t2))) :: (c3, isCell (some (.int vt t3))) :: (c4, isCell none) :: (c5, isCell none) :: (c6, isCell none) :: (c7, isCell none) :: (c8, isCell none) :: (c9, isCell none) :: (Dd', isList (bs.reverse.map fun e => .ref e.1)) :: (bs.map ent2 ++ l), by walk_at "pick", ?_⟩
    exact h _ _ _ (by exact hm) rfl hbl hbs
end

def placeOf (n : Nat) (p : List Int) : List Int := (List.range n).map fun (x : Nat) => ((p.idxOf (x : Int) : Nat) : Int)
theorem rangeI_mem {n x : Nat} (h : x < n) : (x : Int) ∈ rangeI n := by
  unfold rangeI
  exact List.mem_map.mpr ⟨x, List.mem_range.mpr h, by simp⟩
section
variable {b : Bs} {A : Around} {l : Led} {n d : Nat} {c2 c3 c4 c5 c6 c7 c8 c9 L fa : Addr}
set_option maxHeartbeats 8000000 in
theorem law3 {c1 : Addr} {m : Str → Option Value} {n vt : Nat} {turn : Int} {t2 t3 t4 : Tok} {bl : Addr} {bs : List (Addr × List Int)} {Q : Flow → Led → Prop} (hA : Ok A (d + 8)) (hn3 : 3 ≤ n) (hn5 : n ≤ 5) (hv2 : vt = 3 ∨ vt = 5) (hm : m "ballots" = some (.ref bl)) (hbl : bs.length = vt) (hbs : ∀ e ∈ bs, e.2.Perm (rangeI n))
    (h : ∀ pl (ps : List (Addr × List Int)), ps.map (·.2) = bs.map (fun e => placeOf n e.2) →
      T b A (execs ((lawB b.w.params).drop 6) (lawEnv b L fa (cs9 c1 c2 c3 c4 c5 c6 c7 c8 c9))) Q ((L, isNs m) :: (c2, isCell (some (.int n t2))) :: (c3, isCell (some (.int vt t3))) :: (c4, isCell (some (.ref pl))) :: (c5, isCell none) :: (c6, isCell none) :: (c7, isCell none) :: (c8, isCell none) :: (c9, isCell none) :: (bl, isList (bs.reverse.map fun e => .ref e.1)) :: (pl, isList (ps.reverse.map fun e => .ref e.1)) :: (ps.map ent2 ++ (bs.map ent2 ++ l)))) :
    T b A (execs ((lawB b.w.params).drop 5) (lawEnv b L fa (cs9 c1 c2 c3 c4 c5 c6 c7 c8 c9))) Q ((L, isNs m) :: (c2, isCell (some (.int n t2))) :: (c3, isCell (some (.int vt t3))) :: (c4, isCell none) :: (c5, isCell none) :: (c6, isCell none) :: (c7, isCell none) :: (c8, isCell none) :: (c9, isCell none) :: (bl, isList (bs.reverse.map fun e => .ref e.1)) :: (bs.map ent2 ++ l)) := by
  refine (show T b A (execs (_ :: (lawB b.w.params).drop 6) (envX _ ⟨_, _, _, _, _⟩ _ _ _ _)) _ _ from ?_)
  walk_at "1"
  refine T.asgN ?_
  refine T.compES (scF [(".0", .local), ("ballot", .cell), ("range", .globalImplicit), ("size", .cell)]) [("size", c2)] (by kernel_rfl!) (by kernel_rfl!) rfl (by decide) ?_
  walk_at "go"
  refine T.iterList (by walk_at "mem") fun it => ?_
  refine ⟨it, _, _, _, _, fun k ys lj => ∃ ps : List (Addr × List Int), lj = (L, isNs m) :: (c2, isCell (some (.int n t2))) :: (c3, isCell (some (.int vt t3))) :: (c4, isCell none) :: (c5, isCell none) :: (c6, isCell none) :: (c7, isCell none) :: (c8, isCell none) :: (c9, isCell none) :: (bl, isList (bs.reverse.map fun e => .ref e.1)) :: ps.map ent2 ∧ ys = ps.reverse.map (fun e => Value.ref e.1) ∧ ps.length = k ∧ ps.map (·.2) = (bs.reverse.take k).reverse.map (fun e => placeOf n e.2), _, bs.map ent2 ++ l, rfl, It.list hA.hh (x := bl) (xs := bs.reverse.map fun e => .ref e.1), fun _ _ _ _ _ _ h => wpAny_pure h, ?_, ⟨[], rfl, rfl, rfl, by simp⟩, ?_, ?_, ?_, ?_, ?_⟩
  · simp only [List.map_nil, List.cons_append, List.nil_append]
    walk_at "pick"
  · simp; have : sizeLine = 2 ^ 24 := rfl; omega
  · rintro i ys lj h' hi ⟨ps, rfl, -⟩ H
    simp only [List.cons_append] at H
    exact H.list (by walk_at "mem")
  · rintro i ys lj ⟨ps, rfl, rfl, rfl, -⟩; simp
  · rintro C Dd cs mC i w ys lj hcs hi hw ⟨ps, rfl, rfl, hpl, hps⟩
    obtain rfl : cs = [(Str.ofString "ballot", C + 1)] := hcs.trans (by rfl)
    simp only [someCells, List.map_cons, List.map_nil, List.nil_append, List.cons_append]
    rw [List.getElem?_map] at hw
    obtain ⟨e, he, rfl⟩ := Option.map_eq_some_iff.mp hw
    have hem : e ∈ bs := List.mem_reverse.mp (List.mem_of_getElem? he)
    have hme : (e.1, isInts e.2) ∈ ps.map ent2 ++ (bs.map ent2 ++ l) := List.mem_append_right _ (List.mem_append_left _ (List.mem_map_of_mem (f := ent2) hem))
    have hpe := hbs e hem
    walk_at "go"
    refine ifsT.none ?_
    refine T.wk ?_
    refine T.compES (scF [(".0", .local), ("x", .local), ("ballot", .cell)]) [("ballot", C + 1)] (by kernel_rfl!) (by kernel_rfl!) rfl (by decide) ?_
    walk_at "go"
    refine T.range1 fun r => ?_
    refine T.iterRange (n := n) (.head _) (small_of (by omega) (by omega) (.inl rfl)) (size_up rfl) fun it' => ?_
    refine ⟨it', _, _, _, _, fun k ys lj => lj = [] ∧ IntsAre ys ((List.range k).map fun (x : Nat) => ((e.2.idxOf (x : Int) : Nat) : Int)) ∧ ys.length ≤ k, [], _, rfl, It.range (a := 0) (c := 1) (n := n) hA.hh, fun _ _ _ _ _ _ h => wpAny_pure h, .refl, ⟨rfl, .nil, Nat.le_refl _⟩, ?_, ?_, ?_, ?_, ?_⟩
    · have : sizeLine = 2 ^ 24 := rfl; omega
    · intros; trivial
    · exact fun i ys lj x => x.2.2
    · rintro C' D' cs mC' k w ys' lj hcs hk ⟨tk, rfl⟩ ⟨rfl, hys, hyl⟩
      obtain rfl : cs = [] := hcs.trans (by rfl)
      simp only [someCells, List.map_nil, List.nil_append]
      walk_at "go"
      refine ifsT.none ?_
      walk_at "go"
      refine T.gmInts (by walk_at "mm") PySem.F.slot_list_index PySem.F.type_list_index ?_
      walk_at "go"
      have hlen := hpe.length_eq
      have hrl : (rangeI n).length = n := progI_length ..
      refine T.indexI (j := e.2.idxOf (k : Int)) (by walk_at "mm") (by omega) (by rw [show (0 : Int) + (k : Int) * 1 = k by omega]) (by rw [show (0 : Int) + (k : Int) * 1 = k by omega]; exact hpe.mem_iff.mpr (rangeI_mem hk)) fun t => ?_
      refine ⟨[], _, by walk_at "pick", rfl, ?_, by simp; omega⟩
      rw [List.range_succ, List.map_append]
      exact hys.append (.cons _ _ .nil)
    · rintro D' ys' lj ⟨rfl, hys, -⟩
      dsimp only
      simp only [List.nil_append]
      refine ⟨_, fun _ _ H => (H.weaken (p' := isInts (placeOf n e.2)) .head (fun o ho => ⟨_, hys, ho⟩)).weaken (a := C + 1) (p' := fun o => ∃ v, isCell v o) (by walk_at "rep") (fun o ho => ⟨_, ho⟩), (L, isNs m) :: (c2, isCell (some (.int n t2))) :: (c3, isCell (some (.int vt t3))) :: (c4, isCell none) :: (c5, isCell none) :: (c6, isCell none) :: (c7, isCell none) :: (c8, isCell none) :: (c9, isCell none) :: (bl, isList (bs.reverse.map fun e => .ref e.1)) :: (D', isInts (placeOf n e.2)) :: ps.map ent2, _, by walk_at "pick", (D', placeOf n e.2) :: ps, rfl, by simp, by simp [hpl], ?_⟩
      rw [List.take_add_one, he]
      simp [hps]
  · rintro Dd ys lj ⟨ps, rfl, rfl, hpl, hps⟩
    dsimp only
    simp only [List.cons_append]
    rw [List.take_of_length_le (by simp), List.reverse_reverse] at hps
    walk_at "go"
    refine T.pick (t := (L, isNs m) :: (c2, isCell (some (.int n t2))) :: (c3, isCell (some (.int vt t3))) :: (c4, isCell (some (.ref Dd))) :: (c5, isCell none) :: (c6, isCell none) :: (c7, isCell none) :: (c8, isCell none) :: (c9, isCell none) :: (bl, isList (bs.reverse.map fun e => .ref e.1)) :: (Dd, isList (ps.reverse.map fun e => .ref e.1)) :: (ps.map ent2 ++ (bs.map ent2 ++ l))) ?_ (by walk_at "pick")
    exact h Dd ps hps
end

def cntLt (P : List (List Int)) (x y : Nat) : Nat := (P.filter fun p => decide (p.getD x 0 < p.getD y 0)).length
def aheadM (P : List (List Int)) (vt x y : Nat) : Bool := decide ((vt : Int) < ((cntLt P x y : Nat) : Int) * 2)
def entB (M : Nat → Nat → Bool) (n : Nat) (e : Addr × Nat) : Addr × OP := (e.1, isList (boolRow M n e.2))
theorem getD_some {p : List Int} {n x : Nat} (hp : p.length = n) (hx : x < n) : p[x]? = some (p.getD x 0) := by
  rw [List.getD_eq_getElem?_getD, List.getElem?_eq_getElem (by omega)]; rfl
section
variable {b : Bs} {A : Around} {l : Led} {n d : Nat} {c2 c3 c4 c5 c6 c7 c8 c9 L fa : Addr}
set_option maxHeartbeats 8000000 in
theorem law4 {c1 : Addr} {m : Str → Option Value} {n vt : Nat} {t2 t3 : Tok} {pl : Addr} {ps : List (Addr × List Int)} {Q : Flow → Led → Prop} (hA : Ok A (d + 8)) (hn3 : 3 ≤ n) (hn5 : n ≤ 5) (hv5 : vt ≤ 5) (hpl : ps.length = vt) (hps : ∀ e ∈ ps, e.2.length = n)
    (h : ∀ al (rows : List (Addr × Nat)), rows.map (·.2) = (List.range n).reverse →
      T b A (execs ((lawB b.w.params).drop 7) (lawEnv b L fa (cs9 c1 c2 c3 c4 c5 c6 c7 c8 c9))) Q ((L, isNs m) :: (c2, isCell (some (.int n t2))) :: (c3, isCell (some (.int vt t3))) :: (c4, isCell (some (.ref pl))) :: (c5, isCell (some (.ref al))) :: (c6, isCell none) :: (c7, isCell none) :: (c8, isCell none) :: (c9, isCell none) :: (pl, isList (ps.reverse.map fun e => .ref e.1)) :: (al, isList (rows.reverse.map fun e => .ref e.1)) :: (rows.map (entB (aheadM (ps.map (·.2)) vt) n) ++ (ps.map ent2 ++ l)))) :
    T b A (execs ((lawB b.w.params).drop 6) (lawEnv b L fa (cs9 c1 c2 c3 c4 c5 c6 c7 c8 c9))) Q ((L, isNs m) :: (c2, isCell (some (.int n t2))) :: (c3, isCell (some (.int vt t3))) :: (c4, isCell (some (.ref pl))) :: (c5, isCell none) :: (c6, isCell none) :: (c7, isCell none) :: (c8, isCell none) :: (c9, isCell none) :: (pl, isList (ps.reverse.map fun e => .ref e.1)) :: (ps.map ent2 ++ l)) := by
  refine (show T b A (execs (_ :: (lawB b.w.params).drop 7) (envX _ ⟨_, _, _, _, _⟩ _ _ _ _)) _ _ from ?_)
  walk_at "1"
  refine T.asgN ?_
  refine T.compES (scF [(".0", .local), ("x", .cell), ("range", .globalImplicit), ("places", .cell), ("size", .cell), ("voters", .cell)]) [("voters", c3), ("size", c2), ("places", c4)] (by kernel_rfl!) (by kernel_rfl!) rfl (by decide) ?_
  walk_at "go"
  refine T.range1 fun r => ?_
  refine T.iterRange (n := n) (.head _) (small_of (by omega) (by omega) (.inl rfl)) (size_up rfl) fun it => ?_
  refine ⟨it, _, _, _, _, fun k ys lj => ∃ rows : List (Addr × Nat), lj = (L, isNs m) :: (c2, isCell (some (.int n t2))) :: (c3, isCell (some (.int vt t3))) :: (c4, isCell (some (.ref pl))) :: (c5, isCell none) :: (c6, isCell none) :: (c7, isCell none) :: (c8, isCell none) :: (c9, isCell none) :: (pl, isList (ps.reverse.map fun e => .ref e.1)) :: rows.map (entB (aheadM (ps.map (·.2)) vt) n) ∧ ys = rows.reverse.map (fun e => Value.ref e.1) ∧ rows.map (·.2) = (List.range k).reverse, _, ps.map ent2 ++ l, rfl, It.range (a := 0) (c := 1) (n := n) hA.hh, fun _ _ _ _ _ _ h => wpAny_pure h, ?_, ⟨[], rfl, rfl, by simp⟩, ?_, ?_, ?_, ?_, ?_⟩
  · simp only [List.map_nil, List.cons_append, List.nil_append]
    walk_at "pick"
  · have : sizeLine = 2 ^ 24 := rfl; omega
  · intros; trivial
  · rintro i ys lj ⟨rows, rfl, rfl, hr⟩
    have := congrArg List.length hr
    simp at this
    simp; omega
  · rintro C Dd cs mC x w ys lj hcs hx ⟨tx, rfl⟩ ⟨rows, rfl, rfl, hr⟩
    obtain rfl : cs = [(Str.ofString "x", C + 1)] := hcs.trans (by rfl)
    simp only [someCells, List.map_cons, List.map_nil, List.nil_append, List.cons_append]
    rw [show (0 : Int) + (x : Int) * 1 = x by omega]
    walk_at "go"
    refine ifsT.none ?_
    refine T.wk ?_
    refine T.compES (scF [(".0", .local), ("y", .cell), ("len", .globalImplicit), ("places", .cell), ("voters", .cell), ("x", .cell)]) [("x", C + 1), ("voters", c3), ("places", c4)] (by kernel_rfl!) (by kernel_rfl!) rfl (by decide) ?_
    walk_at "go"
    refine T.range1 fun r2 => ?_
    refine T.iterRange (n := n) (.head _) (small_of (by omega) (by omega) (.inl rfl)) (size_up rfl) fun it2 => ?_
    refine ⟨it2, _, _, _, _, fun k ys lj => lj = [] ∧ ys = (List.range k).map fun y => Value.bool (aheadM (ps.map (·.2)) vt x y), [], _, rfl, It.range (a := 0) (c := 1) (n := n) hA.hh, fun _ _ _ _ _ _ h => wpAny_pure h, .refl, ⟨rfl, rfl⟩, ?_, ?_, ?_, ?_, ?_⟩
    · have : sizeLine = 2 ^ 24 := rfl; omega
    · intros; trivial
    · rintro i ys lj ⟨-, rfl⟩; simp
    · rintro C' D' cs mC' y w ys' lj hcs hy ⟨ty, rfl⟩ ⟨rfl, rfl⟩
      obtain rfl : cs = [(Str.ofString "y", C' + 1)] := hcs.trans (by rfl)
      simp only [someCells, List.map_cons, List.map_nil, List.nil_append, List.cons_append]
      rw [show (0 : Int) + (y : Int) * 1 = y by omega]
      walk_at "go"
      refine ifsT.none ?_
      refine T.wk ?_
      walk_at "go"
      refine T.compES (scF [(".0", .local), ("place", .local), ("x", .cell), ("y", .cell)]) [("y", C' + 1), ("x", C + 1)] (by kernel_rfl!) (by kernel_rfl!) rfl (by decide) ?_
      walk_at "go"
      refine T.iterList (by walk_at "mem") fun it3 => ?_
      refine ⟨it3, _, _, _, _, fun k ys lj => lj = [] ∧ ys.length = cntLt ((ps.reverse.take k).map (·.2)) x y, [], _, rfl, It.list hA.hh (x := pl) (xs := ps.reverse.map fun e => .ref e.1), fun _ _ _ _ _ _ h => wpAny_pure h, .refl, ⟨rfl, by simp [cntLt]⟩, ?_, ?_, ?_, ?_, ?_⟩
      · simp; have : sizeLine = 2 ^ 24 := rfl; omega
      · rintro i ys lj h' hi ⟨rfl, -⟩ H
        exact H.list (by walk_at "mem")
      · rintro i ys lj ⟨-, e⟩
        rw [e]; unfold cntLt
        refine Nat.le_trans (List.length_filter_le _ _) ?_
        simp; omega
      · rintro C3 D3 cs mC3 k w ys' lj hcs hk hw ⟨rfl, hyl⟩
        obtain rfl : cs = [] := hcs.trans (by rfl)
        simp only [someCells, List.map_nil, List.nil_append]
        rw [List.getElem?_map] at hw
        obtain ⟨e, he, rfl⟩ := Option.map_eq_some_iff.mp hw
        have hem : e ∈ ps := List.mem_reverse.mp (List.mem_of_getElem? he)
        have hme : (e.1, isInts e.2) ∈ rows.map (entB (aheadM (ps.map (·.2)) vt) n) ++ (ps.map ent2 ++ l) := List.mem_append_right _ (List.mem_append_left _ (List.mem_map_of_mem (f := ent2) hem))
        have hel := hps e hem
        have htk : (ps.reverse.take (k + 1)).map (·.2) = (ps.reverse.take k).map (·.2) ++ [e.2] := by rw [List.take_add_one, he]; simp
        have hstep : cntLt ((ps.reverse.take (k + 1)).map (·.2)) x y = cntLt ((ps.reverse.take k).map (·.2)) x y + if e.2.getD x 0 < e.2.getD y 0 then 1 else 0 := by
          rw [htk]; unfold cntLt; rw [List.filter_append, List.length_append]
          rw [List.filter_cons, List.filter_nil]
          by_cases q : e.2.getD x 0 < e.2.getD y 0
          · rw [if_pos (decide_eq_true q), if_pos q]; rfl
          · rw [if_neg (by rw [decide_eq_false q]; decide), if_neg q]; rfl
        walk_at "go"
        refine ifsT.one ?_
        walk_at "go"
        refine T.itemI (i := e.2.getD x 0) (by walk_at "mm") (by omega) (by omega) (by simpa using getD_some hel hx) fun t => ?_
        walk_at "go"
        refine T.itemI (i := e.2.getD y 0) (by walk_at "mm") (by omega) (by omega) (by simpa using getD_some hel hy) fun t => ?_
        walk_at "go"
        by_cases q : e.2.getD x 0 < e.2.getD y 0
        · rw [if_pos (decide_eq_true q)]
          walk_at "go"
          refine ⟨[], _, by walk_at "pick", rfl, ?_⟩
          rw [hstep, if_pos q, ← hyl]; simp
        · rw [if_neg (by simpa using q)]
          refine ⟨[], _, by walk_at "pick", rfl, ?_⟩
          rw [hstep, if_neg q, hyl]; simp
      · rintro D3 ys' lj ⟨rfl, hyl⟩
        dsimp only
        simp only [List.nil_append]
        rw [List.take_of_length_le (by simp)] at hyl
        have hcr : cntLt (ps.reverse.map (·.2)) x y = cntLt (ps.map (·.2)) x y := by
          unfold cntLt; rw [List.map_reverse, List.filter_reverse, List.length_reverse]
        rw [hcr] at hyl
        have hc5 : cntLt (ps.map (·.2)) x y ≤ 5 := by
          unfold cntLt; refine Nat.le_trans (List.length_filter_le _ _) ?_; simp; omega
        walk_at "go"
        refine T.lenL (.head _) (by omega) fun t => ?_
        walk_at "go"
        refine T.mul (.of_right (by decide)) fun t => ?_
        walk_at "go"
        rw [hyl]
        refine ⟨_, fun _ _ H => H.weaken (a := C' + 1) (p' := fun o => ∃ v, isCell v o) (by walk_at "rep") (fun o ho => ⟨_, ho⟩), [], _, by walk_at "pick", rfl, ?_⟩
        rw [List.range_succ, List.map_append]; rfl
    · rintro D' ys' lj ⟨rfl, rfl⟩
      dsimp only
      simp only [List.nil_append]
      refine ⟨_, fun _ _ H => H.weaken (a := C + 1) (p' := fun o => ∃ v, isCell v o) (by walk_at "rep") (fun o ho => ⟨_, ho⟩), (L, isNs m) :: (c2, isCell (some (.int n t2))) :: (c3, isCell (some (.int vt t3))) :: (c4, isCell (some (.ref pl))) :: (c5, isCell none) :: (c6, isCell none) :: (c7, isCell none) :: (c8, isCell none) :: (c9, isCell none) :: (pl, isList (ps.reverse.map fun e => .ref e.1)) :: (D', isList (boolRow (aheadM (ps.map (·.2)) vt) n x)) :: rows.map (entB (aheadM (ps.map (·.2)) vt) n), _, by walk_at "pick", (D', x) :: rows, rfl, by simp, ?_⟩
      rw [List.range_succ]; simp [hr]
  · rintro Dd ys lj ⟨rows, rfl, rfl, hr⟩
    dsimp only
    simp only [List.cons_append]
    walk_at "go"
    refine T.pick (t := (L, isNs m) :: (c2, isCell (some (.int n t2))) :: (c3, isCell (some (.int vt t3))) :: (c4, isCell (some (.ref pl))) :: (c5, isCell (some (.ref Dd))) :: (c6, isCell none) :: (c7, isCell none) :: (c8, isCell none) :: (c9, isCell none) :: (pl, isList (ps.reverse.map fun e => .ref e.1)) :: (Dd, isList (rows.reverse.map fun e => .ref e.1)) :: (rows.map (entB (aheadM (ps.map (·.2)) vt) n) ++ (ps.map ent2 ++ l))) ?_ (by walk_at "pick")
    exact h Dd rows hr
end

theorem Pick.mid : ∀ {X E l : Led}, Pick (X ++ l) (X ++ (E ++ l))
  | [], _, _ => .skip .refl _
  | _ :: _, _, _ => .cons .head .mid
def diffs (P : List (List Int)) (x y : Nat) : List Int := P.map fun p => p.getD x 0 - p.getD y 0
def MedOf (D : List Int) (v : Int) : Prop := ∃ ns' : List Int, ns'.Perm D ∧ ns'.Pairwise (fun x y => x ≤ y) ∧ ns'[D.length / 2]? = some v
def RowOk (P : List (List Int)) (n x : Nat) (row : List Int) : Prop := row.length = n ∧ ∀ y, y < n → MedOf (diffs P x y) (row.getD y 0)
section
variable {b : Bs} {A : Around} {l : Led} {n d : Nat} {c2 c3 c4 c5 c6 c7 c8 c9 L fa : Addr}
set_option maxHeartbeats 8000000 in
theorem law5 {c1 : Addr} {m : Str → Option Value} {n vt : Nat} {t2 : Tok} {v3 : Option Value} {pl al : Addr} {ps : List (Addr × List Int)} {Q : Flow → Led → Prop} (hA : Ok A (d + 8)) (hn3 : 3 ≤ n) (hn5 : n ≤ 5) (hv2 : vt = 3 ∨ vt = 5) (hpl : ps.length = vt) (hps : ∀ e ∈ ps, e.2.length = n)
    (h : ∀ tl (tb : List (Addr × List Int)), tb.length = n → (∀ (x : Nat) e, tb.reverse[x]? = some e → RowOk (ps.reverse.map (·.2)) n x e.2) →
      T b A (execs ((lawB b.w.params).drop 8) (lawEnv b L fa (cs9 c1 c2 c3 c4 c5 c6 c7 c8 c9))) Q ((L, isNs m) :: (c2, isCell (some (.int n t2))) :: (c5, isCell (some (.ref al))) :: (c6, isCell none) :: (c7, isCell none) :: (c8, isCell none) :: (c9, isCell (some (.ref tl))) :: (tl, isList (tb.reverse.map fun e => .ref e.1)) :: (tb.map ent2 ++ l))) :
    T b A (execs ((lawB b.w.params).drop 7) (lawEnv b L fa (cs9 c1 c2 c3 c4 c5 c6 c7 c8 c9))) Q ((L, isNs m) :: (c2, isCell (some (.int n t2))) :: (c4, isCell (some (.ref pl))) :: (c5, isCell (some (.ref al))) :: (c6, isCell none) :: (c7, isCell none) :: (c8, isCell none) :: (c9, isCell none) :: (pl, isList (ps.reverse.map fun e => .ref e.1)) :: (ps.map ent2 ++ l)) := by
  refine (show T b A (execs (_ :: (lawB b.w.params).drop 8) (envX _ ⟨_, _, _, _, _⟩ _ _ _ _)) _ _ from ?_)
  walk_at "1"
  refine T.asgN ?_
  refine T.compES (scF [(".0", .local), ("x", .cell), ("range", .globalImplicit), ("places", .cell), ("size", .cell)]) [("size", c2), ("places", c4)] (by kernel_rfl!) (by kernel_rfl!) rfl (by decide) ?_
  walk_at "go"
  refine T.range1 fun r => ?_
  refine T.iterRange (n := n) (.head _) (small_of (by omega) (by omega) (.inl rfl)) (size_up rfl) fun it => ?_
  refine ⟨it, _, _, _, _, fun k ys lj => ∃ tb : List (Addr × List Int), lj = (L, isNs m) :: (c2, isCell (some (.int n t2))) :: (c4, isCell (some (.ref pl))) :: (c5, isCell (some (.ref al))) :: (c6, isCell none) :: (c7, isCell none) :: (c8, isCell none) :: (c9, isCell none) :: (pl, isList (ps.reverse.map fun e => .ref e.1)) :: tb.map ent2 ∧ ys = tb.reverse.map (fun e => Value.ref e.1) ∧ tb.length = k ∧ ∀ (x : Nat) e, tb.reverse[x]? = some e → RowOk (ps.reverse.map (·.2)) n x e.2, _, ps.map ent2 ++ l, rfl, It.range (a := 0) (c := 1) (n := n) hA.hh, fun _ _ _ _ _ _ h => wpAny_pure h, ?_, ⟨[], rfl, rfl, rfl, by simp⟩, ?_, ?_, ?_, ?_, ?_⟩
  · simp only [List.map_nil, List.cons_append, List.nil_append]
    walk_at "pick"
  · have : sizeLine = 2 ^ 24 := rfl; omega
  · intros; trivial
  · rintro i ys lj ⟨tb, rfl, rfl, rfl, -⟩; simp
  · rintro C Dd cs mC x w ys lj hcs hx ⟨tx, rfl⟩ ⟨tb, rfl, rfl, htl, htb⟩
    obtain rfl : cs = [(Str.ofString "x", C + 1)] := hcs.trans (by rfl)
    simp only [someCells, List.map_cons, List.map_nil, List.nil_append, List.cons_append]
    rw [show (0 : Int) + (x : Int) * 1 = x by omega]
    walk_at "go"
    refine ifsT.none ?_
    refine T.wk ?_
    refine T.compES (scF [(".0", .local), ("y", .cell), ("median_low", .globalImplicit), ("places", .cell), ("x", .cell)]) [("x", C + 1), ("places", c4)] (by kernel_rfl!) (by kernel_rfl!) rfl (by decide) ?_
    walk_at "go"
    refine T.range1 fun r2 => ?_
    refine T.iterRange (n := n) (.head _) (small_of (by omega) (by omega) (.inl rfl)) (size_up rfl) fun it2 => ?_
    refine ⟨it2, _, _, _, _, fun k ys lj => lj = [] ∧ ∃ zs : List Int, IntsAre ys zs ∧ zs.length = k ∧ ∀ y, y < k → MedOf (diffs (ps.reverse.map (·.2)) x y) (zs.getD y 0), [], _, rfl, It.range (a := 0) (c := 1) (n := n) hA.hh, fun _ _ _ _ _ _ h => wpAny_pure h, .refl, ⟨rfl, [], .nil, rfl, fun y hy => absurd hy (Nat.not_lt_zero _)⟩, ?_, ?_, ?_, ?_, ?_⟩
    · have : sizeLine = 2 ^ 24 := rfl; omega
    · intros; trivial
    · rintro i ys lj ⟨-, zs, hz, hzl, -⟩
      rw [hz.length, hzl]; exact Nat.le_refl _
    · rintro C' D' cs mC' y w ys' lj hcs hy ⟨ty, rfl⟩ ⟨rfl, zs, hz, hzl, hzm⟩
      obtain rfl : cs = [(Str.ofString "y", C' + 1)] := hcs.trans (by rfl)
      simp only [someCells, List.map_cons, List.map_nil, List.nil_append, List.cons_append]
      rw [show (0 : Int) + (y : Int) * 1 = y by omega]
      walk_at "go"
      refine ifsT.none ?_
      refine T.wk ?_
      walk_at "go"
      walk_at "K"
      walk_at "go"
      refine T.compES (scF [(".0", .local), ("place", .local), ("x", .cell), ("y", .cell)]) [("y", C' + 1), ("x", C + 1)] (by kernel_rfl!) (by kernel_rfl!) rfl (by decide) ?_
      walk_at "go"
      refine T.iterList (by walk_at "mem") fun it3 => ?_
      refine ⟨it3, _, _, _, _, fun k ys lj => lj = [] ∧ IntsAre ys (diffs ((ps.reverse.take k).map (·.2)) x y) ∧ ys.length ≤ k, [], _, rfl, It.list hA.hh (x := pl) (xs := ps.reverse.map fun e => .ref e.1), fun _ _ _ _ _ _ h => wpAny_pure h, .refl, ⟨rfl, .nil, Nat.le_refl _⟩, ?_, ?_, ?_, ?_, ?_⟩
      · simp; have : sizeLine = 2 ^ 24 := rfl; omega
      · rintro i ys lj h' hi ⟨rfl, -⟩ H
        exact H.list (by walk_at "mem")
      · exact fun i ys lj x => x.2.2
      · rintro C3 D3 cs mC3 k w ys' lj hcs hk hw ⟨rfl, hyz, hyl⟩
        obtain rfl : cs = [] := hcs.trans (by rfl)
        simp only [someCells, List.map_nil, List.nil_append]
        rw [List.getElem?_map] at hw
        obtain ⟨e, he, rfl⟩ := Option.map_eq_some_iff.mp hw
        have hem : e ∈ ps := List.mem_reverse.mp (List.mem_of_getElem? he)
        have hme : (e.1, isInts e.2) ∈ tb.map ent2 ++ (ps.map ent2 ++ l) := List.mem_append_right _ (List.mem_append_left _ (List.mem_map_of_mem (f := ent2) hem))
        have hel := hps e hem
        walk_at "go"
        refine ifsT.none ?_
        walk_at "go"
        refine T.itemI (i := e.2.getD x 0) (by walk_at "mm") (by omega) (by omega) (by simpa using getD_some hel hx) fun t => ?_
        walk_at "go"
        refine T.itemI (i := e.2.getD y 0) (by walk_at "mm") (by omega) (by omega) (by simpa using getD_some hel hy) fun t => ?_
        walk_at "go"
        refine ⟨[], _, by walk_at "pick", rfl, ?_, by simp; omega⟩
        rw [List.take_add_one, he]
        unfold diffs
        rw [List.map_append, List.map_append]
        exact hyz.append (.cons _ _ .nil)
      · rintro D3 ys' lj ⟨rfl, hyz, -⟩
        dsimp only
        simp only [List.nil_append]
        rw [List.take_of_length_le (by simp)] at hyz
        refine T.weak (a := D3) (p' := isInts (diffs (ps.reverse.map (·.2)) x y)) .head (fun o ho => ⟨_, hyz, ho⟩) ?_
        walk_at "go"
        have hdl : (diffs (ps.reverse.map (·.2)) x y).length = 2 * (vt / 2) + 1 := by
          unfold diffs; simp; omega
        refine medianT (d := d + 7) (k := vt / 2) hA (.head _) hdl (by omega) fun v t ns' h1 h2 h3 => ?_
        refine ⟨_, fun _ _ H => H.weaken (a := C' + 1) (p' := fun o => ∃ v, isCell v o) (by walk_at "rep") (fun o ho => ⟨_, ho⟩), [], _, by walk_at "pick", rfl, zs ++ [v], hz.append (.cons _ _ .nil), by simp [hzl], fun y' hy' => ?_⟩
        by_cases q : y' < y
        · have := hzm y' q
          rwa [List.getD_eq_getElem?_getD, List.getElem?_append_left (by omega), ← List.getD_eq_getElem?_getD]
        · obtain rfl : y' = y := by omega
          rw [List.getD_eq_getElem?_getD, List.getElem?_append_right (by omega), hzl, Nat.sub_self]
          exact ⟨ns', h1, h2, by rw [show (diffs (ps.reverse.map (·.2)) x y').length / 2 = vt / 2 by omega]; exact h3⟩
    · rintro D' ys' lj ⟨rfl, zs, hz, hzl, hzm⟩
      dsimp only
      simp only [List.nil_append]
      refine ⟨_, fun _ _ H => (H.weaken (p' := isInts zs) .head (fun o ho => ⟨_, hz, ho⟩)).weaken (a := C + 1) (p' := fun o => ∃ v, isCell v o) (by walk_at "rep") (fun o ho => ⟨_, ho⟩), (L, isNs m) :: (c2, isCell (some (.int n t2))) :: (c4, isCell (some (.ref pl))) :: (c5, isCell (some (.ref al))) :: (c6, isCell none) :: (c7, isCell none) :: (c8, isCell none) :: (c9, isCell none) :: (pl, isList (ps.reverse.map fun e => .ref e.1)) :: (D', isInts zs) :: tb.map ent2, _, by walk_at "pick", (D', zs) :: tb, rfl, by simp, by simp [htl], fun x' e he => ?_⟩
      rw [List.reverse_cons] at he
      by_cases q : x' < x
      · rw [List.getElem?_append_left (by simp; omega)] at he
        exact htb x' e he
      · rw [List.getElem?_append_right (by simp; omega)] at he
        have h0 : x' - tb.reverse.length = 0 := by
          rcases Nat.eq_zero_or_pos (x' - tb.reverse.length) with h0 | h0
          · exact h0
          · rw [List.getElem?_eq_none (by show 1 ≤ _; omega)] at he; cases he
        rw [h0] at he
        cases he
        have : x' = x := by simp at h0; omega
        subst this
        exact ⟨hzl, hzm⟩
  · rintro Dd ys lj ⟨tb, rfl, rfl, htl, htb⟩
    dsimp only
    simp only [List.cons_append]
    walk_at "go"
    refine T.pick (t := (L, isNs m) :: (c2, isCell (some (.int n t2))) :: (c5, isCell (some (.ref al))) :: (c6, isCell none) :: (c7, isCell none) :: (c8, isCell none) :: (c9, isCell (some (.ref Dd))) :: (Dd, isList (tb.reverse.map fun e => .ref e.1)) :: (tb.map ent2 ++ l)) ?_ (.cons (.tail .head) (.cons (.tail .head) (.cons (.tail (.tail .head)) (.cons (.tail (.tail .head)) (.cons (.tail (.tail .head)) (.cons (.tail (.tail .head)) (.cons (.tail (.tail .head)) (.cons .head (.drop (.drop .mid))))))))))
    exact h Dd tb htl htb
end

def tabF (tb : List (Addr × List Int)) (x y : Nat) : Int := (tb.reverse.getD x (0, [])).2.getD y 0
abbrev KEnt := Addr × Addr × Nat × Tok
def kLed (C : Addr) : List KEnt → Led
  | [] => []
  | e :: r => (e.1, isO (slotObj C e.2.1 [.int (e.2.2.1 : Nat) e.2.2.2])) :: (e.2.1, isO emptyDict) :: kLed C r
theorem kLed_mem {C : Addr} {e : KEnt} : ∀ {ks : List KEnt}, e ∈ ks → (e.1, isO (slotObj C e.2.1 [.int (e.2.2.1 : Nat) e.2.2.2])) ∈ kLed C ks ∧ (e.2.1, isO emptyDict) ∈ kLed C ks
  | _ :: _, .head _ => ⟨.head _, .tail _ (.head _)⟩
  | _ :: _, .tail _ h => ⟨.tail _ (.tail _ (kLed_mem h).1), .tail _ (.tail _ (kLed_mem h).2)⟩
theorem Pick.hop {R E l : Led} : Pick (R ++ (E ++ l)) (E ++ (R ++ l)) := .perm (by
  rw [← List.append_assoc, ← List.append_assoc]
  exact List.Perm.append_right _ List.perm_append_comm) .refl
namespace T
section
variable {b : Bs} {A : Around} {l l' : Led} {n : Nat}
theorem enterLF {name qual : Str} {params : Arguments} {body : Expr} {scope : Scope} {clos : List (Str × Addr)} {pm ctv : Value} {c' f : Addr} {args : List Value} {binds : List (Str × Value)} {Q : Value → Led → Prop}
    (hA : Ok A (n + 1)) (hf : (f, isFun (kla_fn name qual params body scope clos pm (.ref c') ctv)) ∈ l) (hc : (c', isRec qual) ∈ l)
    (hbind : bindArgs (kla_fn name qual params body scope clos pm (.ref c') ctv) ⟨args, []⟩ = pure binds) (hloc : (binds.all fun x => decide (scope.names.lookup x.1 = some .local)) = true)
    (h : ∀ L, T b (A.deeper (envX qual scope L f (.ref c') clos)) (eval body (envX qual scope L f (.ref c') clos)) (fun v => Out (Q v)) ((L, isNs (ofB binds)) :: l))
    (hcell : ∀ x ∈ scope.names, x.2 ≠ .cell := by decide) (hco : scope.isCoroutine = false := by k_dflt rfl) (hgen : scope.isGenerator = false := by k_dflt rfl) (hk : scope.kind = .function := by k_dflt rfl) :
    T b A (call (.ref f) args) Q l := ofTK fun s I => by
  obtain ⟨o, e, oc, od, sl, rfl⟩ := I.st.get hf
  refine kla_callFunE hA.room e rfl hco hgen rfl (codeRecOf I.st hc) ?_
  rw [hbind]
  refine wpAny_pure (wpAny_newFunctionEnv hcell (locs hloc) (fun h₁ hns hsb => ⟨(b.B.nolimit.keeps I.st.keep).fresh _ hsb, ?_⟩) hk)
  have hk₁ : ∀ b o, s.heap.get? b = some o → h₁.get? b = some o := fun b o e => hsb.extBut b o (Nat.ne_of_lt (Heap.lt_size e)) (Heap.get?_push_of_some _ e)
  show codeAny _ _ (.expr body (envX qual scope s.heap.objs.size f (.ref c') clos)) _ _
  exact kla_codeExpr ((h _).to (I.up (I.st.newNs hns hk₁)) fun v s' l' I' ⟨t, x, h'⟩ => ⟨t, I'.pick x, h'⟩)
end
end T
/-- the two-place function of ints below n that g is over the ledger l -/
def ActsN (b : Bs) (g : Addr) (n : Nat) (F : Nat → Nat → Int) (d : Nat) (l : Led) : Prop :=
  ∀ (A' : Around) (l₁ : Led) (x y : Nat) (t t' : Tok) (Q : Value → Led → Prop), Ok A' d → (∀ p ∈ l, p ∈ l₁) → x < n → y < n → (∀ t, Q (.int (F x y) t) l₁) → T b A' (call (.ref g) [.int (x : Int) t, .int (y : Int) t']) Q l₁
section
variable {b : Bs} {A : Around} {l : Led} {n d : Nat} {c2 c3 c4 c5 c6 c7 c8 c9 L fa : Addr}
set_option maxHeartbeats 8000000 in
theorem law6 {c1 : Addr} {m : Str → Option Value} {n : Nat} {tl : Addr} {tb : List (Addr × List Int)} {Q : Flow → Led → Prop} (hA : Ok A (d + 8)) (hn5 : n ≤ 5) (hbl : tb.length = n) (hrl : ∀ e ∈ tb, e.2.length = n)
    (h : ∀ g gd (k : KPk) (X : Led), KPk.Good b g k → (∀ p ∈ k.led g, p ∈ X) → (g, isFun gd) ∈ X → (∃ u, (43, isPT u) ∈ X) → (∀ l' : Led, (∀ p ∈ X, p ∈ l') → (tl, isList (tb.reverse.map fun e => .ref e.1)) ∈ l' → (∀ e ∈ tb, (e.1, isInts e.2) ∈ l') → ActsN b g n (tabF tb) (d + 5) l') →
      T b A (execs ((lawB b.w.params).drop 9) (lawEnv b L fa (cs9 c1 c2 c3 c4 c5 c6 c7 c8 c9))) Q ((L, isNs m) :: (c6, isCell (some (.ref k.C))) :: (200, isPT [(216, 21)]) :: (X ++ l))) :
    T b A (execs ((lawB b.w.params).drop 8) (lawEnv b L fa (cs9 c1 c2 c3 c4 c5 c6 c7 c8 c9))) Q ((L, isNs m) :: (c6, isCell none) :: (c9, isCell (some (.ref tl))) :: (43, isPT []) :: (200, isPT []) :: l) := by
  refine (show T b A (execs (_ :: (lawB b.w.params).drop 9) (envX _ ⟨_, _, _, _, _⟩ _ _ _ _)) _ _ from ?_)
  walk_at "1"
  refine T.asgN ?_
  walk_at "go"
  walk_at "K"
  walk_at "go"
  refine T.lam rfl ?_
  refine T.mkLamP (P := 200) (c := 202) (clos := [("table", c9)]) (by kernel_rfl!) rfl rfl b.B.code202 (by decide) (by walk_at "rep") (by decide) fun g cg ctg => ?_
  walk_at "go"
  refine T.weak (a := g) (p' := isFun _) .head (fun o e => ⟨_, _, _, e⟩) ?_
  refine T.pick (t := (43, isPT []) :: (L, isNs m) :: (c6, isCell none) :: (200, isPT _) :: (c9, isCell (some (.ref tl))) :: (g, isFun _) :: (cg, isRec _) :: l) ?_ (by walk_at "pick")
  refine keyT (d := d + 7) hA fun k used hk => ?_
  refine T.pick (t := (43, isPT used) :: (L, isNs m) :: (c6, isCell none) :: (200, isPT _) :: (c9, isCell (some (.ref tl))) :: (g, isFun _) :: (cg, isRec _) :: (k.led g ++ l)) ?_ (Pick.hop (R := [(43, isPT used), (L, isNs m), (c6, isCell none), (200, isPT _), (c9, isCell (some (.ref tl))), (g, isFun _), (cg, isRec _)]) (E := k.led g))
  walk_at "go"
  refine T.pick (t := (L, isNs m) :: (c6, isCell (some (.ref k.C))) :: (200, isPT [(216, 21)]) :: (43, isPT used) :: (c9, isCell (some (.ref tl))) :: (g, isFun _) :: (cg, isRec _) :: (k.led g ++ l)) ?_ (by walk_at "pick")
  refine h g _ k ((43, isPT used) :: (c9, isCell (some (.ref tl))) :: (g, isFun _) :: (cg, isRec _) :: k.led g) hk (fun p hp => .tail _ (.tail _ (.tail _ (.tail _ hp)))) (.tail _ (.tail _ (.head _))) ⟨_, .head _⟩ ?_
  intro l' hX htl htb A' l₁ x y t t' Q' hA' hl hx hy hq
  refine T.enterLF (binds := [("x", .int x t), ("y", .int y t')]) hA' (hl _ (hX _ (.tail _ (.tail _ (.head _))))) (hl _ (hX _ (.tail _ (.tail _ (.tail _ (.head _)))))) rfl rfl (fun L' => ?_)
  have hc9 := hl _ (hX _ (.tail _ (.head _)))
  obtain ⟨e, he⟩ : ∃ e, tb.reverse[x]? = some e := ⟨_, List.getElem?_eq_getElem (by simp; omega)⟩
  have hem : e ∈ tb := List.mem_reverse.mp (List.mem_of_getElem? he)
  have htl' := hl _ htl
  have hte := hl _ (htb e hem)
  walk_at "go"
  refine T.nmF (by exact rfl) (by exact rfl) (.tail _ hc9) ?_
  walk_at "go"
  refine T.item (xs := tb.reverse.map fun e => .ref e.1) (v := .ref e.1) (.tail _ htl') (by omega) (by omega) (by rw [List.getElem?_map]; simp [he]) ?_
  walk_at "go"
  refine T.itemI (i := tabF tb x y) (.tail _ hte) (by omega) (by omega) ?_ fun t => ?_
  · have := getD_some (hrl e hem) hy
    unfold tabF
    rw [List.getD_eq_getElem?_getD (l := tb.reverse), he]
    simpa using this
  · exact ⟨l₁, by walk_at "pick", hq t⟩
end

/-- the keys that the law has made -/
structure Keys (b : Bs) (g : Addr) (gd : FuncData) (k : KPk) (n : Nat) (tb : List (Addr × List Int)) (c8 kl : Addr) (ks : List KEnt) (d : Nat) (l : Led) : Prop where
  good : KPk.Good b g k
  m : ∀ p ∈ k.led g, p ∈ l
  f : (g, isFun gd) ∈ l
  c : (c8, isCell (some (.ref kl))) ∈ l
  lst : (kl, isList (ks.reverse.map fun e => .ref e.1)) ∈ l
  ent : ∀ e ∈ ks, (e.1, isO (slotObj k.C e.2.1 [.int (e.2.2.1 : Nat) e.2.2.2])) ∈ l ∧ (e.2.1, isO emptyDict) ∈ l
  idx : ks.map (fun e => e.2.2.1) = (List.range n).reverse
  act : ActsN b g n (tabF tb) (d + 5) l
theorem Keys.at {b : Bs} {g : Addr} {gd : FuncData} {k : KPk} {n : Nat} {tb : List (Addr × List Int)} {c8 kl : Addr} {ks : List KEnt} {d : Nat} {l : Led} (K : Keys b g gd k n tb c8 kl ks d l) {x : Nat} (hx : x < n) : ∃ e ∈ ks, e.2.2.1 = x ∧ (ks.reverse.map fun e => Value.ref e.1)[x]? = some (.ref e.1) := by
  have h1 : ks.reverse.map (fun e => e.2.2.1) = List.range n := by rw [List.map_reverse, K.idx, List.reverse_reverse]
  have h2 : (ks.reverse.map (fun e => e.2.2.1))[x]? = some x := by rw [h1, List.getElem?_range hx]
  rw [List.getElem?_map] at h2
  obtain ⟨e, he, hi⟩ := Option.map_eq_some_iff.mp h2
  exact ⟨e, List.mem_reverse.mp (List.mem_of_getElem? he), hi, by rw [List.getElem?_map, he]; rfl⟩
theorem Keys.up {b : Bs} {g : Addr} {gd : FuncData} {k : KPk} {n : Nat} {tb : List (Addr × List Int)} {c8 kl : Addr} {ks : List KEnt} {d : Nat} {l l' : Led} (K : Keys b g gd k n tb c8 kl ks d l) (h : ∀ p ∈ l, p ∈ l') : Keys b g gd k n tb c8 kl ks d l' :=
  ⟨K.good, fun p hp => h _ (K.m p hp), h _ K.f, h _ K.c, h _ K.lst, fun e he => ⟨h _ (K.ent e he).1, h _ (K.ent e he).2⟩, K.idx, fun A' l₁ x y t t' Q hA hl => K.act A' l₁ x y t t' Q hA fun p hp => hl _ (h _ hp)⟩
theorem Keys.cmps {b : Bs} {g : Addr} {gd : FuncData} {k : KPk} {n : Nat} {tb : List (Addr × List Int)} {c8 kl : Addr} {ks : List KEnt} {d : Nat} {l : Led} (K : Keys b g gd k n tb c8 kl ks d l) {e e' : KEnt} (he : e ∈ ks) (he' : e' ∈ ks) (hx : e.2.2.1 < n) (hy : e'.2.2.1 < n) :
    KPk.Cmps b g k l e.1 e.2.1 e'.1 e'.2.1 (.int (e.2.2.1 : Nat) e.2.2.2) (.int (e'.2.2.1 : Nat) e'.2.2.2) gd (d + 5) (tabF tb e.2.2.1 e'.2.2.1) :=
  ⟨K.m, K.f, (K.ent e he).1, (K.ent e he).2, (K.ent e' he').1, (K.ent e' he').2, rfl, rfl, fun A' l₁ Q' hA hl hq => K.act A' l₁ _ _ _ _ Q' hA hl hx hy hq⟩
section
variable {b : Bs} {A : Around} {l : Led} {n d : Nat} {c2 c3 c4 c5 c6 c7 c8 c9 L fa : Addr}
set_option maxHeartbeats 8000000 in
theorem law7 {c1 : Addr} {m : Str → Option Value} {n : Nat} {t2 : Tok} {tb : List (Addr × List Int)} {g : Addr} {gd : FuncData} {k : KPk} {Q : Flow → Led → Prop} (hA : Ok A (d + 8)) (hn5 : n ≤ 5) (hk : KPk.Good b g k) (hkm : ∀ p ∈ k.led g, p ∈ l) 
    (h : ∀ kl ks (X : Led), (∀ l' : Led, (∀ p ∈ X, p ∈ l') → (∀ p ∈ k.led g, p ∈ l') → (g, isFun gd) ∈ l' → ActsN b g n (tabF tb) (d + 5) l' → Keys b g gd k n tb c8 kl ks d l') →
      T b A (execs ((lawB b.w.params).drop 10) (lawEnv b L fa (cs9 c1 c2 c3 c4 c5 c6 c7 c8 c9))) Q ((L, isNs m) :: (c2, isCell (some (.int n t2))) :: (200, isPT [(216, 21)]) :: (X ++ l))) :
    T b A (execs ((lawB b.w.params).drop 9) (lawEnv b L fa (cs9 c1 c2 c3 c4 c5 c6 c7 c8 c9))) Q ((L, isNs m) :: (c2, isCell (some (.int n t2))) :: (c6, isCell (some (.ref k.C))) :: (c8, isCell none) :: (200, isPT [(216, 21)]) :: l) := by
  refine (show T b A (execs (_ :: (lawB b.w.params).drop 10) (envX _ ⟨_, _, _, _, _⟩ _ _ _ _)) _ _ from ?_)
  walk_at "1"
  refine T.asgN ?_
  refine T.compES (scF [(".0", .local), ("x", .local), ("key", .cell)]) [("key", c6)] (by kernel_rfl!) (by kernel_rfl!) rfl (by decide) ?_
  walk_at "go"
  refine T.range1 fun r => ?_
  refine T.iterRange (n := n) (.head _) (small_of (by omega) (by omega) (.inl rfl)) (size_up rfl) fun it => ?_
  refine ⟨it, _, _, _, _, fun i ys lj => ∃ ks : List KEnt, lj = (L, isNs m) :: (c2, isCell (some (.int n t2))) :: (c6, isCell (some (.ref k.C))) :: (c8, isCell none) :: (200, isPT [(216, 21)]) :: kLed k.C ks ∧ ys = ks.reverse.map (fun e => Value.ref e.1) ∧ ks.map (fun e => e.2.2.1) = (List.range i).reverse, _, l, rfl, It.range (a := 0) (c := 1) (n := n) hA.hh, fun _ _ _ _ _ _ h => wpAny_pure h, ?_, ⟨[], rfl, rfl, by simp⟩, ?_, ?_, ?_, ?_, ?_⟩
  · simp only [kLed, List.cons_append, List.nil_append]
    walk_at "pick"
  · have : sizeLine = 2 ^ 24 := rfl; omega
  · intros; trivial
  · rintro i ys lj ⟨ks, rfl, rfl, hr⟩
    have := congrArg List.length hr
    simp at this
    simp; omega
  · rintro C Dd cs mC x w ys lj hcs hx ⟨tx, rfl⟩ ⟨ks, rfl, rfl, hr⟩
    obtain rfl : cs = [] := hcs.trans (by rfl)
    simp only [someCells, List.map_cons, List.map_nil, List.nil_append, List.cons_append]
    rw [show (0 : Int) + (x : Int) * 1 = x by omega]
    walk_at "go"
    refine ifsT.none ?_
    walk_at "go"
    have hmm : ∀ p ∈ k.led g, p ∈ kLed k.C ks ++ l := fun p hp => List.mem_append_right _ (hkm p hp)
    with_reducible refine KPk.cwK hk ?_ ?_ (by kernel_rfl!) (by kernel_rfl!)
    · exact fun p hp => .tail _ (.tail _ (.tail _ (.tail _ (.tail _ (.tail _ (.tail _ (.tail _ (hmm p hp))))))))
    walk_at "go"
    refine ⟨fun p hp => .tail _ (.tail _ (.tail _ (.tail _ (.tail _ (.tail _ (.tail _ (.tail _ (hmm p hp)))))))), ?_⟩
    refine KPk.make (d := d + 6) hk hA (fun p hp => .tail _ (.tail _ (.tail _ (.tail _ (.tail _ (.tail _ (.tail _ (.tail _ (hmm p hp))))))))) fun kx kdx => ?_
    refine ⟨(L, isNs m) :: (c2, isCell (some (.int n t2))) :: (c6, isCell (some (.ref k.C))) :: (c8, isCell none) :: (200, isPT [(216, 21)]) :: (kx, isO (slotObj k.C kdx [.int (x : Nat) tx])) :: (kdx, isO emptyDict) :: kLed k.C ks, _, by walk_at "pick", (kx, kdx, x, tx) :: ks, rfl, by simp, ?_⟩
    rw [List.range_succ]; simp [hr]
  · rintro Dd ys lj ⟨ks, rfl, rfl, hr⟩
    dsimp only
    simp only [List.cons_append]
    walk_at "go"
    refine T.pick (t := (L, isNs m) :: (c2, isCell (some (.int n t2))) :: (200, isPT [(216, 21)]) :: (c8, isCell (some (.ref Dd))) :: (Dd, isList (ks.reverse.map fun e => .ref e.1)) :: (kLed k.C ks ++ l)) ?_ (by walk_at "pick")
    refine h Dd ks ((c8, isCell (some (.ref Dd))) :: (Dd, isList (ks.reverse.map fun e => .ref e.1)) :: kLed k.C ks) fun l' hX hkm hg hact => ⟨hk, hkm, hg, hX _ (.head _), hX _ (.tail _ (.head _)), fun e he => ⟨hX _ (.tail _ (.tail _ (kLed_mem he).1)), hX _ (.tail _ (.tail _ (kLed_mem he).2))⟩, hr, hact⟩
def stepF (tb : List (Addr × List Int)) (u v : Int) : Int := if tabF tb v.toNat u.toNat < 0 then v else u
set_option maxHeartbeats 8000000 in
theorem law8 {c1 : Addr} {m : Str → Option Value} {n : Nat} {t2 : Tok} {tb : List (Addr × List Int)} {g : Addr} {gd : FuncData} {k : KPk} {kl : Addr} {ks : List KEnt} {Q : Flow → Led → Prop} (hA : Ok A (d + 8)) (hn5 : n ≤ 5)
    (h : ∀ st sd (X : Led), (st, isFun sd) ∈ X → (∃ u, (200, isPT u) ∈ X) → (∀ l' : Led, (∀ p ∈ X, p ∈ l') → Keys b g gd k n tb c8 kl ks d l' → Acts b st (fun i => ∃ x : Nat, x < n ∧ i = x) (stepF tb) (d + 7) l') →
      T b A (execs ((lawB b.w.params).drop 11) (lawEnv b L fa (cs9 c1 c2 c3 c4 c5 c6 c7 c8 c9))) Q ((L, isNs (put "step" (.ref st) m)) :: (X ++ l))) :
    T b A (execs ((lawB b.w.params).drop 10) (lawEnv b L fa (cs9 c1 c2 c3 c4 c5 c6 c7 c8 c9))) Q ((L, isNs m) :: (200, isPT [(216, 21)]) :: l) := by
  refine (show T b A (execs (_ :: (lawB b.w.params).drop 11) (envX _ ⟨_, _, _, _, _⟩ _ _ _ _)) _ _ from ?_)
  walk_at "1"
  refine T.asgN ?_
  refine T.lam rfl ?_
  refine T.mkLamP (P := 200) (c := 202) (clos := [("keys", c8)]) (by kernel_rfl!) rfl rfl b.B.code202 (by decide) (by walk_at "rep") (by decide) fun st cst ctst => ?_
  refine T.weak (a := st) (p' := isFun _) .head (fun o e => ⟨_, _, _, e⟩) ?_
  walk_at "go"
  refine T.pick (t := (L, isNs _) :: (st, isFun _) :: (cst, isRec _) :: (200, isPT _) :: l) ?_ (by walk_at "pick")
  refine h st _ [(st, isFun _), (cst, isRec _), (200, isPT _)] (.head _) ⟨_, .tail _ (.tail _ (.head _))⟩ ?_
  rintro l' hX K A' l₁ u v t t' Q' hA' hl ⟨x, hx, rfl⟩ ⟨y, hy, rfl⟩ hq
  refine T.enterLF (n := d + 6) (binds := [("crowned", .int x t), ("x", .int y t')]) hA' (hl _ (hX _ (.head _))) (hl _ (hX _ (.tail _ (.head _)))) rfl rfl (fun L' => ?_)
  have K' : Keys b g gd k n tb c8 kl ks d ((L', isNs (ofB [("crowned", .int x t), ("x", .int y t')])) :: l₁) := K.up fun p hp => .tail _ (hl _ hp)
  obtain ⟨e, he, hex, hel⟩ := K'.at hy
  obtain ⟨e', he', hex', hel'⟩ := K'.at hx
  walk_at "go"
  refine T.nmF (by exact rfl) (by exact rfl) K'.c ?_
  walk_at "go"
  refine T.item (v := .ref e.1) K'.lst (by omega) (by omega) (by simpa using hel) ?_
  walk_at "go"
  refine T.nmF (by exact rfl) (by exact rfl) K'.c ?_
  walk_at "go"
  refine T.item (v := .ref e'.1) K'.lst (by omega) (by omega) (by simpa using hel') ?_
  refine KPk.ltK (d := d + 5) K'.good hA'.deeper (K'.cmps he he' (by omega) (by omega)) ?_
  walk_at "go"
  have hs : stepF tb (x : Int) (y : Int) = if tabF tb e.2.2.1 e'.2.2.1 < 0 then (y : Int) else x := by
    unfold stepF; rw [hex, hex']; rfl
  by_cases q : tabF tb e.2.2.1 e'.2.2.1 < 0
  · rw [if_pos (decide_eq_true q)]
    walk_at "go"
    refine ⟨l₁, by walk_at "pick", ?_⟩
    have := hq t'
    rwa [hs, if_pos q] at this
  · rw [if_neg (by simpa using q)]
    walk_at "go"
    refine ⟨l₁, by walk_at "pick", ?_⟩
    have := hq t
    rwa [hs, if_neg q] at this
end

/-- the table of who is ahead of whom, as the law has made it -/
structure Ahd (M : Nat → Nat → Bool) (n : Nat) (c5 al : Addr) (rows : List (Addr × Nat)) (l : Led) : Prop where
  c : (c5, isCell (some (.ref al))) ∈ l
  lst : (al, isList (rows.reverse.map fun e => .ref e.1)) ∈ l
  ent : ∀ e ∈ rows, entB M n e ∈ l
  idx : rows.map (·.2) = (List.range n).reverse
theorem Ahd.up {M : Nat → Nat → Bool} {n : Nat} {c5 al : Addr} {rows : List (Addr × Nat)} {l l' : Led} (H : Ahd M n c5 al rows l) (h : ∀ p ∈ l, p ∈ l') : Ahd M n c5 al rows l' := ⟨h _ H.c, h _ H.lst, fun e he => h _ (H.ent e he), H.idx⟩
theorem Ahd.at {M : Nat → Nat → Bool} {n : Nat} {c5 al : Addr} {rows : List (Addr × Nat)} {l : Led} (H : Ahd M n c5 al rows l) {x : Nat} (hx : x < n) : ∃ r, (rows.reverse.map fun e => Value.ref e.1)[x]? = some (.ref r) ∧ (r, isList (boolRow M n x)) ∈ l := by
  have h1 : rows.reverse.map (·.2) = List.range n := by rw [List.map_reverse, H.idx, List.reverse_reverse]
  have h2 : (rows.reverse.map (·.2))[x]? = some x := by rw [h1, List.getElem?_range hx]
  rw [List.getElem?_map] at h2
  obtain ⟨e, he, hi⟩ := Option.map_eq_some_iff.mp h2
  refine ⟨e.1, by rw [List.getElem?_map, he]; rfl, ?_⟩
  have := H.ent e (List.mem_reverse.mp (List.mem_of_getElem? he))
  unfold entB at this
  rwa [hi] at this
theorem row_at {M : Nat → Nat → Bool} {n x y : Nat} (hy : y < n) : (boolRow M n x)[y]? = some (.bool (M x y)) := by
  unfold boolRow
  rw [List.getElem?_map, List.getElem?_range hy]; rfl
namespace T
theorem neB {b : Bs} {A : Around} {l : Led} {c d : Bool} {Q : Value → Led → Prop} (h : Q (.bool (c != d)) l) : T b A (compareOp .NotEq (.bool c) (.bool d)) Q l := fun s I => PyProof.Rows.ne_bool ⟨l, I, h⟩
end T
section
variable {b : Bs} {A : Around} {l : Led} {n d : Nat} {c2 c3 c4 c5 c6 c7 c8 c9 L fa : Addr}
set_option maxHeartbeats 8000000 in
theorem law9 {c1 : Addr} {m : Str → Option Value} {n : Nat} {t2 : Tok} {tb : List (Addr × List Int)} {g : Addr} {gd : FuncData} {k : KPk} {kl al : Addr} {ks : List KEnt} {M : Nat → Nat → Bool} {rows : List (Addr × Nat)} {Q : Flow → Led → Prop} (hA : Ok A (d + 8)) (hn5 : n ≤ 5) (K : Keys b g gd k n tb c8 kl ks d l) (H : Ahd M n c5 al rows l)
    (hs : ∀ x y, x < n → y < n → x ≠ y → decide (tabF tb x y < 0) = M x y ∧ decide (tabF tb x y > 0) = M y x)
    (h : ∀ m', (∀ z : Str, z ≠ "x" → z ≠ "y" → m' z = m z) →
      T b A (execs ((lawB b.w.params).drop 12) (lawEnv b L fa (cs9 c1 c2 c3 c4 c5 c6 c7 c8 c9))) Q ((L, isNs m') :: (c2, isCell (some (.int n t2))) :: l)) :
    T b A (execs ((lawB b.w.params).drop 11) (lawEnv b L fa (cs9 c1 c2 c3 c4 c5 c6 c7 c8 c9))) Q ((L, isNs m) :: (c2, isCell (some (.int n t2))) :: l) := by
  refine (show T b A (execs (_ :: (lawB b.w.params).drop 12) (envX _ ⟨_, _, _, _, _⟩ _ _ _ _)) _ _ from ?_)
  walk_at "go"
  refine T.range1 fun r => ?_
  walk_at "go"
  refine T.iterRange (n := n) (.head _) (small_of (by omega) (by omega) (.inl rfl)) (size_up rfl) fun it => ?_
  refine T.forLoop (rest := (c2, isCell (some (.int n t2))) :: l) (lj₀ := [(L, isNs m)]) (It.range (a := 0) (c := 1) (n := n) hA.hh) (fun _ lj => ∃ m', lj = [(L, isNs m')] ∧ ∀ z : Str, z ≠ "x" → z ≠ "y" → m' z = m z) (by walk_at "pick") ⟨m, rfl, fun _ _ _ => rfl⟩ (fun _ _ _ _ _ _ => trivial) ?_ ?_
  · rintro x v lj KQ hK hx ⟨tx, rfl⟩ ⟨m', rfl, hm'⟩
    simp only [List.cons_append, List.nil_append] at hK ⊢
    rw [show (0 : Int) + (x : Int) * 1 = x by omega]
    walk_at "go"
    refine T.range1 fun r2 => ?_
    walk_at "go"
    refine T.iterRange (n := x) (.head _) (small_of (by omega) (by omega) (.inl rfl)) (size_up rfl) fun it2 => ?_
    refine T.forLoop (rest := (it, isRangeIt 0 1 n (x + 1)) :: (c2, isCell (some (.int n t2))) :: l) (lj₀ := [(L, isNs (put "x" (.int x tx) m'))]) (It.range (a := 0) (c := 1) (n := x) hA.hh) (fun _ lj => ∃ m', lj = [(L, isNs m')] ∧ m' "x" = some (.int x tx) ∧ ∀ z : Str, z ≠ "x" → z ≠ "y" → m' z = m z) (by walk_at "pick") ⟨_, rfl, rfl, fun z h1 h2 => (if_neg h1).trans (hm' z h1 h2)⟩ (fun _ _ _ _ _ _ => trivial) ?_ ?_
    · rintro y v lj KQ hK hy ⟨ty, rfl⟩ ⟨m1, rfl, hmx, hm1⟩
      simp only [List.cons_append, List.nil_append] at hK ⊢
      rw [show (0 : Int) + (y : Int) * 1 = y by omega]
      have K' : Keys b g gd k n tb c8 kl ks d ((it2, isRangeIt 0 1 x (y + 1)) :: (L, isNs (put "y" (.int y ty) m1)) :: (it, isRangeIt 0 1 n (x + 1)) :: (c2, isCell (some (.int n t2))) :: l) := K.up fun p hp => .tail _ (.tail _ (.tail _ (.tail _ hp)))
      have H' : Ahd M n c5 al rows ((it2, isRangeIt 0 1 x (y + 1)) :: (L, isNs (put "y" (.int y ty) m1)) :: (it, isRangeIt 0 1 n (x + 1)) :: (c2, isCell (some (.int n t2))) :: l) := H.up fun p hp => .tail _ (.tail _ (.tail _ (.tail _ hp)))
      obtain ⟨e, he, hex, hel⟩ := K'.at hx
      obtain ⟨e', he', hex', hel'⟩ := K'.at (show y < n by omega)
      obtain ⟨rx, hrx, hrx'⟩ := H'.at hx
      obtain ⟨ry, hry, hry'⟩ := H'.at (show y < n by omega)
      have hmx' : put "y" (.int y ty) m1 "x" = some (.int x tx) := hmx
      obtain ⟨hs1, hs2⟩ := hs x y hx (by omega) (by omega)
      walk_at "go"
      refine T.nmC (by exact rfl) (by exact rfl) K'.c ?_
      walk_at "go"
      refine T.item (v := .ref e.1) K'.lst (by omega) (by omega) (by simpa using hel) ?_
      walk_at "go"
      refine T.nmC (by exact rfl) (by exact rfl) K'.c ?_
      walk_at "go"
      refine T.item (v := .ref e'.1) K'.lst (by omega) (by omega) (by simpa using hel') ?_
      refine KPk.ltK (d := d + 5) K'.good (hA.le (by omega)) (K'.cmps he he' (by omega) (by omega)) ?_
      walk_at "go"
      refine T.nmC (by exact rfl) (by exact rfl) H'.c ?_
      walk_at "go"
      refine T.item (v := .ref rx) H'.lst (by omega) (by omega) (by simpa using hrx) ?_
      walk_at "go"
      refine T.item (v := .bool (M x y)) hrx' (by omega) (by omega) (by simpa using row_at (by omega)) ?_
      refine T.neB ?_
      walk_at "go"
      rw [hex, hex', hs1, if_neg (by simp)]
      walk_at "go"
      refine T.nmC (by exact rfl) (by exact rfl) K'.c ?_
      walk_at "go"
      refine T.item (v := .ref e.1) K'.lst (by omega) (by omega) (by simpa using hel) ?_
      walk_at "go"
      refine T.nmC (by exact rfl) (by exact rfl) K'.c ?_
      walk_at "go"
      refine T.item (v := .ref e'.1) K'.lst (by omega) (by omega) (by simpa using hel') ?_
      refine KPk.gtK (d := d + 5) K'.good (hA.le (by omega)) (K'.cmps he he' (by omega) (by omega)) ?_
      walk_at "go"
      refine T.nmC (by exact rfl) (by exact rfl) H'.c ?_
      walk_at "go"
      refine T.item (v := .ref ry) H'.lst (by omega) (by omega) (by simpa using hry) ?_
      walk_at "go"
      refine T.item (v := .bool (M y x)) hry' (by omega) (by omega) (by simpa using row_at hx) ?_
      refine T.neB ?_
      walk_at "go"
      rw [hex, hex', hs2, if_neg (by simp)]
      walk_at "go"
      rw [if_neg (by decide)]
      walk_at "go"
      refine hK _ _ ?_
      exact ⟨[(L, isNs (put "y" (.int y ty) m1))], by walk_at "pick", _, rfl, hmx', fun z h1 h2 => (if_neg h2).trans (hm1 z h1 h2)⟩
    · rintro lj ⟨m1, rfl, hmx, hm1⟩
      simp only [List.cons_append, List.nil_append]
      walk_at "go"
      refine hK _ _ ?_
      exact ⟨[(L, isNs m1)], by walk_at "pick", m1, rfl, hm1⟩
  · rintro lj ⟨m', rfl, hm'⟩
    simp only [List.cons_append, List.nil_append]
    exact h m' hm'
end

/-- x leads to all -/
def Leads (M : Nat → Nat → Bool) (n x : Nat) : Prop := ∀ S : Nat → Prop, S x → (∀ p q, p < n → q < n → S p → M p q = true → S q) → ∀ y, y < n → S y
theorem full_of_len {n : Nat} {kn : List Nat} (hd : kn.Nodup) (hl : ∀ x ∈ kn, x < n) (h : kn.length = n) : ∀ y, y < n → y ∈ kn := fun y hy => by
  by_cases q : y ∈ kn
  · exact q
  · have := nodup_le n (y :: kn) (List.nodup_cons.mpr ⟨q, hd⟩) (List.forall_mem_cons.mpr ⟨hy, hl⟩)
    simp at this; omega
theorem len_of_full {n : Nat} {kn : List Nat} (hd : kn.Nodup) (hl : ∀ x ∈ kn, x < n) (h : ∀ y, y < n → y ∈ kn) : kn.length = n := by
  have h1 := nodup_le n kn hd hl
  have h3 : (natI (List.range n)).Nodup := List.Pairwise.map _ (fun a b hab e => hab (by omega)) List.nodup_range
  have h2 := nodup_sub (ys := natI kn) h3 fun x hx => by
    obtain ⟨y, hy, rfl⟩ := List.mem_map.mp hx
    exact List.mem_map.mpr ⟨y, h y (List.mem_range.mp hy), rfl⟩
  simp [natI] at h2; omega
theorem Grown.leads {M : Nat → Nat → Bool} {n root : Nat} {kn : List Nat} {es : List (Nat × Nat)} (g : Grown M n root kn es) (hr : root < n) (hc : kn.length = n ∨ ∀ p ∈ kn, ∀ y, y < n → M p y = true → y ∈ kn) : es.length + 1 = n ↔ Leads M n root := by
  have hl := g.len
  constructor
  · intro h S hS hcl y hy
    exact g.closed hS (fun p q hp hpk hqk hM => hcl p q (g.lt hr p hpk) (g.lt hr q hqk) hp hM) y (full_of_len g.nodup (g.lt hr) (by omega) y hy)
  · intro h
    have : kn.length = n := by
      rcases hc with hc | hc
      · exact hc
      · exact len_of_full g.nodup (g.lt hr) (h (· ∈ kn) ((g.kids.2 root).mpr (.inl rfl)) fun p q _ hq hp hM => hc p hp q hq hM)
    omega
section
variable {b : Bs} {A : Around} {l : Led} {n d : Nat} {c2 c3 c4 c5 c6 c7 c8 c9 L fa : Addr}
set_option maxHeartbeats 8000000 in
theorem law10 {c1 : Addr} {m : Str → Option Value} {n : Nat} {t2 : Tok} {al : Addr} {M : Nat → Nat → Bool} {rows : List (Addr × Nat)} {Q : Flow → Led → Prop} (hA : Ok A (d + 8)) (hn3 : 3 ≤ n) (hn5 : n ≤ 5) (H : Ahd M n c5 al rows l)
    (h : ∀ ab (zs : List Nat), (∀ x ∈ zs, x < n ∧ Leads M n x) → (∀ x, x < n → Leads M n x → x ∈ zs) → zs.length ≤ n →
      T b A (execs ((lawB b.w.params).drop 13) (lawEnv b L fa (cs9 c1 c2 c3 c4 c5 c6 c7 c8 c9))) Q ((L, isNs (put "able" (.ref ab) m)) :: (c2, isCell (some (.int n t2))) :: (ab, isInts (natI zs)) :: l)) :
    T b A (execs ((lawB b.w.params).drop 12) (lawEnv b L fa (cs9 c1 c2 c3 c4 c5 c6 c7 c8 c9))) Q ((L, isNs m) :: (c2, isCell (some (.int n t2))) :: l) := by
  refine (show T b A (execs (_ :: (lawB b.w.params).drop 13) (envX _ ⟨_, _, _, _, _⟩ _ _ _ _)) _ _ from ?_)
  walk_at "1"
  refine T.compAS (scF [(".0", .local), ("x", .local), ("len", .globalImplicit), ("_law_tree", .globalImplicit), ("ahead", .cell), ("size", .cell)]) [("size", c2), ("ahead", c5)] (by kernel_rfl!) (by kernel_rfl!) rfl (by decide) ?_
  walk_at "go"
  refine T.range1 fun r => ?_
  refine T.iterRange (n := n) (.head _) (small_of (by omega) (by omega) (.inl rfl)) (size_up rfl) fun it => ?_
  refine ⟨it, _, _, _, _, fun i ys lj => lj = (L, isNs m) :: (c2, isCell (some (.int n t2))) :: [] ∧ ∃ zs : List Nat, IntsAre ys (natI zs) ∧ (∀ x ∈ zs, x < n ∧ Leads M n x) ∧ (∀ x, x < i → Leads M n x → x ∈ zs) ∧ zs.length ≤ i, _, l, rfl, It.range (a := 0) (c := 1) (n := n) hA.hh, fun _ _ _ _ _ _ h => wpAny_pure h, ?_, ⟨rfl, [], .nil, by simp, fun x hx => absurd hx (Nat.not_lt_zero _), Nat.le_refl _⟩, ?_, ?_, ?_, ?_, ?_⟩
  · simp only [List.cons_append, List.nil_append]
    walk_at "pick"
  · have : sizeLine = 2 ^ 24 := rfl; omega
  · intros; trivial
  · rintro i ys lj ⟨rfl, zs, hz, -, -, hzl⟩
    rw [hz.length]; simp [natI]; omega
  · rintro C Dd cs mC x w ys lj hcs hx ⟨tx, rfl⟩ ⟨rfl, zs, hz, hz1, hz2, hzl⟩
    obtain rfl : cs = [] := hcs.trans (by rfl)
    simp only [someCells, List.map_cons, List.map_nil, List.nil_append, List.cons_append]
    rw [show (0 : Int) + (x : Int) * 1 = x by omega]
    walk_at "go"
    refine ifsT.one ?_
    walk_at "go"
    walk_at "K"
    walk_at "go"
    refine T.nmC (by exact rfl) (by exact rfl) (.tail _ (.tail _ (.tail _ (.tail _ (.tail _ H.c))))) ?_
    walk_at "go"
    have hrl : rows.length = n := by have := congrArg List.length H.idx; simpa using this
    refine treeT (d := d + 7) (n := n) (rows := rows.reverse.map (·.1)) (M := M) hA (by rw [List.map_map]; exact .tail _ (.tail _ (.tail _ (.tail _ (.tail _ H.lst))))) (by simp [hrl]) (fun y ry hy => ?_) (by omega) hn5 hx (by decide) (by decide) fun tv kn es hg hc => ?_
    · have hyn : y < n := by
        have := (List.getElem?_eq_some_iff.mp hy).1
        simpa [hrl] using this
      obtain ⟨r', h1, h2⟩ := H.at hyn
      rw [List.getElem?_map] at h1 hy
      obtain ⟨e, he, h3⟩ := Option.map_eq_some_iff.mp hy
      rw [he] at h1
      cases h1
      subst h3
      exact .tail _ (.tail _ (.tail _ (.tail _ (.tail _ h2))))
    have hle := hg.leads hx hc
    have hgl := hg.len
    have hkn := nodup_le n kn hg.nodup (hg.lt hx)
    rw [List.length_map] at hle hgl
    walk_at "go"
    refine T.lenL (.head _) (by simp; omega) fun t => ?_
    walk_at "go"
    refine T.nmC (by exact rfl) (by exact rfl) (.tail _ (List.mem_append_right _ (.tail _ (.tail _ (.tail _ (.tail _ (.head _))))))) ?_
    walk_at "go"
    rw [List.length_map, List.length_reverse]
    by_cases q : es.length + 1 = n
    · rw [if_pos (by rw [beq_iff_eq]; omega)]
      refine T.nmL (by exact rfl) (.tail _ (List.mem_append_right _ (.tail _ (.head _)))) rfl ?_
      refine ⟨(L, isNs m) :: (c2, isCell (some (.int n t2))) :: [], _, .drop (Pick.skip (by simp only [List.cons_append, List.nil_append]; walk_at "pick") _), rfl, zs ++ [x], ?_, ?_, ?_, by simp; omega⟩
      · unfold natI; rw [List.map_append]; exact hz.append (.cons _ _ .nil)
      · intro z hzm
        rcases List.mem_append.mp hzm with h | h
        · exact hz1 z h
        · rw [List.mem_singleton.mp h]; exact ⟨hx, hle.mp q⟩
      · intro z hzx hzL
        by_cases e : z = x
        · subst e; simp
        · exact List.mem_append_left _ (hz2 z (by omega) hzL)
    · rw [if_neg (by rw [beq_iff_eq]; omega)]
      refine ⟨(L, isNs m) :: (c2, isCell (some (.int n t2))) :: [], _, .drop (Pick.skip (by simp only [List.cons_append, List.nil_append]; walk_at "pick") _), rfl, zs, hz, hz1, ?_, by omega⟩
      intro z hzx hzL
      by_cases e : z = x
      · subst e; exact absurd (hle.mpr hzL) q
      · exact hz2 z (by omega) hzL
  · rintro Dd ys lj ⟨rfl, zs, hz, hz1, hz2, hzl⟩
    dsimp only
    intro C mC
    simp only [List.cons_append, List.nil_append]
    refine T.weak (a := Dd) (p' := isInts (natI zs)) (.tail .head) (fun o e => ⟨ys, hz, e⟩) ?_
    walk_at "go"
    exact ⟨mC, (L, isNs (put "able" (.ref Dd) m)) :: (c2, isCell (some (.int n t2))) :: (Dd, isInts (natI zs)) :: l, by walk_at "pick", h Dd zs hz1 hz2 hzl⟩
end

theorem Acts.up {b : Bs} {g : Addr} {P : Int → Prop} {F : Int → Int → Int} {d : Nat} {l l' : Led} (h : Acts b g P F d l) (hl : ∀ p ∈ l, p ∈ l') : Acts b g P F d l' := fun A' l₁ u v t t' Q hA hm => h A' l₁ u v t t' Q hA fun p hp => hm _ (hl _ hp)
theorem stepF_in {tb : List (Addr × List Int)} {n : Nat} : ∀ u v : Int, (∃ x : Nat, x < n ∧ u = x) → (∃ x : Nat, x < n ∧ v = x) → ∃ x : Nat, x < n ∧ stepF tb u v = x := fun u v hu hv => by
  unfold stepF
  split
  · exact hv
  · exact hu
theorem in_natI {zs : List Nat} {i : Int} : ((natI zs).any fun x => x == i) = true ↔ i ∈ natI zs := by
  rw [List.any_eq_true]
  constructor
  · rintro ⟨x, h1, h2⟩; rw [beq_iff_eq] at h2; rwa [← h2]
  · intro h; exact ⟨i, h, by simp⟩
section
variable {b : Bs} {A : Around} {l : Led} {n d : Nat} {c2 c3 c4 c5 c6 c7 c8 c9 L fa : Addr}
set_option maxHeartbeats 8000000 in
theorem law11 {c1 : Addr} {m : Str → Option Value} {n : Nat} {tb : List (Addr × List Int)} {bl st ab : Addr} {sd : FuncData} {zs : List Nat} {bs : List (Addr × List Int)} {Q : Flow → Led → Prop} (hA : Ok A (d + 8)) (hn3 : 3 ≤ n) (hm1 : m "ballots" = some (.ref bl)) (hm2 : m "step" = some (.ref st)) (hm3 : m "able" = some (.ref ab))
    (hbl : (bl, isList (bs.reverse.map fun e => .ref e.1)) ∈ l) (hbe : ∀ e ∈ bs, (e.1, isInts e.2) ∈ l) (hbs : ∀ e ∈ bs, e.2.Perm (rangeI n)) (hst : (st, isFun sd) ∈ l) (hac : Acts b st (fun i => ∃ x : Nat, x < n ∧ i = x) (stepF tb) (d + 7) l) (hab : (ab, isInts (natI zs)) ∈ l)
    (hcr : ∀ e ∈ bs, ∀ x xs, e.2 = x :: xs → xs.foldl (stepF tb) x ∈ natI zs)
    (h : ∀ m', (∀ z : Str, z ≠ "ballot" → m' z = m z) →
      T b A (execs ((lawB b.w.params).drop 14) (lawEnv b L fa (cs9 c1 c2 c3 c4 c5 c6 c7 c8 c9))) Q ((L, isNs m') :: l)) :
    T b A (execs ((lawB b.w.params).drop 13) (lawEnv b L fa (cs9 c1 c2 c3 c4 c5 c6 c7 c8 c9))) Q ((L, isNs m) :: l) := by
  refine (show T b A (execs (_ :: (lawB b.w.params).drop 14) (envX _ ⟨_, _, _, _, _⟩ _ _ _ _)) _ _ from ?_)
  walk_at "go"
  refine T.iterList (.tail _ hbl) fun it => ?_
  refine T.forLoop (rest := l) (lj₀ := [(L, isNs m)]) (It.list hA.hh (x := bl) (xs := bs.reverse.map fun e => .ref e.1)) (fun _ lj => ∃ m', lj = [(L, isNs m')] ∧ ∀ z : Str, z ≠ "ballot" → m' z = m z) (by walk_at "pick") ⟨m, rfl, fun _ _ => rfl⟩ ?_ ?_ ?_
  · rintro i lj h' hi ⟨m', rfl, -⟩ S
    exact S.list (.tail _ (.tail _ hbl))
  · rintro i v lj KQ hK hi hv ⟨m', rfl, hm'⟩
    simp only [List.cons_append, List.nil_append] at hK ⊢
    rw [List.getElem?_map] at hv
    obtain ⟨e, he, rfl⟩ := Option.map_eq_some_iff.mp hv
    have hem : e ∈ bs := List.mem_reverse.mp (List.mem_of_getElem? he)
    have hmm : ∀ z : Str, z ≠ "ballot" → put "ballot" (.ref e.1) m' z = m z := fun z h1 => (if_neg h1).trans (hm' z h1)
    have q2 : put "ballot" (.ref e.1) m' "step" = some (.ref st) := (hmm _ (by decide)).trans hm2
    have q3 : put "ballot" (.ref e.1) m' "able" = some (.ref ab) := (hmm _ (by decide)).trans hm3
    obtain ⟨x, xs, hx⟩ : ∃ x xs, e.2 = x :: xs := by
      cases q : e.2 with
      | nil =>
        have h1 := (hbs e hem).length_eq
        have h2 : (rangeI n).length = n := progI_length ..
        rw [q] at h1; simp at h1; omega
      | cons x xs => exact ⟨x, xs, rfl⟩
    walk_at "go"
    walk_at "K"
    walk_at "go"
    have hP : ∀ y ∈ x :: xs, ∃ z : Nat, z < n ∧ y = z := fun y hy => by
      have h1 := (hbs e hem).mem_iff.mp (hx ▸ hy)
      unfold rangeI progI at h1
      obtain ⟨z, h2, h3⟩ := List.mem_map.mp h1
      exact ⟨z, List.mem_range.mp h2, by omega⟩
    refine reduceT (d := d + 7) (P := fun i => ∃ x : Nat, x < n ∧ i = x) hA (.tail _ (.tail _ hst)) (.tail _ (.tail _ (hx ▸ hbe e hem))) (hac.up fun p hp => .tail _ (.tail _ hp)) hP stepF_in fun t => ?_
    walk_at "go"
    refine T.notinI (.tail _ (.tail _ hab)) ?_
    walk_at "go"
    rw [in_natI.mpr (hcr e hem x xs hx), if_neg (by decide)]
    walk_at "go"
    refine hK _ _ ?_
    exact ⟨[(L, isNs (put "ballot" (.ref e.1) m'))], by walk_at "pick", _, rfl, hmm⟩
  · rintro lj ⟨m', rfl, hm'⟩
    simp only [List.cons_append, List.nil_append]
    exact h m' hm'
end

theorem pick_turn {zs : List Nat} {turn : Int} (hz : zs ≠ []) (ht : 0 ≤ turn) : ∃ root, root ∈ zs ∧ (natI zs)[(turn.fmod (natI zs).length).toNat]? = some (root : Int) ∧ 0 ≤ turn.fmod (natI zs).length ∧ turn.fmod (natI zs).length < (natI zs).length := by
  have hl : (natI zs).length = zs.length := by simp [natI]
  have hp : 0 < zs.length := List.length_pos_iff.mpr hz
  rw [hl, Int.fmod_eq_emod_of_nonneg _ (by omega)]
  have h0 := Int.emod_nonneg turn (b := (zs.length : Int)) (by omega)
  have h1 := Int.emod_lt_of_pos turn (b := (zs.length : Int)) (by omega)
  have hlt : (turn % (zs.length : Int)).toNat < zs.length := by omega
  refine ⟨zs[(turn % (zs.length : Int)).toNat], List.getElem_mem hlt, ?_, h0, h1⟩
  unfold natI
  rw [List.getElem?_map, List.getElem?_eq_getElem hlt]; rfl
section
variable {b : Bs} {A : Around} {l : Led} {n d : Nat} {c2 c3 c4 c5 c6 c7 c8 c9 L fa : Addr}
set_option maxHeartbeats 8000000 in
theorem law12 {c1 : Addr} {m : Str → Option Value} {n : Nat} {turn : Int} {t4 : Tok} {al ab : Addr} {M : Nat → Nat → Bool} {rows : List (Addr × Nat)} {zs : List Nat} {Q : Flow → Led → Prop} (hA : Ok A (d + 8)) (hn3 : 3 ≤ n) (hn5 : n ≤ 5) (H : Ahd M n c5 al rows l) (hm1 : m "turn" = some (.int turn t4)) (hm3 : m "able" = some (.ref ab)) (hab : (ab, isInts (natI zs)) ∈ l)
    (ht : 0 ≤ turn) (ht2 : turn < 2 ^ 40) (hz : zs ≠ []) (hzn : zs.length ≤ n) (hzs : ∀ x ∈ zs, x < n ∧ Leads M n x)
    (h : ∀ tv root kn (es : List (Addr × Nat × Nat)), root < n → (natI zs)[(turn.fmod (natI zs).length).toNat]? = some (root : Int) → Grown M n root kn (es.map (·.2)) → es.length + 1 = n →
      T b A (execs ((lawB b.w.params).drop 15) (lawEnv b L fa (cs9 c1 c2 c3 c4 c5 c6 c7 c8 c9))) Q ((L, isNs (put "tree" (.ref tv) m)) :: (tv, isList (es.reverse.map fun e => .ref e.1)) :: (es.map ent ++ l))) :
    T b A (execs ((lawB b.w.params).drop 14) (lawEnv b L fa (cs9 c1 c2 c3 c4 c5 c6 c7 c8 c9))) Q ((L, isNs m) :: l) := by
  refine (show T b A (execs (_ :: (lawB b.w.params).drop 15) (envX _ ⟨_, _, _, _, _⟩ _ _ _ _)) _ _ from ?_)
  obtain ⟨root, hr, hri, hf0, hf1⟩ := pick_turn hz ht
  have hnl : (natI zs).length = zs.length := by simp [natI]
  obtain ⟨hrn, hrL⟩ := hzs root hr
  walk_at "go"
  walk_at "K"
  walk_at "go"
  refine T.lenI (.tail _ hab) (by omega) fun t => ?_
  walk_at "go"
  refine T.mod (by rw [hnl]; have := List.length_pos_iff.mpr hz; omega) fun t => ?_
  dsimp only
  refine T.itemI (i := (root : Int)) (.tail _ hab) hf0 (by omega) hri fun t => ?_
  walk_at "go"
  refine T.nmC (by exact rfl) (by exact rfl) (.tail _ H.c) ?_
  walk_at "go"
  have hrl : rows.length = n := by have := congrArg List.length H.idx; simpa using this
  refine treeT (d := d + 7) (n := n) (rows := rows.reverse.map (·.1)) (M := M) hA (by rw [List.map_map]; exact .tail _ H.lst) (by simp [hrl]) (fun y ry hy => ?_) (by omega) hn5 hrn ht ht2 fun tv kn es hg hc => ?_
  · have hyn : y < n := by
      have := (List.getElem?_eq_some_iff.mp hy).1
      simpa [hrl] using this
    obtain ⟨r', h1, h2⟩ := H.at hyn
    rw [List.getElem?_map] at h1 hy
    obtain ⟨e, he, h3⟩ := Option.map_eq_some_iff.mp hy
    rw [he] at h1
    cases h1
    subst h3
    exact .tail _ h2
  have hle := (hg.leads hrn hc).mpr hrL
  rw [List.length_map] at hle
  refine T.pick (t := (L, isNs m) :: (tv, isList (es.reverse.map fun e => .ref e.1)) :: (es.map ent ++ l)) ?_ (.perm (.trans (.cons _ List.perm_middle) (.swap ..)) .refl)
  walk_at "go"
  exact h tv root kn es hrn hri hg hle
set_option maxHeartbeats 8000000 in
theorem law13 {c1 : Addr} {m : Str → Option Value} {turn : Int} {t4 : Tok} {tv : Addr} {M : Nat → Nat → Bool} {root : Nat} {kn : List Nat} {es : List (Addr × Nat × Nat)} {Q : Flow → Led → Prop} (hA : Ok A (d + 8)) (hn3 : 3 ≤ n) (hn5 : n ≤ 5) (hfr : A.frames = some [lawEnv b L fa (cs9 c1 c2 c3 c4 c5 c6 c7 c8 c9)]) (hm1 : m "turn" = some (.int turn t4)) (hm2 : m "tree" = some (.ref tv))
    (htv : (tv, isList (es.reverse.map fun e => .ref e.1)) ∈ l) (hent : ∀ e ∈ es, ent e ∈ l) (ht : 0 ≤ turn) (ht2 : turn < 2 ^ 40) (hg : Grown M n root kn (es.map (·.2))) (hel : es.length + 1 = n)
    (h : ∀ ov os, os.Nodup → (∀ i ∈ os, i ∈ natI kn) → os.length = n → (∀ e ∈ edgesI (es.map (·.2)), ∃ X Y, os = X ++ e.2 :: Y ∧ e.1 ∈ Y) →
      T b A (execs ((lawB b.w.params).drop 16) (lawEnv b L fa (cs9 c1 c2 c3 c4 c5 c6 c7 c8 c9))) Q ((L, isNs m) :: (c7, isCell (some (.ref ov))) :: (ov, isInts os) :: l)) :
    T b A (execs ((lawB b.w.params).drop 15) (lawEnv b L fa (cs9 c1 c2 c3 c4 c5 c6 c7 c8 c9))) Q ((L, isNs m) :: (c7, isCell none) :: l) := by
  have hR : RunE M root kn (edgesI (es.map (·.2))) := hg.run (by
    intro q
    have h0 : (es.map (·.2)).length = 0 := by rw [q]; rfl
    rw [List.length_map] at h0
    omega)
  have hel2 : (edgesI (es.map (·.2))).length = es.length := by simp [edgesI]
  refine (show T b A (execs (_ :: (lawB b.w.params).drop 16) (envX _ ⟨_, _, _, _, _⟩ _ _ _ _)) _ _ from ?_)
  walk_at "1"
  refine T.asgN ?_
  walk_at "go"
  walk_at "K"
  walk_at "go"
  refine runT (d := d + 2) (es := edgesI (es.map (·.2))) (evs := es.reverse.map fun e => (e.1, ((e.2.1 : Nat) : Int), ((e.2.2 : Nat) : Int))) (dl := natI kn) (rk := fun i => kn.idxOf i.toNat) (mx := kn.length) hA ?_ ?_ ?_ (by omega) hfr ?_ hR.par hR.rk hR.mx hR.nd hR.dom hR.len ht ht2 fun ov os h1 h2 h3 h4 => ?_
  · unfold edgesI; rw [← List.map_reverse, List.map_map, List.map_map]; rfl
  · rw [List.map_map]; exact .tail _ (.tail _ htv)
  · intro e he
    obtain ⟨e0, he0, rfl⟩ := List.mem_map.mp he
    exact .tail _ (.tail _ (hent e0 (List.mem_reverse.mp he0)))
  · intro e he
    rw [List.mem_singleton] at he
    subst he
    have hk : (lawEnv b L fa (cs9 c1 c2 c3 c4 c5 c6 c7 c8 c9)).scope.kind = .function := by kernel_rfl!
    exact ⟨by rw [hk]; decide, L, m, rfl, .head _⟩
  refine T.pick (t := (L, isNs m) :: (c7, isCell none) :: (ov, isInts os) :: l) ?_ (by walk_at "pick")
  walk_at "go"
  exact h ov os h1 (fun i hi => (hR.dom i).mpr (h2 i hi)) (by omega) h4
end

theorem range_inc (n : Nat) : (rangeI n).Pairwise (fun x y => x < y) := List.Pairwise.map _ (fun a b h => by omega) List.pairwise_lt_range
theorem sorted_is {n : Nat} {ns' os : List Int} {kn : List Nat} (hp : ns'.Perm os) (hs : ns'.Pairwise (fun x y => x ≤ y)) (hd : os.Nodup) (hk : ∀ i ∈ os, i ∈ natI kn) (hkn : ∀ x ∈ kn, x < n) (hl : os.length = n) : ns' = rangeI n := by
  have hr := range_inc n
  have hsub : ∀ i ∈ os, i ∈ rangeI n := fun i hi => by
    obtain ⟨x, hx, rfl⟩ := List.mem_map.mp (hk i hi)
    exact rangeI_mem (hkn x hx)
  have hfull := nodup_full hd hsub (by rw [show (rangeI n).length = n from progI_length ..]; omega)
  have hrd : (rangeI n).Nodup := hr.imp fun h e => by omega
  have h2 : os.Perm (rangeI n) := (List.perm_ext_iff_of_nodup hd hrd).mpr fun a => ⟨hsub a, hfull a⟩
  exact List.Perm.eq_of_pairwise (fun a b _ _ h1 h2 => by omega) hs (hr.imp fun h => by omega) (hp.trans h2)
theorem idx_lt {os X Y : List Int} {a c : Int} (hd : os.Nodup) (h : os = X ++ c :: Y) (ha : a ∈ Y) : ¬ os.idxOf a < os.idxOf c := by
  subst h
  have h1 := List.nodup_append.mp hd
  have h2 := List.nodup_cons.mp h1.2.1
  have hcX : c ∉ X := fun q => h1.2.2 c q c (.head _) rfl
  have haX : a ∉ X := fun q => h1.2.2 a q a (.tail _ ha) rfl
  rw [List.idxOf_append, List.idxOf_append, if_neg haX, if_neg hcX, List.idxOf_cons_self]
  omega
section
variable {b : Bs} {A : Around} {l : Led} {n d : Nat} {c2 c3 c4 c5 c6 c7 c8 c9 L fa : Addr}
set_option maxHeartbeats 8000000 in
theorem law14 {c1 : Addr} {m : Str → Option Value} {t2 : Tok} {ov : Addr} {os : List Int} {kn : List Nat} {Q : Flow → Led → Prop} (hA : Ok A (d + 8)) (hn5 : n ≤ 5) (hd : os.Nodup) (hk : ∀ i ∈ os, i ∈ natI kn) (hkn : ∀ x ∈ kn, x < n) (hl : os.length = n)
    (h : T b A (execs ((lawB b.w.params).drop 17) (lawEnv b L fa (cs9 c1 c2 c3 c4 c5 c6 c7 c8 c9))) Q ((L, isNs m) :: (c7, isCell (some (.ref ov))) :: (ov, isInts os) :: l)) :
    T b A (execs ((lawB b.w.params).drop 16) (lawEnv b L fa (cs9 c1 c2 c3 c4 c5 c6 c7 c8 c9))) Q ((L, isNs m) :: (c2, isCell (some (.int n t2))) :: (c7, isCell (some (.ref ov))) :: (ov, isInts os) :: l) := by
  refine (show T b A (execs (_ :: (lawB b.w.params).drop 17) (envX _ ⟨_, _, _, _, _⟩ _ _ _ _)) _ _ from ?_)
  walk_at "go"
  refine T.sortedI (by walk_at "mem") (by omega) fun r ns' hp hs => ?_
  walk_at "go"
  refine T.range1 fun r2 => ?_
  walk_at "go"
  refine T.listRange (n := n) hA.hh (.head _) (small_of (by omega) (by omega) (.inl rfl)) (size_up rfl) (by omega) fun lv => ?_
  refine T.neL hA (by walk_at "mem") (by walk_at "mem") ?_
  walk_at "go"
  rw [sorted_is hp hs hd hk hkn hl, if_neg (by simp)]
  walk_at "go"
  refine T.pick (t := (L, isNs m) :: (c7, isCell (some (.ref ov))) :: (ov, isInts os) :: l) ?_ (by walk_at "pick")
  exact h
set_option maxHeartbeats 8000000 in
theorem law15 {c1 : Addr} {m : Str → Option Value} {ov tv : Addr} {os : List Int} {es : List (Addr × Nat × Nat)} {Q : Flow → Led → Prop} (hA : Ok A (d + 8)) (hn5 : n ≤ 5) (hm2 : m "tree" = some (.ref tv)) (htv : (tv, isList (es.reverse.map fun e => .ref e.1)) ∈ l) (hent : ∀ e ∈ es, ent e ∈ l) (hz : es.length ≤ 5) (hd : os.Nodup) (hl : os.length = n)
    (ho : ∀ e ∈ edgesI (es.map (·.2)), ∃ X Y, os = X ++ e.2 :: Y ∧ e.1 ∈ Y)
    (h : T b A (execs ((lawB b.w.params).drop 18) (lawEnv b L fa (cs9 c1 c2 c3 c4 c5 c6 c7 c8 c9))) Q ((L, isNs m) :: (c7, isCell (some (.ref ov))) :: (ov, isInts os) :: l)) :
    T b A (execs ((lawB b.w.params).drop 17) (lawEnv b L fa (cs9 c1 c2 c3 c4 c5 c6 c7 c8 c9))) Q ((L, isNs m) :: (c7, isCell (some (.ref ov))) :: (ov, isInts os) :: l) := by
  refine (show T b A (execs (_ :: (lawB b.w.params).drop 18) (envX _ ⟨_, _, _, _, _⟩ _ _ _ _)) _ _ from ?_)
  walk_at "go"
  refine T.compES (scF [(".0", .local), ("one", .local), ("reached", .local), ("order", .cell)]) [("order", c7)] (by kernel_rfl!) (by kernel_rfl!) rfl (by decide) ?_
  walk_at "go"
  refine T.iterList (.tail _ (.tail _ (.tail _ htv))) fun it => ?_
  refine ⟨it, _, _, _, _, fun i ys lj => lj = [] ∧ ys = [], [], _, rfl, It.list hA.hh (x := tv) (xs := es.reverse.map fun e => .ref e.1), fun i v s Q E ⟨o, e, r⟩ hq => letGo_listiter ⟨o, e, r⟩ hq, .refl, ⟨rfl, rfl⟩, ?_, ?_, ?_, ?_, ?_⟩
  · simp; have : sizeLine = 2 ^ 24 := rfl; omega
  · rintro i ys lj h' hi ⟨rfl, -⟩ S
    exact S.list (.tail _ (.tail _ (.tail _ (.tail _ htv))))
  · rintro i ys lj ⟨-, rfl⟩; simp
  · rintro C Dd cs mC i w ys lj hcs hi hw ⟨rfl, rfl⟩
    obtain rfl : cs = [] := hcs.trans (by rfl)
    simp only [someCells, List.map_nil, List.nil_append]
    rw [List.getElem?_map] at hw
    obtain ⟨e, he, rfl⟩ := Option.map_eq_some_iff.mp hw
    have hem : e ∈ es := List.mem_reverse.mp (List.mem_of_getElem? he)
    have hee : ((e.2.1 : Int), (e.2.2 : Int)) ∈ edgesI (es.map (·.2)) := mem_edgesI.mpr ⟨_, _, List.mem_map_of_mem hem, rfl⟩
    obtain ⟨X, Y, h1, h2⟩ := ho _ hee
    have hi1 : (e.2.1 : Int) ∈ os := by rw [h1]; exact List.mem_append_right _ (.tail _ h2)
    have hi2 : (e.2.2 : Int) ∈ os := by rw [h1]; simp
    refine assign2 hA.hh (.tail _ (.tail _ (.tail _ (.tail _ (.tail _ (.tail _ (hent e hem))))))) fun t u => ?_
    walk_at "go"
    refine ifsT.one ?_
    walk_at "go"
    refine T.gmInts (by walk_at "mem") PySem.F.slot_list_index PySem.F.type_list_index ?_
    walk_at "go"
    refine T.indexI (by walk_at "mem") (by omega) rfl hi1 fun t => ?_
    walk_at "go"
    refine T.gmInts (by walk_at "mem") PySem.F.slot_list_index PySem.F.type_list_index ?_
    walk_at "go"
    refine T.indexI (by walk_at "mem") (by omega) rfl hi2 fun t => ?_
    walk_at "go"
    have hlt : ¬ os.idxOf (e.2.1 : Int) < os.idxOf (e.2.2 : Int) := idx_lt hd h1 h2
    rw [if_neg (by simp only [decide_eq_true_eq]; omega)]
    exact ⟨[], _, by walk_at "pick", rfl, trivial⟩
  · rintro Dd ys lj ⟨rfl, rfl⟩
    dsimp only
    simp only [List.nil_append]
    refine T.weak (a := Dd) (p' := isInts []) .head (fun o e => ⟨[], .nil, e⟩) ?_
    walk_at "go"
    refine T.newI (ns := []) .nil fun ev => ?_
    refine T.neL hA (by walk_at "mem") (.head _) ?_
    walk_at "go"
    rw [if_neg (by decide)]
    walk_at "go"
    refine T.pick (t := (L, isNs m) :: (c7, isCell (some (.ref ov))) :: (ov, isInts os) :: l) ?_ (by walk_at "pick")
    exact h
set_option maxHeartbeats 8000000 in
theorem law16 {c1 : Addr} {m : Str → Option Value} {turn : Int} {t4 : Tok} {st ab ov : Addr} {sd : FuncData} {os : List Int} {zs : List Nat} {root : Nat} {tb : List (Addr × List Int)} {Q : Flow → Led → Prop} (hA : Ok A (d + 8)) (hn3 : 3 ≤ n) (hn5 : n ≤ 5) (hm1 : m "turn" = some (.int turn t4)) (hm2 : m "step" = some (.ref st)) (hm3 : m "able" = some (.ref ab)) (hab : (ab, isInts (natI zs)) ∈ l)
    (hst : (st, isFun sd) ∈ l) (hac : Acts b st (fun i => ∃ x : Nat, x < n ∧ i = x) (stepF tb) (d + 7) l) (hl : os.length = n) (hos : ∀ i ∈ os, ∃ x : Nat, x < n ∧ i = x) (hzn : zs.length ≤ n) (hz : zs ≠ []) (ht : 0 ≤ turn) (hri : (natI zs)[(turn.fmod (natI zs).length).toNat]? = some (root : Int))
    (hroot : ∀ x xs, os = x :: xs → xs.foldl (stepF tb) x = root) (h : Q (.ret (.bool true)) ((L, isNs m) :: (c7, isCell (some (.ref ov))) :: (ov, isInts os) :: l)) :
    T b A (execs ((lawB b.w.params).drop 18) (lawEnv b L fa (cs9 c1 c2 c3 c4 c5 c6 c7 c8 c9))) Q ((L, isNs m) :: (c7, isCell (some (.ref ov))) :: (ov, isInts os) :: l) := by
  refine (show T b A (execs (_ :: (lawB b.w.params).drop 19) (envX _ ⟨_, _, _, _, _⟩ _ _ _ _)) _ _ from ?_)
  obtain ⟨-, -, -, hf0, hf1⟩ := pick_turn hz ht
  have hnl : (natI zs).length = zs.length := by simp [natI]
  obtain ⟨x, xs, hx⟩ : ∃ x xs, os = x :: xs := by
    cases q : os with
    | nil => rw [q] at hl; simp at hl; omega
    | cons x xs => exact ⟨x, xs, rfl⟩
  subst hx
  walk_at "go"
  walk_at "K"
  walk_at "go"
  refine reduceT (d := d + 7) (P := fun i => ∃ x : Nat, x < n ∧ i = x) hA (.tail _ (.tail _ (.tail _ hst))) (by walk_at "mem") (hac.up fun p hp => .tail _ (.tail _ (.tail _ hp))) hos stepF_in fun t => ?_
  walk_at "go"
  refine T.lenI (.tail _ (.tail _ (.tail _ hab))) (by omega) fun t => ?_
  walk_at "go"
  refine T.mod (by rw [hnl]; have := List.length_pos_iff.mpr hz; omega) fun t => ?_
  dsimp only
  refine T.itemI (i := (root : Int)) (.tail _ (.tail _ (.tail _ hab))) hf0 (by omega) hri fun t => ?_
  rw [hroot x xs rfl]
  walk_at "go"
  rw [beq_self_eq_true]
  exact h
end

theorem placeOf_get {n x : Nat} {p : List Int} (hx : x < n) : (placeOf n p).getD x 0 = ((p.idxOf (x : Int) : Nat) : Int) := by
  unfold placeOf
  rw [List.getD_eq_getElem?_getD, List.getElem?_map, List.getElem?_range hx]; rfl
theorem idx_inj {p : List Int} {a c : Int} (ha : a ∈ p) (hc : c ∈ p) (h : p.idxOf a = p.idxOf c) : a = c := by
  have h1 := List.idxOf_lt_length_of_mem ha
  have h2 := List.idxOf_lt_length_of_mem hc
  have e1 : p[p.idxOf a] = a := List.getElem_idxOf h1
  have e2 : p[p.idxOf c] = c := List.getElem_idxOf h2
  rw [← e1, ← e2]
  simp only [h]
theorem cntLt_rev {P : List (List Int)} {x y : Nat} : cntLt P.reverse x y = cntLt P x y := by
  unfold cntLt; rw [List.filter_reverse, List.length_reverse]
theorem cnt_neg {P : List (List Int)} {x y : Nat} : (diffs P x y).countP (· < 0) = cntLt P x y := by
  unfold diffs cntLt
  rw [List.countP_map, ← List.countP_eq_length_filter]
  congr 1
  funext p
  simp only [Function.comp]
  rw [Bool.eq_iff_iff]; simp only [decide_eq_true_eq]; omega
theorem cnt_pos {P : List (List Int)} {x y : Nat} : (diffs P x y).countP (0 < ·) = cntLt P y x := by
  unfold diffs cntLt
  rw [List.countP_map, ← List.countP_eq_length_filter]
  congr 1
  funext p
  simp only [Function.comp]
  rw [Bool.eq_iff_iff]; simp only [decide_eq_true_eq]; omega
theorem cnt_tot {x y : Nat} : ∀ {P : List (List Int)}, (∀ p ∈ P, p.getD x 0 ≠ p.getD y 0) → cntLt P x y + cntLt P y x = P.length
  | [], _ => rfl
  | p :: P, h => by
    have ih := cnt_tot (P := P) fun q hq => h q (.tail _ hq)
    have hp := h p (.head _)
    unfold cntLt at ih ⊢
    rw [List.filter_cons, List.filter_cons]
    by_cases q : p.getD x 0 < p.getD y 0
    · rw [if_pos (decide_eq_true q), if_neg (by rw [decide_eq_false (by omega)]; decide)]
      simp only [List.length_cons]; omega
    · rw [if_neg (by rw [decide_eq_false q]; decide), if_pos (decide_eq_true (by omega))]
      simp only [List.length_cons]; omega
/-- what the law's data are -/
structure Data (n vt : Nat) (bs ps tb : List (Addr × List Int)) : Prop where
  v : vt = 3 ∨ vt = 5
  bl : bs.length = vt
  bp : ∀ e ∈ bs, e.2.Perm (rangeI n)
  pp : ps.map (·.2) = bs.map fun e => placeOf n e.2
  tl : tb.length = n
  tr : ∀ (x : Nat) e, tb.reverse[x]? = some e → RowOk (ps.reverse.map (·.2)) n x e.2
namespace Data
variable {n vt : Nat} {bs ps tb : List (Addr × List Int)} (D : Data n vt bs ps tb)
include D
theorem plen : (ps.map (·.2)).length = vt := by rw [D.pp, List.length_map, D.bl]
theorem tot {x y : Nat} (hx : x < n) (hy : y < n) (h : x ≠ y) : cntLt (ps.map (·.2)) x y + cntLt (ps.map (·.2)) y x = vt := by
  rw [← D.plen]
  refine cnt_tot fun p hp => ?_
  rw [D.pp] at hp
  obtain ⟨e, he, rfl⟩ := List.mem_map.mp hp
  rw [placeOf_get hx, placeOf_get hy]
  intro q
  have hpm := D.bp e he
  have := idx_inj (hpm.mem_iff.mpr (rangeI_mem hx)) (hpm.mem_iff.mpr (rangeI_mem hy)) (by omega)
  omega
theorem sign {x y : Nat} (hx : x < n) (hy : y < n) : decide (tabF tb x y < 0) = aheadM (ps.map (·.2)) vt x y ∧ decide (tabF tb x y > 0) = aheadM (ps.map (·.2)) vt y x := by
  obtain ⟨e, he⟩ : ∃ e, tb.reverse[x]? = some e := ⟨_, List.getElem?_eq_getElem (by have := D.tl; simp; omega)⟩
  obtain ⟨ns', h1, h2, h3⟩ := (D.tr x e he).2 y hy
  have hv : e.2.getD y 0 = tabF tb x y := by
    unfold tabF; rw [List.getD_eq_getElem?_getD (l := tb.reverse), he]; rfl
  have hl : (diffs (ps.reverse.map (·.2)) x y).length = vt := by
    unfold diffs; have := D.plen; simp at this ⊢; omega
  have hk : (diffs (ps.reverse.map (·.2)) x y).length = 2 * (vt / 2) + 1 := by have := D.v; omega
  rw [hv, hl] at h3
  have hm := median_sign h1 h2 hk h3
  rw [hl, cnt_neg, cnt_pos, List.map_reverse, cntLt_rev, cntLt_rev] at hm
  unfold aheadM
  constructor
  · rw [decide_eq_decide]; rw [hm.1]; omega
  · rw [decide_eq_decide]; rw [show (tabF tb x y > 0 ↔ 0 < tabF tb x y) from Iff.rfl, hm.2]; omega
theorem either {x y : Nat} (hx : x < n) (hy : y < n) (h : x ≠ y) : aheadM (ps.map (·.2)) vt x y = true ∨ aheadM (ps.map (·.2)) vt y x = true := by
  have h1 := D.tot hx hy h
  have h2 := D.v
  unfold aheadM
  rw [decide_eq_true_eq, decide_eq_true_eq]
  omega
end Data
abbrev beat (tb : List (Addr × List Int)) (x c : Int) : Bool := decide (tabF tb x.toNat c.toNat < 0)
theorem step_crown {tb : List (Addr × List Int)} : stepF tb = crown (beat tb) := by
  funext u v
  unfold stepF crown
  by_cases q : tabF tb v.toNat u.toNat < 0
  · rw [if_pos q, if_pos (decide_eq_true q)]
  · rw [if_neg q, if_neg (by show ¬ (decide _ = true); rw [decide_eq_false q]; decide)]
theorem of_range {n : Nat} {p : List Int} (hp : p.Perm (rangeI n)) {i : Int} (hi : i ∈ p) : ∃ x : Nat, x < n ∧ i = x := by
  have h1 := hp.mem_iff.mp hi
  unfold rangeI progI at h1
  obtain ⟨z, h2, h3⟩ := List.mem_map.mp h1
  exact ⟨z, List.mem_range.mp h2, by omega⟩
theorem range_nd (n : Nat) : (rangeI n).Nodup := (range_inc n).imp fun h e => by omega
theorem Data.crowned {n vt : Nat} {bs ps tb : List (Addr × List Int)} (D : Data n vt bs ps tb) {x : Int} {xs : List Int} (hp : (x :: xs).Perm (rangeI n)) : ∃ c : Nat, c < n ∧ xs.foldl (stepF tb) x = c ∧ Leads (aheadM (ps.map (·.2)) vt) n c := by
  rw [step_crown]
  obtain ⟨c, hc, hce⟩ := of_range hp (crown_mem (B := beat tb) xs x)
  refine ⟨c, hc, hce, fun S hS hcl y hy => ?_⟩
  have hd : (x :: xs).Nodup := hp.nodup_iff.mpr (range_nd n)
  have hB : ∀ a ∈ x :: xs, ∀ c ∈ x :: xs, beat tb a c = aheadM (ps.map (·.2)) vt a.toNat c.toNat := fun a ha c hc => by
    obtain ⟨a', ha1, rfl⟩ := of_range hp ha
    obtain ⟨c', hc1, rfl⟩ := of_range hp hc
    exact (D.sign ha1 hc1).1
  have := crown_reach (B := beat tb) (S := fun i => S i.toNat) xs x hd (fun a ha c hc hne => ?_) (fun a ha c hc hSa hb => ?_) [] (fun y hy => by cases hy) (by rw [hce]; exact hS)
  · have h2 := this.1 (y : Int) (hp.mem_iff.mpr (rangeI_mem hy))
    exact h2
  · obtain ⟨a', ha1, e1⟩ := of_range hp ha
    obtain ⟨c', hc1, e2⟩ := of_range hp hc
    rw [hB a ha c hc, hB c hc a ha]
    exact D.either (by omega) (by omega) (by omega)
  · obtain ⟨a', ha1, e1⟩ := of_range hp ha
    obtain ⟨c', hc1, e2⟩ := of_range hp hc
    rw [hB a ha c hc] at hb
    exact hcl _ _ (by omega) (by omega) hSa hb
theorem Data.run {n vt : Nat} {bs ps tb : List (Addr × List Int)} (D : Data n vt bs ps tb) {root : Nat} {kn : List Nat} {es : List (Nat × Nat)} {os : List Int} (hg : Grown (aheadM (ps.map (·.2)) vt) n root kn es) (hne : es ≠ []) (hr : root < n) (hd : os.Nodup) (hk : ∀ i ∈ os, i ∈ natI kn)
    (ho : ∀ e ∈ edgesI es, ∃ X Y, os = X ++ e.2 :: Y ∧ e.1 ∈ Y) : ∀ x xs, os = x :: xs → xs.foldl (stepF tb) x = root := by
  rintro x xs rfl
  have hR := hg.run hne
  rw [step_crown]
  refine crown_root (es := edgesI es) hd (fun e he => ?_) (fun y hy => ?_) ho
  · obtain ⟨p, c, hpc, rfl⟩ := mem_edgesI.mp he
    obtain ⟨h1, h2, h3, -⟩ := hg.edge _ hpc
    exact (D.sign (hg.lt hr p h1) (hg.lt hr c h2)).1.trans h3
  · obtain ⟨z, hz, rfl⟩ := List.mem_map.mp (hk y hy)
    rcases hR.top z hz with rfl | h
    · exact .inl rfl
    · exact .inr h

theorem Pick.same {t l : Led} (h : l.Perm t) : Pick t l := .perm h .refl
noncomputable def cntC (a : Addr × OP) (l : Led) : Nat := by
  classical
  exact List.count a l
theorem cntC_app (a : Addr × OP) (x y : Led) : cntC a (x ++ y) = cntC a x + cntC a y := by
  classical
  unfold cntC
  exact List.count_append
noncomputable def cnt1 (a b : Addr × OP) : Nat := cntC a [b]
theorem cntC_cons (a b : Addr × OP) (x : Led) : cntC a (b :: x) = cnt1 a b + cntC a x := cntC_app a [b] x
theorem permC {l t : Led} (h : ∀ a, cntC a l = cntC a t) : Pick t l := by
  classical
  refine .same (List.perm_iff_count.mpr fun a => ?_)
  have := h a
  unfold cntC at this
  exact this
local macro_rules | `(tactic| walk_at "ac") => `(tactic| (refine permC fun a => ?_; simp only [cntC_app, cntC_cons]; ac_rfl))
section
variable {b : Bs} {A : Around} {l : Led} {d : Nat} {c1 c2 c3 c4 c5 c6 c7 c8 c9 L fa : Addr}
set_option maxHeartbeats 8000000 in
theorem lawT {sc : Addr} {script : List Int} {Q : Flow → Led → Prop} (hA : Ok A (d + 8)) (hfr : A.frames = some [lawEnv b L fa (cs9 c1 c2 c3 c4 c5 c6 c7 c8 c9)]) (hb : ∀ l, T.Has b l sc script) (hlen : script.length ≤ 63) (h : ∀ l', (∃ u, (43, isPT u) ∈ l') → (∃ u, (200, isPT u) ∈ l') → Q (.ret (.bool true)) l') :
    T b A (execs (lawB b.w.params) (lawEnv b L fa (cs9 c1 c2 c3 c4 c5 c6 c7 c8 c9))) Q ((L, isNs (ofB [("script", .ref sc)])) :: (c1, isCell none) :: (c2, isCell none) :: (c3, isCell none) :: (c4, isCell none) :: (c5, isCell none) :: (c6, isCell none) :: (c7, isCell none) :: (c8, isCell none) :: (c9, isCell none) :: (43, isPT []) :: (200, isPT []) :: l) := by
  refine law1 hA hb hlen fun m0 n vt nums turn t2 t3 t4 na hn3 hn5 hv hml hbd ht ht2 hm0 => ?_
  refine law2 hA hn3 hn5 hv hml hbd hm0 fun m bl bs hm1 hm2 hbl hbs => ?_
  refine law3 (turn := turn) (t4 := t4) hA hn3 hn5 hv hm2 hbl hbs fun pl ps hps => ?_
  have hpl : ps.length = vt := by have := congrArg List.length hps; simp at this; omega
  have hpn : ∀ e ∈ ps, e.2.length = n := fun e he => by
    have h1 : e.2 ∈ ps.map (·.2) := List.mem_map_of_mem he
    rw [hps] at h1
    obtain ⟨e', -, h2⟩ := List.mem_map.mp h1
    rw [← h2]; simp [placeOf]
  refine T.pick (t := (L, isNs m) :: (c2, isCell (some (.int n t2))) :: (c3, isCell (some (.int vt t3))) :: (c4, isCell (some (.ref pl))) :: (c5, isCell none) :: (c6, isCell none) :: (c7, isCell none) :: (c8, isCell none) :: (c9, isCell none) :: (pl, isList (ps.reverse.map fun e => .ref e.1)) :: (ps.map ent2 ++ ((43, isPT []) :: (200, isPT []) :: (bl, isList (bs.reverse.map fun e => .ref e.1)) :: (bs.map ent2 ++ l)))) ?_ (by walk_at "ac")
  refine law4 hA hn3 hn5 (by omega) hpl hpn fun al rows hrows => ?_
  refine T.pick (t := (L, isNs m) :: (c2, isCell (some (.int n t2))) :: (c4, isCell (some (.ref pl))) :: (c5, isCell (some (.ref al))) :: (c6, isCell none) :: (c7, isCell none) :: (c8, isCell none) :: (c9, isCell none) :: (pl, isList (ps.reverse.map fun e => .ref e.1)) :: (ps.map ent2 ++ ((c3, isCell (some (.int vt t3))) :: (43, isPT []) :: (200, isPT []) :: (al, isList (rows.reverse.map fun e => .ref e.1)) :: (rows.map (entB (aheadM (ps.map (·.2)) vt) n) ++ ((bl, isList (bs.reverse.map fun e => .ref e.1)) :: (bs.map ent2 ++ l)))))) ?_ (by walk_at "ac")
  refine law5 (v3 := none) hA hn3 hn5 hv hpl hpn fun tl tb htl htb => ?_
  have D : Data n vt bs ps tb := ⟨hv, hbl, hbs, hps, htl, htb⟩
  have hrow : ∀ e ∈ tb, e.2.length = n := fun e he => by
    obtain ⟨x, hx⟩ := List.getElem?_of_mem (List.mem_reverse.mpr he)
    exact (htb x e hx).1
  refine T.pick (t := (L, isNs m) :: (c6, isCell none) :: (c9, isCell (some (.ref tl))) :: (43, isPT []) :: (200, isPT []) :: ((c2, isCell (some (.int n t2))) :: (c8, isCell none) :: (c7, isCell none) :: (c5, isCell (some (.ref al))) :: (tl, isList (tb.reverse.map fun e => .ref e.1)) :: (tb.map ent2 ++ ((c3, isCell (some (.int vt t3))) :: (al, isList (rows.reverse.map fun e => .ref e.1)) :: (rows.map (entB (aheadM (ps.map (·.2)) vt) n) ++ ((bl, isList (bs.reverse.map fun e => .ref e.1)) :: (bs.map ent2 ++ l))))))) ?_ (by walk_at "ac")
  refine law6 hA hn5 htl hrow fun g gd k X6 hk hkm hg ⟨u43, h43⟩ hact => ?_
  obtain ⟨R, hR⟩ : ∃ R : Led, R = (c5, isCell (some (.ref al))) :: (tl, isList (tb.reverse.map fun e => .ref e.1)) :: (tb.map ent2 ++ ((c3, isCell (some (.int vt t3))) :: (al, isList (rows.reverse.map fun e => .ref e.1)) :: (rows.map (entB (aheadM (ps.map (·.2)) vt) n) ++ ((bl, isList (bs.reverse.map fun e => .ref e.1)) :: (bs.map ent2 ++ l))))) := ⟨_, rfl⟩
  have r1 : (c5, isCell (some (.ref al))) ∈ R := by subst hR; exact .head _
  have r2 : (tl, isList (tb.reverse.map fun e => .ref e.1)) ∈ R := by subst hR; exact .tail _ (.head _)
  have r3 : ∀ e ∈ tb, (e.1, isInts e.2) ∈ R := fun e he => by subst hR; exact .tail _ (.tail _ (List.mem_append_left _ (List.mem_map_of_mem (f := ent2) he)))
  have r4 : (al, isList (rows.reverse.map fun e => .ref e.1)) ∈ R := by subst hR; exact .tail _ (.tail _ (List.mem_append_right _ (.tail _ (.head _))))
  have r5 : ∀ e ∈ rows, entB (aheadM (ps.map (·.2)) vt) n e ∈ R := fun e he => by subst hR; exact .tail _ (.tail _ (List.mem_append_right _ (.tail _ (.tail _ (List.mem_append_left _ (List.mem_map_of_mem he))))))
  have r6 : (bl, isList (bs.reverse.map fun e => .ref e.1)) ∈ R := by subst hR; exact .tail _ (.tail _ (List.mem_append_right _ (.tail _ (.tail _ (List.mem_append_right _ (.head _))))))
  have r7 : ∀ e ∈ bs, (e.1, isInts e.2) ∈ R := fun e he => by subst hR; exact .tail _ (.tail _ (List.mem_append_right _ (.tail _ (.tail _ (List.mem_append_right _ (.tail _ (List.mem_append_left _ (List.mem_map_of_mem (f := ent2) he))))))))
  rw [← hR]
  clear hR
  refine T.pick (t := (L, isNs m) :: (c2, isCell (some (.int n t2))) :: (c6, isCell (some (.ref k.C))) :: (c8, isCell none) :: (200, isPT [(216, 21)]) :: (X6 ++ ((c7, isCell none) :: R))) ?_ (by walk_at "ac")
  have hactS : ∀ l' : Led, (∀ p ∈ X6, p ∈ l') → (∀ p ∈ R, p ∈ l') → ActsN b g n (tabF tb) (d + 5) l' := fun l' h1 h2 => hact l' h1 (h2 _ r2) fun e he => h2 _ (r3 e he)
  refine law7 (d := d) (gd := gd) (tb := tb) hA hn5 hk (fun p hp => List.mem_append_left _ (hkm p hp)) fun kl ks X7 hK => ?_
  have hKS : ∀ l' : Led, (∀ p ∈ X7, p ∈ l') → (∀ p ∈ X6, p ∈ l') → (∀ p ∈ R, p ∈ l') → Keys b g gd k n tb c8 kl ks d l' := fun l' h1 h2 h3 => hK l' h1 (fun p hp => h2 _ (hkm p hp)) (h2 _ hg) (hactS l' h2 h3)
  refine T.pick (t := (L, isNs m) :: (200, isPT [(216, 21)]) :: ((c2, isCell (some (.int n t2))) :: (c7, isCell none) :: (X7 ++ (X6 ++ R)))) ?_ (by walk_at "ac")
  refine law8 (t2 := t2) (tb := tb) (g := g) (gd := gd) (k := k) (kl := kl) (ks := ks) (n := n) (d := d) hA hn5 fun st sd X8 hst ⟨u200, h200⟩ hact8 => ?_
  have f8 : ∀ p ∈ X8, p ∈ X8 ++ (X7 ++ (X6 ++ R)) := fun p hp => List.mem_append_left _ hp
  have f7 : ∀ p ∈ X7, p ∈ X8 ++ (X7 ++ (X6 ++ R)) := fun p hp => List.mem_append_right _ (List.mem_append_left _ hp)
  have f6 : ∀ p ∈ X6, p ∈ X8 ++ (X7 ++ (X6 ++ R)) := fun p hp => List.mem_append_right _ (List.mem_append_right _ (List.mem_append_left _ hp))
  have fR : ∀ p ∈ R, p ∈ X8 ++ (X7 ++ (X6 ++ R)) := fun p hp => List.mem_append_right _ (List.mem_append_right _ (List.mem_append_right _ hp))
  have KF := hKS _ f7 f6 fR
  have AF := hact8 _ f8 KF
  have HF : Ahd (aheadM (ps.map (·.2)) vt) n c5 al rows (X8 ++ (X7 ++ (X6 ++ R))) := ⟨fR _ r1, fR _ r4, fun e he => fR _ (r5 e he), hrows⟩
  have sF := f8 _ hst
  have p43 := f6 _ h43
  have p200 := f8 _ h200
  have bF := fR _ r6
  have eF : ∀ e ∈ bs, (e.1, isInts e.2) ∈ X8 ++ (X7 ++ (X6 ++ R)) := fun e he => fR _ (r7 e he)
  clear h43 h200 hact8 hst hKS hK hactS hact hg hkm hk f8 f7 f6 fR r1 r2 r3 r4 r5 r6 r7
  refine T.pick (t := (L, isNs (put "step" (.ref st) m)) :: (c2, isCell (some (.int n t2))) :: (c7, isCell none) :: (X8 ++ (X7 ++ (X6 ++ R)))) ?_ (by walk_at "ac")
  generalize X8 ++ (X7 ++ (X6 ++ R)) = F at KF AF HF sF bF eF p43 p200 ⊢
  refine law9 (d := d) hA hn5 (KF.up fun p hp => .tail _ hp) (HF.up fun p hp => .tail _ hp) (fun x y hx hy _ => D.sign hx hy) fun m2 hm2' => ?_
  refine law10 (d := d) hA hn3 hn5 (HF.up fun p hp => .tail _ hp) fun ab zs hz1 hz2 hzn => ?_
  have q : ∀ z : Str, z ≠ "x" → z ≠ "y" → z ≠ "able" → z ≠ "step" → put "able" (.ref ab) m2 z = m z := fun z h1 h2 h3 h4 => (if_neg h3).trans ((hm2' z h1 h2).trans (if_neg h4))
  have q1 : put "able" (.ref ab) m2 "turn" = some (.int turn t4) := (q _ (by decide) (by decide) (by decide) (by decide)).trans hm1
  have q2 : put "able" (.ref ab) m2 "ballots" = some (.ref bl) := (q _ (by decide) (by decide) (by decide) (by decide)).trans hm2
  have q3 : put "able" (.ref ab) m2 "step" = some (.ref st) := (if_neg (by decide)).trans ((hm2' _ (by decide) (by decide)).trans rfl)
  have q4 : put "able" (.ref ab) m2 "able" = some (.ref ab) := rfl
  generalize put "able" (.ref ab) m2 = m3 at q1 q2 q3 q4 ⊢
  have hcr : ∀ e ∈ bs, ∀ x xs, e.2 = x :: xs → xs.foldl (stepF tb) x ∈ natI zs := fun e he x xs hx => by
    obtain ⟨c, hc, hce, hcl⟩ := D.crowned (x := x) (xs := xs) (hx ▸ hbs e he)
    rw [hce]
    exact List.mem_map_of_mem (hz2 c hc hcl)
  have hzne : zs ≠ [] := by
    obtain ⟨e, he⟩ : ∃ e, e ∈ bs := List.exists_mem_of_length_pos (by omega)
    have hp := hbs e he
    cases hx : e.2 with
    | nil =>
      have h1 := hp.length_eq
      have h2 : (rangeI n).length = n := progI_length ..
      rw [hx] at h1; simp at h1; omega
    | cons x xs =>
      have := hcr e he x xs hx
      rintro rfl
      cases this
  refine law11 (d := d) (n := n) (tb := tb) (sd := sd) hA hn3 q2 q3 q4 (.tail _ (.tail _ (.tail _ bF))) (fun e he => .tail _ (.tail _ (.tail _ (eF e he)))) hbs (.tail _ (.tail _ (.tail _ sF))) (AF.up fun p hp => .tail _ (.tail _ (.tail _ hp))) (.tail _ (.head _)) hcr fun m4 hm4 => ?_
  have w1 : m4 "turn" = some (.int turn t4) := (hm4 _ (by decide)).trans q1
  have w3 : m4 "step" = some (.ref st) := (hm4 _ (by decide)).trans q3
  have w4 : m4 "able" = some (.ref ab) := (hm4 _ (by decide)).trans q4
  refine law12 (d := d) hA hn3 hn5 (HF.up fun p hp => .tail _ (.tail _ (.tail _ hp))) w1 w4 (.tail _ (.head _)) ht ht2 hzne hzn hz1 fun tv root kn es hrn hri hgr hel => ?_
  have x1 : put "tree" (.ref tv) m4 "turn" = some (.int turn t4) := (if_neg (by decide)).trans w1
  have x3 : put "tree" (.ref tv) m4 "step" = some (.ref st) := (if_neg (by decide)).trans w3
  have x4 : put "tree" (.ref tv) m4 "able" = some (.ref ab) := (if_neg (by decide)).trans w4
  have x5 : put "tree" (.ref tv) m4 "tree" = some (.ref tv) := rfl
  generalize put "tree" (.ref tv) m4 = m5 at x1 x3 x4 x5 ⊢
  refine T.pick (t := (L, isNs m5) :: (c7, isCell none) :: (c2, isCell (some (.int n t2))) :: (tv, isList (es.reverse.map fun e => .ref e.1)) :: (ab, isInts (natI zs)) :: (es.map ent ++ F)) ?_ (by walk_at "ac")
  refine law13 (d := d) (n := n) hA hn3 hn5 hfr x1 x5 (.tail _ (.head _)) (fun e he => .tail _ (.tail _ (.tail _ (List.mem_append_left _ (List.mem_map_of_mem he))))) ht ht2 hgr hel fun ov os o1 o2 o3 o4 => ?_
  refine T.pick (t := (L, isNs m5) :: (c2, isCell (some (.int n t2))) :: (c7, isCell (some (.ref ov))) :: (ov, isInts os) :: (tv, isList (es.reverse.map fun e => .ref e.1)) :: (ab, isInts (natI zs)) :: (es.map ent ++ F)) ?_ (by walk_at "ac")
  refine law14 (d := d) (kn := kn) hA hn5 o1 o2 (hgr.lt hrn) o3 ?_
  refine law15 (d := d) hA hn5 x5 (.head _) (fun e he => .tail _ (.tail _ (List.mem_append_left _ (List.mem_map_of_mem he)))) (by omega) o1 o3 o4 ?_
  have hne : es.map (·.2) ≠ [] := fun q => by
    have h0 : (es.map (·.2)).length = 0 := by rw [q]; rfl
    rw [List.length_map] at h0
    omega
  refine law16 (d := d) (n := n) (tb := tb) (sd := sd) (root := root) hA hn3 hn5 x1 x3 x4 (.tail _ (.head _)) (.tail _ (.tail _ (List.mem_append_right _ sF))) (AF.up fun p hp => .tail _ (.tail _ (List.mem_append_right _ hp))) o3 (fun i hi => ?_) hzn hzne ht hri (D.run hgr hne hrn o1 o2 o4) (h _ ⟨_, .tail _ (.tail _ (.tail _ (.tail _ (.tail _ (List.mem_append_right _ p43)))))⟩ ⟨_, .tail _ (.tail _ (.tail _ (.tail _ (.tail _ (List.mem_append_right _ p200)))))⟩)
  obtain ⟨x, hx, rfl⟩ := List.mem_map.mp (o2 i hi)
  exact ⟨x, hgr.lt hrn x hx, rfl⟩
end

theorem nd_head (L : Nat) (h1 : 43 < L) (h2 : 200 < L) : ([L, L + 1, L + 1 + 1, L + 1 + 1 + 1, L + 1 + 1 + 1 + 1, L + 1 + 1 + 1 + 1 + 1, L + 1 + 1 + 1 + 1 + 1 + 1, L + 1 + 1 + 1 + 1 + 1 + 1 + 1, L + 1 + 1 + 1 + 1 + 1 + 1 + 1 + 1, L + 1 + 1 + 1 + 1 + 1 + 1 + 1 + 1 + 1, 43, 200] : List Nat).Nodup := by
  simp only [List.nodup_cons, List.mem_cons, List.not_mem_nil, or_false, not_or, List.nodup_nil, and_true, not_false_eq_true]
  omega
theorem headEnd {w : World} {s₁ : Shared} {mg mb : Str → Option Value} {p : Program} {loose : List Str} {mean : ExcName → Option Value} {g h₁ : Heap} {tk : Tok} {L fa sc : Addr} {vs : List Value} {script : List Int} {o1 o2 o3 o4 o5 o6 o7 o8 o9 : Obj} {m : Str → Option Value} {Q : Flow → Shared → Prop} {E : Value → Shared → Prop}
    (X : (hd.heap_1 w.params).In g) (T : Top p loose mean mg mb g) (k47 : CodeHd g 47 43) (k202 : CodeHd g 202 200) (F : Fr g L h₁ m)
    (N : News g L h₁ [(L + 1 + 1 + 1 + 1 + 1 + 1 + 1 + 1 + 1, o9), (L + 1 + 1 + 1 + 1 + 1 + 1 + 1 + 1, o8), (L + 1 + 1 + 1 + 1 + 1 + 1 + 1, o7), (L + 1 + 1 + 1 + 1 + 1 + 1, o6), (L + 1 + 1 + 1 + 1 + 1, o5), (L + 1 + 1 + 1 + 1, o4), (L + 1 + 1 + 1, o3), (L + 1 + 1, o2), (L + 1, o1), (43, tabObj #[]), (200, tabObj #[])])
    (hm : m = ofB [("script", .ref sc)]) (d1 : o1.data = .cell none) (d2 : o2.data = .cell none) (d3 : o3.data = .cell none) (d4 : o4.data = .cell none) (d5 : o5.data = .cell none) (d6 : o6.data = .cell none) (d7 : o7.data = .cell none) (d8 : o8.data = .cell none) (d9 : o9.data = .cell none)
    (lt : 43 < L ∧ 200 < L) (hl : g.IsList sc vs.toArray) (hI : IntsAre vs script) (hlen : script.length ≤ 63)
    (hQ : ∀ s', (∀ a o, g.get? a = some o → s'.heap.get? a = some o) → s'.os = s₁.os → s'.gens = s₁.gens → GrownAll [(47, 43), (202, 200)] s'.heap → Q (.ret (.bool true)) s') :
    wpAny (model pg w) (callerA.deeper (envX "law" (lawSc w.params) L fa (.ref 202) (cs9 (L + 1) (L + 1 + 1) (L + 1 + 1 + 1) (L + 1 + 1 + 1 + 1) (L + 1 + 1 + 1 + 1 + 1) (L + 1 + 1 + 1 + 1 + 1 + 1) (L + 1 + 1 + 1 + 1 + 1 + 1 + 1) (L + 1 + 1 + 1 + 1 + 1 + 1 + 1 + 1) (L + 1 + 1 + 1 + 1 + 1 + 1 + 1 + 1 + 1))))
      (execs (lawB w.params) (envX "law" (lawSc w.params) L fa (.ref 202) (cs9 (L + 1) (L + 1 + 1) (L + 1 + 1 + 1) (L + 1 + 1 + 1 + 1) (L + 1 + 1 + 1 + 1 + 1) (L + 1 + 1 + 1 + 1 + 1 + 1) (L + 1 + 1 + 1 + 1 + 1 + 1 + 1) (L + 1 + 1 + 1 + 1 + 1 + 1 + 1 + 1) (L + 1 + 1 + 1 + 1 + 1 + 1 + 1 + 1 + 1)))) Q E { s₁ with heap := h₁, toks := tk } := by
  let b : Bs := ⟨w, mg, mb, { s₁ with heap := g }, ⟨X, T.g, T.b, T.nolimit, T.builtins, T.bmain, k47, k202⟩⟩
  have hfL : g.get? L = none := Heap.get?_none_of_le F.above
  have hI0 : In b ((L, isNs (ofB [("script", .ref sc)])) :: (L + 1, isCell none) :: (L + 1 + 1, isCell none) :: (L + 1 + 1 + 1, isCell none) :: (L + 1 + 1 + 1 + 1, isCell none) :: (L + 1 + 1 + 1 + 1 + 1, isCell none) :: (L + 1 + 1 + 1 + 1 + 1 + 1, isCell none) :: (L + 1 + 1 + 1 + 1 + 1 + 1 + 1, isCell none) :: (L + 1 + 1 + 1 + 1 + 1 + 1 + 1 + 1, isCell none) :: (L + 1 + 1 + 1 + 1 + 1 + 1 + 1 + 1 + 1, isCell none) :: (43, isPT []) :: (200, isPT []) :: []) { s₁ with heap := h₁, toks := tk } := by
    refine ⟨⟨F.keep, ?_, ?_, ?_⟩, ⟨_, _, rfl⟩⟩
    · have hns := isNs_of F.ns
      rw [hm] at hns
      refine List.forall_mem_cons.mpr ⟨hns, ?_⟩
      refine List.forall_mem_cons.mpr ⟨⟨o1, (N _ (.tail _ (.tail _ (.tail _ (.tail _ (.tail _ (.tail _ (.tail _ (.tail _ (.head _)))))))))).1, d1⟩, ?_⟩
      refine List.forall_mem_cons.mpr ⟨⟨o2, (N _ (.tail _ (.tail _ (.tail _ (.tail _ (.tail _ (.tail _ (.tail _ (.head _))))))))).1, d2⟩, ?_⟩
      refine List.forall_mem_cons.mpr ⟨⟨o3, (N _ (.tail _ (.tail _ (.tail _ (.tail _ (.tail _ (.tail _ (.head _)))))))).1, d3⟩, ?_⟩
      refine List.forall_mem_cons.mpr ⟨⟨o4, (N _ (.tail _ (.tail _ (.tail _ (.tail _ (.tail _ (.head _))))))).1, d4⟩, ?_⟩
      refine List.forall_mem_cons.mpr ⟨⟨o5, (N _ (.tail _ (.tail _ (.tail _ (.tail _ (.head _)))))).1, d5⟩, ?_⟩
      refine List.forall_mem_cons.mpr ⟨⟨o6, (N _ (.tail _ (.tail _ (.tail _ (.head _))))).1, d6⟩, ?_⟩
      refine List.forall_mem_cons.mpr ⟨⟨o7, (N _ (.tail _ (.tail _ (.head _)))).1, d7⟩, ?_⟩
      refine List.forall_mem_cons.mpr ⟨⟨o8, (N _ (.tail _ (.head _))).1, d8⟩, ?_⟩
      refine List.forall_mem_cons.mpr ⟨⟨o9, (N _ (.head _)).1, d9⟩, ?_⟩
      refine List.forall_mem_cons.mpr ⟨⟨_, (N _ (.tail _ (.tail _ (.tail _ (.tail _ (.tail _ (.tail _ (.tail _ (.tail _ (.tail _ (.head _))))))))))).1, isPT.none⟩, ?_⟩
      refine List.forall_mem_cons.mpr ⟨⟨_, (N _ (.tail _ (.tail _ (.tail _ (.tail _ (.tail _ (.tail _ (.tail _ (.tail _ (.tail _ (.tail _ (.head _)))))))))))).1, isPT.none⟩, ?_⟩
      exact fun _ h => by cases h
    · have up : ∀ k, L ≤ k → g.get? k = none := fun k hk => Heap.get?_none_of_le (Nat.le_trans F.above hk)
      have n43 := (N _ (.tail _ (.tail _ (.tail _ (.tail _ (.tail _ (.tail _ (.tail _ (.tail _ (.tail _ (.head _))))))))))).2.2
      have n200 := (N _ (.tail _ (.tail _ (.tail _ (.tail _ (.tail _ (.tail _ (.tail _ (.tail _ (.tail _ (.tail _ (.head _)))))))))))).2.2
      have u1 : ∀ k : Nat, L ≤ k → g.get? k = none := up
      have upk : ∀ k : Nat, g.get? (L + k) = none := fun k => u1 _ (Nat.le_add_right L k)
      refine List.forall_mem_cons.mpr ⟨upk 0, List.forall_mem_cons.mpr ⟨upk 1, List.forall_mem_cons.mpr ⟨upk 2, List.forall_mem_cons.mpr ⟨upk 3, List.forall_mem_cons.mpr ⟨upk 4, List.forall_mem_cons.mpr ⟨upk 5, List.forall_mem_cons.mpr ⟨upk 6, List.forall_mem_cons.mpr ⟨upk 7, List.forall_mem_cons.mpr ⟨upk 8, List.forall_mem_cons.mpr ⟨upk 9, List.forall_mem_cons.mpr ⟨n43, List.forall_mem_cons.mpr ⟨n200, fun _ h => by cases h⟩⟩⟩⟩⟩⟩⟩⟩⟩⟩⟩⟩
    · exact nd_head L lt.1 lt.2
  have hA0 : Ok callerA 9 := ⟨rfl, by decide, by decide⟩
  refine (lawT (b := b) (d := 0) (l := []) (Q := fun fl l' => fl = .ret (.bool true) ∧ (∃ u, (43, isPT u) ∈ l') ∧ (∃ u, (200, isPT u) ∈ l')) hA0.deeper rfl (fun l => Mine.T.hasBase hI hl) hlen fun l' h1 h2 => ⟨rfl, h1, h2⟩).to hI0 fun fl s' l' I' h' => ?_
  obtain ⟨rfl, ⟨u1, h1⟩, ⟨u2, h2⟩⟩ := h'
  obtain ⟨h', tk', e⟩ := I'.sh
  obtain ⟨o, e1, ps, rfl, -⟩ := I'.st.get h1
  obtain ⟨o', e2, ps', rfl, -⟩ := I'.st.get h2
  exact hQ s' I'.st.keep (by rw [e]) (by rw [e]) ⟨⟨ps, e1⟩, ⟨ps', e2⟩, trivial⟩
theorem ofB_one {n : Str} {v : Value} : (fun y => if y = n then some v else none) = ofB [(n, v)] := by
  funext y
  unfold ofB
  rw [List.reverse_singleton, List.lookup_cons]
  by_cases h : y = n
  · subst h; simp
  · rw [if_neg h, beq_false_of_ne h]; rfl

theorem kc_nine {cm : Str → Option Value} {n₀ n₁ n₂ n₃ n₄ n₅ n₆ n₇ n₈ : Str} {c₀ c₁ c₂ c₃ c₄ c₅ c₆ c₇ c₈ : Addr} {cells : List (Addr × Obj)} (x : CellsAre cm [(n₀, c₀), (n₁, c₁), (n₂, c₂), (n₃, c₃), (n₄, c₄), (n₅, c₅), (n₆, c₆), (n₇, c₇), (n₈, c₈)] cells) :
    ∃ o₀ o₁ o₂ o₃ o₄ o₅ o₆ o₇ o₈, cells = [(c₀, o₀), (c₁, o₁), (c₂, o₂), (c₃, o₃), (c₄, o₄), (c₅, o₅), (c₆, o₆), (c₇, o₇), (c₈, o₈)] ∧ o₀.data = .cell (cm n₀) ∧ o₁.data = .cell (cm n₁) ∧ o₂.data = .cell (cm n₂) ∧ o₃.data = .cell (cm n₃) ∧ o₄.data = .cell (cm n₄) ∧ o₅.data = .cell (cm n₅) ∧ o₆.data = .cell (cm n₆) ∧ o₇.data = .cell (cm n₇) ∧ o₈.data = .cell (cm n₈) := by
  cases x with
  | cons h r => obtain ⟨o₁, o₂, o₃, o₄, o₅, o₆, o₇, o₈, rfl, h₁, h₂, h₃, h₄, h₅, h₆, h₇, h₈⟩ := kc_eight r; exact ⟨_, o₁, o₂, o₃, o₄, o₅, o₆, o₇, o₈, rfl, h, h₁, h₂, h₃, h₄, h₅, h₆, h₇, h₈⟩
end Mine
local macro_rules | `(tactic| cells_open $x:ident) => `(tactic| (obtain ⟨_, _, _, _, _, _, _, _, _, he, d0, d1, d2, d3, d4, d5, d6, d7, d8⟩ := Mine.kc_nine $x; subst he))
namespace Mine
set_option maxHeartbeats 8000000 in
theorem whole : PySem.Challenge.rw_il0175_01.Holds := by
  refine hd ?_
  k_go0
  rename_i hI hr hc1 hc2 hD h1 tk1 w8 w7 w6 w5 w4 w3 w2 w1 w0 d0 d1 d2 d3 d4 d5 d6 d7 d8 X0 X' T' K' F' k47 N' l0
  clear X0 hD hr
  refine headEnd X' T' k47 codeHd F' N' ((show _ = (fun y => if y = Str.ofString "script" then some (Value.ref _) else none) from by kernel_rfl).trans ofB_one) (d8.trans (by kernel_rfl)) (d7.trans (by kernel_rfl)) (d6.trans (by kernel_rfl)) (d5.trans (by kernel_rfl)) (d4.trans (by kernel_rfl)) (d3.trans (by kernel_rfl)) (d2.trans (by kernel_rfl)) (d1.trans (by kernel_rfl)) (d0.trans (by kernel_rfl)) l0 lifted hI (by omega) fun s' hk hos hg' hgr => ?_
  exact ⟨⟨.inl ⟨.bool true, .bool true, [], rfl, fun _ => rfl, .bool true, by kernel_rfl, fun _ => ⟨List.nodup_nil, fun _ h => by cases h⟩⟩, hk, hos, hg'.trans (by assumption)⟩, hgr⟩
end Mine
theorem PySem.Challenge.cw_il0175_01_holds : PySem.Challenge.rw_il0175_01.Holds := by
  exact Mine.whole
