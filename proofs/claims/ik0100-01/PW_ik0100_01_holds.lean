import PyProof.Rows.All
import Wide.All
import OpenK.AllK
import Wide.FinOn
import PyProof.IsiH_dict
import PyProof.IsiH_set
import PyProof.ObjNew
import Open.Line
import Lean
import PySem.Challenge.RW_ik0100_01
set_option Elab.async false
set_option maxRecDepth 100000
set_option linter.unusedVariables false
set_option linter.unusedSimpArgs false
set_option linter.unnecessarySimpa false
namespace Mine
open PySem PySem.W PyProof.Rows PySem.Calls PySem.Spec
abbrev Le (g h : Heap) : Prop := ∀ b o, g.get? b = some o → h.get? b = some o
theorem Le.rfl' {g : Heap} : Le g g := fun _ _ e => e
theorem Le.tr {a b c : Heap} (x : Le a b) (y : Le b c) : Le a c := fun d o e => y d o (x d o e)
structure St (h₀ : Heap) (xt : List Addr) (g₀ g : Heap) (L : Addr) (N : List Str) (vs : List (Option Value)) (mu : List (Addr × Obj)) (h : Heap) : Prop where
 len : vs.length = N.length
 ns : ∃ m, h.Ns L m ∧ ∀ (i : Nat) (x : Str), N[i]? = some x → m x = (vs[i]?).join
 base : ∀ b o, b ∉ xt → h₀.get? b = some o → h.get? b = some o
 keep : Le g h
 low : h₀.objs.size ≤ L
 outg : g.get? L = none
 mt : ∀ p ∈ mu, h.get? p.1 = some p.2 ∧ p.1 ≠ L ∧ g.get? p.1 = none ∧ (p.1 ∈ xt ∨ h₀.objs.size ≤ p.1)
 nd : (mu.map (·.1)).Nodup
 mono : Le g₀ g
 fresh : ∀ b o, g.get? b = some o → g₀.get? b = none → h₀.objs.size ≤ b
structure Out (h₀ : Heap) (xt : List Addr) (g₀ g' h' : Heap) : Prop where
 mono : Le g₀ g'
 keep : Le g' h'
 base : ∀ b o, b ∉ xt → h₀.get? b = some o → h'.get? b = some o
 fresh : ∀ b o, g'.get? b = some o → g₀.get? b = none → h₀.objs.size ≤ b
 size : h₀.objs.size ≤ h'.objs.size
section
variable {h₀ g₀ g h h' : Heap} {xt : List Addr} {L : Addr} {N : List Str} {vs : List (Option Value)} {mu : List (Addr × Obj)}
theorem St.lt (F : St h₀ xt g₀ g L N vs mu h) : L < h.objs.size := let ⟨_, a, _⟩ := F.ns; a.lt
theorem St.out (F : St h₀ xt g₀ g L N vs mu h) : Out h₀ xt g₀ g h := ⟨F.mono, F.keep, F.base, F.fresh, Nat.le_trans F.low (Nat.le_of_lt F.lt)⟩
theorem St.none_size (F : St h₀ xt g₀ g L N vs mu h) : g.get? h.objs.size = none := by
 cases q : g.get? h.objs.size with
 | none => rfl
 | some o => exact absurd (Heap.lt_size (F.keep _ _ q)) (Nat.lt_irrefl _)
theorem St.lowSz (F : St h₀ xt g₀ g L N vs mu h) : h₀.objs.size ≤ h.objs.size := F.out.size
theorem St.more (F : St h₀ xt g₀ g L N vs mu h) (k : Le h h') : St h₀ xt g₀ g L N vs mu h' where
 len := F.len
 ns := let ⟨m, a, b⟩ := F.ns; ⟨m, a.keeps k, b⟩
 base := fun b o hb e => k b o (F.base b o hb e)
 keep := F.keep.tr k
 low := F.low
 outg := F.outg
 mt := fun p hp => ⟨k _ _ (F.mt p hp).1, (F.mt p hp).2⟩
 nd := F.nd
 mono := F.mono
 fresh := F.fresh
def only (h : Heap) (p : Addr → Bool) : Heap := ⟨h.objs.mapIdx fun i o => if p i then o else { o with data := .freed }, h.life⟩
theorem only_get (h : Heap) (p : Addr → Bool) (b : Addr) : (only h p).get? b = if p b then h.get? b else none := by
 unfold only Heap.get?
 simp only [Array.getElem?_mapIdx]
 cases q : h.objs[b]? with
 | none => simp
 | some o =>
  simp only [Option.map_some]
  cases e : p b with
  | true => simp
  | false => simp
theorem only_le (h : Heap) (p : Addr → Bool) : Le (only h p) h := fun b o e => by
 rw [only_get] at e
 split at e
 · exact e
 · cases e
theorem St.call (F : St h₀ xt g₀ g L N vs mu h) {g' : Heap} (o : Out h [] g g' h') : St h₀ xt g₀ g' L N vs mu h' where
 len := F.len
 ns := let ⟨m, a, b⟩ := F.ns; ⟨m, a.keeps fun c x => o.base c x (by simp), b⟩
 base := fun b x hb e => o.base b x (by simp) (F.base b x hb e)
 keep := o.keep
 low := F.low
 outg := by
  cases q : g'.get? L with
  | none => rfl
  | some x => exact absurd (o.fresh L x q F.outg) (Nat.not_le.mpr F.lt)
 mt := fun p hp => ⟨o.base _ _ (by simp) (F.mt p hp).1, (F.mt p hp).2.1, by
  cases q : g'.get? p.1 with
  | none => rfl
  | some x => exact absurd (o.fresh _ x q (F.mt p hp).2.2.1) (Nat.not_le.mpr (Heap.lt_size (F.mt p hp).1)), (F.mt p hp).2.2.2⟩
 nd := F.nd
 mono := F.mono.tr o.mono
 fresh := fun b x e e0 => by
  cases q : g.get? b with
  | some y => exact F.fresh b y q e0
  | none => exact Nat.le_trans F.lowSz (o.fresh b x e q)
theorem out_of (kg : Le g h) (k : Le h h') (hs : h.objs.size ≤ h'.objs.size) : Out h [] g (only h' fun b => (g.get? b).isSome || decide (h.objs.size ≤ b)) h' where
 mono := fun b o e => by rw [only_get, e]; simpa using k b o (kg b o e)
 keep := only_le _ _
 base := fun b o _ e => k b o e
 fresh := fun b o e e0 => by
  rw [only_get, e0] at e
  by_cases q : h.objs.size ≤ b
  · exact q
  · simp [q] at e
 size := hs
theorem St.made (F : St h₀ xt g₀ g L N vs mu h) (o : Obj) (hf : o.isFreed = false := by rfl) :
 ∃ g', Le g g' ∧ g'.get? h.objs.size = some o ∧ St h₀ xt g₀ g' L N vs mu (h.push o) := by
 have k : Le h (h.push o) := fun b x e => Heap.get?_push_of_some _ e
 have O := out_of F.keep k (by rw [Heap.size_push]; exact Nat.le_succ _)
 refine ⟨_, O.mono, ?_, F.call O⟩
 rw [only_get]
 simp [Heap.get?_push_size h hf]
theorem St.own (F : St h₀ xt g₀ g L N vs mu h) (o : Obj) (hf : o.isFreed = false := by rfl) : St h₀ xt g₀ g L N vs ((h.objs.size, o) :: mu) (h.push o) where
 len := F.len
 ns := (F.more (h' := h.push o) fun b x e => Heap.get?_push_of_some _ e).ns
 base := (F.more (h' := h.push o) fun b x e => Heap.get?_push_of_some _ e).base
 keep := (F.more (h' := h.push o) fun b x e => Heap.get?_push_of_some _ e).keep
 low := F.low
 outg := F.outg
 mt := fun p hp => by
  rcases List.mem_cons.mp hp with rfl | hp
  · exact ⟨Heap.get?_push_size _ hf, Nat.ne_of_gt F.lt, F.none_size, .inr F.lowSz⟩
  · exact (F.more (h' := h.push o) fun b x e => Heap.get?_push_of_some _ e).mt p hp
 nd := by
  refine List.nodup_cons.mpr ⟨fun hm => ?_, F.nd⟩
  obtain ⟨p, hp, e⟩ := List.mem_map.mp hm
  have := Heap.lt_size (F.mt p hp).1
  rw [e] at this
  exact Nat.lt_irrefl _ this
 mono := F.mono
 fresh := F.fresh
theorem St.turn (F : St h₀ xt g₀ g L N vs mu h) {a : Addr} {o o' : Obj} {pre post : List (Addr × Obj)} (e : mu = pre ++ (a, o) :: post) (hs : Heap.SameBut a h h') (ha : h'.get? a = some o') :
 St h₀ xt g₀ g L N vs (pre ++ (a, o') :: post) h' := by
 subst e
 have ma := F.mt (a, o) (by simp)
 have nd := F.nd
 rw [List.map_append, List.map_cons] at nd
 have n1 : ∀ p ∈ pre, p.1 ≠ a := fun p hp q => (List.nodup_append.mp nd).2.2 p.1 (List.mem_map_of_mem hp) a (.head _) q
 have n2 : ∀ p ∈ post, p.1 ≠ a := fun p hp q => (List.nodup_cons.mp (List.nodup_append.mp nd).2.1).1 (by have z : p.1 ∈ post.map (·.1) := List.mem_map_of_mem hp; rwa [q] at z)
 exact {
  len := F.len
  ns := let ⟨m, x, y⟩ := F.ns; ⟨m, x.sameBut hs (Ne.symm ma.2.1), y⟩
  base := fun b o hb e => by
   have ne : b ≠ a := fun q => by
    subst q
    rcases ma.2.2.2 with z | z
    · exact hb z
    · exact absurd (Heap.lt_size e) (Nat.not_lt.mpr z)
   exact (hs.2 b ne).trans (F.base b o hb e)
  keep := fun b o e => by
   have ne : b ≠ a := fun q => by subst q; rw [ma.2.2.1] at e; cases e
   exact (hs.2 b ne).trans (F.keep b o e)
  low := F.low
  outg := F.outg
  mt := fun p hp => by
   rcases List.mem_append.mp hp with q | q
   · have P := F.mt p (List.mem_append_left _ q)
     exact ⟨(hs.2 _ (n1 p q)).trans P.1, P.2⟩
   · rcases List.mem_cons.mp q with rfl | q
     · exact ⟨ha, ma.2⟩
     · have P := F.mt p (List.mem_append_right _ (.tail _ q))
       exact ⟨(hs.2 _ (n2 p q)).trans P.1, P.2⟩
  nd := by rw [List.map_append, List.map_cons]; exact nd
  mono := F.mono
  fresh := F.fresh }
theorem St.freeze (F : St h₀ xt g₀ g L N vs mu h) {a : Addr} {o : Obj} {pre post : List (Addr × Obj)} (e : mu = pre ++ (a, o) :: post) (ha : h₀.objs.size ≤ a) :
 ∃ g', Le g g' ∧ g'.get? a = some o ∧ St h₀ xt g₀ g' L N vs (pre ++ post) h := by
 subst e
 have ma := F.mt (a, o) (by simp)
 have nd := F.nd
 rw [List.map_append, List.map_cons] at nd
 have n1 : ∀ p ∈ pre, p.1 ≠ a := fun p hp q => (List.nodup_append.mp nd).2.2 p.1 (List.mem_map_of_mem hp) a (.head _) q
 have n2 : ∀ p ∈ post, p.1 ≠ a := fun p hp q => (List.nodup_cons.mp (List.nodup_append.mp nd).2.1).1 (by have z : p.1 ∈ post.map (·.1) := List.mem_map_of_mem hp; rwa [q] at z)
 let g' := only h fun b => (g.get? b).isSome || decide (b = a)
 have get (b : Addr) (hb : b ≠ a) : g'.get? b = g.get? b := by
  show (only _ _).get? b = _
  rw [only_get]
  cases q : g.get? b with
  | none => simp [hb]
  | some x => simp [F.keep b x q]
 refine ⟨g', fun b x q => ?_, ?_, ?_⟩
 · show (only _ _).get? b = _
   rw [only_get, q]
   simpa using F.keep b x q
 · show (only _ _).get? a = _
   rw [only_get]
   simp [ma.1]
 · exact {
    len := F.len
    ns := F.ns
    base := F.base
    keep := only_le _ _
    low := F.low
    outg := by rw [get L (Ne.symm ma.2.1)]; exact F.outg
    mt := fun p hp => by
     have q : p ∈ pre ++ (a, o) :: post := (List.mem_append.mp hp).elim (fun x => List.mem_append_left _ x) fun x => List.mem_append_right _ (.tail _ x)
     have P := F.mt p q
     have ne : p.1 ≠ a := (List.mem_append.mp hp).elim (n1 p) (n2 p)
     exact ⟨P.1, P.2.1, by rw [get _ ne]; exact P.2.2.1, P.2.2.2⟩
    nd := by
     rw [List.map_append]
     have := List.nodup_append.mp nd
     exact List.nodup_append.mpr ⟨this.1, (List.nodup_cons.mp this.2.1).2, fun x hx y hy => this.2.2 x hx y (.tail _ hy)⟩
    mono := fun b x q => by
     show (only _ _).get? b = _
     rw [only_get, F.mono b x q]
     simpa using F.keep b x (F.mono b x q)
    fresh := fun b x q q0 => by
     by_cases e : b = a
     · subst e; exact ha
     · rw [get b e] at q; exact F.fresh b x q q0 }
theorem St.set (F : St h₀ xt g₀ g L N vs mu h) {m m' : Str → Option Value} {x : Str} {v : Value} {i : Nat} (hx : N[i]? = some x) (hN : N.Nodup)
 (hm : h.Ns L m) (hn : h'.Ns L m') (hs : Heap.SameBut L h h') (e : m' = fun y => if y = x then some v else m y) : St h₀ xt g₀ g L N (vs.set i (some v)) mu h' where
 len := by rw [List.length_set]; exact F.len
 ns := ⟨m', hn, fun j y hy => by
  subst e
  obtain ⟨m₀, hm₀, hv⟩ := F.ns
  have em : m₀ = m := by
   obtain ⟨o, es, ep, a1, a2, a3, a4⟩ := hm₀
   obtain ⟨o', es', ep', b1, b2, b3, b4⟩ := hm
   rw [a1] at b1; cases b1
   rw [a2] at b2; cases b2
   funext z; rw [← a4 z, ← b4 z]
  subst em
  obtain ⟨li, ei⟩ := List.getElem?_eq_some_iff.mp hx
  obtain ⟨lj, ej⟩ := List.getElem?_eq_some_iff.mp hy
  by_cases q : j = i
  · subst q
    have : y = x := by rw [← ei, ← ej]
    subst this
    simp [F.len, li]
  · have ne : y ≠ x := fun z => q ((List.getElem_inj hN).mp (ej.trans (z.trans ei.symm)))
    simp only [if_neg ne]
    rw [hv j y hy, List.getElem?_set_ne (Ne.symm q)]⟩
 base := fun b o hb e' => (hs.2 b (fun q => absurd (Heap.lt_size e') (Nat.not_lt.mpr (q ▸ F.low)))).trans (F.base b o hb e')
 keep := fun b o e' => (hs.2 b (fun q => by subst q; rw [F.outg] at e'; cases e')).trans (F.keep b o e')
 low := F.low
 outg := F.outg
 mt := fun p hp => ⟨(hs.2 _ (F.mt p hp).2.1).trans (F.mt p hp).1, (F.mt p hp).2⟩
 nd := F.nd
 mono := F.mono
 fresh := F.fresh
end
structure Cx (env : Env) (N Gl : List Str) : Prop where
 kind : env.scope.kind = .function
 nodup : N.Nodup
 loc : ∀ (i : Nat) (x : Str), N[i]? = some x → env.kindOf x = some .local ∧ (x == ("__debug__" : Str)) = false
 glob : ∀ x ∈ Gl, env.kindOf x = some .globalImplicit ∧ (x == ("__debug__" : Str)) = false
 globals : env.globals = mainGlobals
 builtins : env.builtins = builtinsNs
def named (sc : Scope) (k : NameKind) (x : Str) : Bool := decide (sc.names.lookup x = some k) && !(x == ("__debug__" : Str))
def chk (fd : FuncData) (ps rest Gl : List Str) : Bool :=
 decide (fd.scope.kind = .function) && !fd.scope.isCoroutine && !fd.scope.isGenerator && decide (ps ++ rest).Nodup && (ps ++ rest).all (named fd.scope .local) && Gl.all (named fd.scope .globalImplicit) &&
 fd.scope.names.all (fun x => decide (x.2 ≠ .cell)) && decide (fd.globals = mainGlobals) && decide (fd.builtins = builtinsNs)
structure Ok (A : Around) (n : Nat) : Prop where
 handled : A.handled = none
 depth : A.depth + 8 * n < 900
 units : A.units + 24 * n < 9800
theorem Ok.room {A : Around} {n : Nat} (h : Ok A n) : A.depth < recursionLimit := by have := h.depth; unfold recursionLimit; omega
theorem Ok.c {A : Around} {n : Nat} (h : Ok A n) : A.units + 65 < cLine := by have := h.units; unfold cLine; omega
theorem Ok.deeper {A : Around} {n : Nat} {env : Env} (h : Ok A (n + 1)) : Ok (A.deeper env) n := ⟨h.handled, by have := h.depth; show A.depth + 1 + 8 * n < 900; omega, by have := h.units; show A.units + 3 + 24 * n < 9800; omega⟩
theorem Ok.in1 {A : Around} {n : Nat} (h : Ok A (n + 1)) : Ok A.in1 n := ⟨h.handled, by have := h.depth; show A.depth + 8 * n < 900; omega, by have := h.units; show A.units + 1 + 24 * n < 9800; omega⟩
theorem Ok.le {A : Around} {n m : Nat} (h : Ok A n) (q : m ≤ n) : Ok A m := ⟨h.handled, by have := h.depth; omega, by have := h.units; omega⟩
section
variable {prog : Program} {w : World} {A : Around} {E : Value → Shared → Prop} {s : Shared} {env : Env}
variable {h₀ g₀ g : Heap} {xt : List Addr} {N Gl : List Str} {vs : List (Option Value)} {mu : List (Addr × Obj)}
theorem ldI (C : Cx env N Gl) (F : St h₀ xt g₀ g env.locals N vs mu s.heap) (i : Nat) {x : Str} {pos : Pos} {v : Value} {Q : Value → Shared → Prop} (hx : N[i]? = some x) (hv : vs[i]? = some (some v)) (h : Q v s) :
 wpAny (model prog w) A (eval (.Name x pos) env) Q E s := by
 obtain ⟨m, hm, hl⟩ := F.ns
 exact wpAny_Name (wpAny_loadName_local C.kind (C.loc i x hx).1 hm (by rw [hl i x hx, hv]; rfl) h) (C.loc i x hx).2
theorem ldnI (C : Cx env N Gl) (F : St h₀ xt g₀ g env.locals N vs mu s.heap) (i : Nat) {x : Str} {v : Value} {Q : Value → Shared → Prop} (hx : N[i]? = some x) (hv : vs[i]? = some (some v)) (h : Q v s) :
 wpAny (model prog w) A (loadName env x) Q E s := by
 obtain ⟨m, hm, hl⟩ := F.ns
 exact wpAny_loadName_local C.kind (C.loc i x hx).1 hm (by rw [hl i x hx, hv]; rfl) h
theorem stI (C : Cx env N Gl) (F : St h₀ xt g₀ g env.locals N vs mu s.heap) (i : Nat) {x : Str} {v : Value} {Q : Unit → Shared → Prop} (hx : N[i]? = some x)
 (h : ∀ h', St h₀ xt g₀ g env.locals N (vs.set i (some v)) mu h' → Q () { s with heap := h', toks := s.toks + 1 }) : wpAny (model prog w) A (storeName env x v) Q E s := by
 obtain ⟨m, hm, hl⟩ := F.ns
 exact wpAny_storeName_local (C.loc i x hx).1 hm (fun h' hn hs => h h' (F.set hx C.nodup hm hn hs rfl)) (by rw [C.kind]; rfl)
end
section
variable {prog : Program} {w : World} {A : Around} {E : Value → Shared → Prop} {s : Shared} {env : Env}
variable {h₀ g₀ g : Heap} {xt : List Addr} {nr Gl : List Str} {vr : List (Option Value)} {mu : List (Addr × Obj)} {x : Str} {pos : Pos} {v : Value} {u : Option Value}
theorem ld0 {Q : Value → Shared → Prop} (C : Cx env (x :: nr) Gl) (F : St h₀ xt g₀ g env.locals (x :: nr) (some v :: vr) mu s.heap) (h : Q v s) : wpAny (model prog w) A (eval (.Name x pos) env) Q E s := ldI C F 0 rfl rfl h
theorem st0 {Q : Unit → Shared → Prop} (C : Cx env (x :: nr) Gl) (F : St h₀ xt g₀ g env.locals (x :: nr) (u :: vr) mu s.heap) (h : ∀ h', St h₀ xt g₀ g env.locals (x :: nr) (some v :: vr) mu h' → Q () { s with heap := h', toks := s.toks + 1 }) : wpAny (model prog w) A (storeName env x v) Q E s := stI C F 0 rfl h
theorem ld1 {n0 : Str} {v0 : Option Value} {Q : Value → Shared → Prop} (C : Cx env (n0 :: x :: nr) Gl) (F : St h₀ xt g₀ g env.locals (n0 :: x :: nr) (v0 :: some v :: vr) mu s.heap) (h : Q v s) : wpAny (model prog w) A (eval (.Name x pos) env) Q E s := ldI C F 1 rfl rfl h
theorem st1 {n0 : Str} {v0 : Option Value} {Q : Unit → Shared → Prop} (C : Cx env (n0 :: x :: nr) Gl) (F : St h₀ xt g₀ g env.locals (n0 :: x :: nr) (v0 :: u :: vr) mu s.heap) (h : ∀ h', St h₀ xt g₀ g env.locals (n0 :: x :: nr) (v0 :: some v :: vr) mu h' → Q () { s with heap := h', toks := s.toks + 1 }) : wpAny (model prog w) A (storeName env x v) Q E s := stI C F 1 rfl h
theorem ld2 {n0 n1 : Str} {v0 v1 : Option Value} {Q : Value → Shared → Prop} (C : Cx env (n0 :: n1 :: x :: nr) Gl) (F : St h₀ xt g₀ g env.locals (n0 :: n1 :: x :: nr) (v0 :: v1 :: some v :: vr) mu s.heap) (h : Q v s) : wpAny (model prog w) A (eval (.Name x pos) env) Q E s := ldI C F 2 rfl rfl h
theorem st2 {n0 n1 : Str} {v0 v1 : Option Value} {Q : Unit → Shared → Prop} (C : Cx env (n0 :: n1 :: x :: nr) Gl) (F : St h₀ xt g₀ g env.locals (n0 :: n1 :: x :: nr) (v0 :: v1 :: u :: vr) mu s.heap) (h : ∀ h', St h₀ xt g₀ g env.locals (n0 :: n1 :: x :: nr) (v0 :: v1 :: some v :: vr) mu h' → Q () { s with heap := h', toks := s.toks + 1 }) : wpAny (model prog w) A (storeName env x v) Q E s := stI C F 2 rfl h
theorem ld3 {n0 n1 n2 : Str} {v0 v1 v2 : Option Value} {Q : Value → Shared → Prop} (C : Cx env (n0 :: n1 :: n2 :: x :: nr) Gl) (F : St h₀ xt g₀ g env.locals (n0 :: n1 :: n2 :: x :: nr) (v0 :: v1 :: v2 :: some v :: vr) mu s.heap) (h : Q v s) : wpAny (model prog w) A (eval (.Name x pos) env) Q E s := ldI C F 3 rfl rfl h
theorem ldn3 {n0 n1 n2 : Str} {v0 v1 v2 : Option Value} {Q : Value → Shared → Prop} (C : Cx env (n0 :: n1 :: n2 :: x :: nr) Gl) (F : St h₀ xt g₀ g env.locals (n0 :: n1 :: n2 :: x :: nr) (v0 :: v1 :: v2 :: some v :: vr) mu s.heap) (h : Q v s) : wpAny (model prog w) A (loadName env x) Q E s := ldnI C F 3 rfl rfl h
theorem st3 {n0 n1 n2 : Str} {v0 v1 v2 : Option Value} {Q : Unit → Shared → Prop} (C : Cx env (n0 :: n1 :: n2 :: x :: nr) Gl) (F : St h₀ xt g₀ g env.locals (n0 :: n1 :: n2 :: x :: nr) (v0 :: v1 :: v2 :: u :: vr) mu s.heap) (h : ∀ h', St h₀ xt g₀ g env.locals (n0 :: n1 :: n2 :: x :: nr) (v0 :: v1 :: v2 :: some v :: vr) mu h' → Q () { s with heap := h', toks := s.toks + 1 }) : wpAny (model prog w) A (storeName env x v) Q E s := stI C F 3 rfl h
theorem ld4 {n0 n1 n2 n3 : Str} {v0 v1 v2 v3 : Option Value} {Q : Value → Shared → Prop} (C : Cx env (n0 :: n1 :: n2 :: n3 :: x :: nr) Gl) (F : St h₀ xt g₀ g env.locals (n0 :: n1 :: n2 :: n3 :: x :: nr) (v0 :: v1 :: v2 :: v3 :: some v :: vr) mu s.heap) (h : Q v s) : wpAny (model prog w) A (eval (.Name x pos) env) Q E s := ldI C F 4 rfl rfl h
theorem st4 {n0 n1 n2 n3 : Str} {v0 v1 v2 v3 : Option Value} {Q : Unit → Shared → Prop} (C : Cx env (n0 :: n1 :: n2 :: n3 :: x :: nr) Gl) (F : St h₀ xt g₀ g env.locals (n0 :: n1 :: n2 :: n3 :: x :: nr) (v0 :: v1 :: v2 :: v3 :: u :: vr) mu s.heap) (h : ∀ h', St h₀ xt g₀ g env.locals (n0 :: n1 :: n2 :: n3 :: x :: nr) (v0 :: v1 :: v2 :: v3 :: some v :: vr) mu h' → Q () { s with heap := h', toks := s.toks + 1 }) : wpAny (model prog w) A (storeName env x v) Q E s := stI C F 4 rfl h
theorem ld5 {n0 n1 n2 n3 n4 : Str} {v0 v1 v2 v3 v4 : Option Value} {Q : Value → Shared → Prop} (C : Cx env (n0 :: n1 :: n2 :: n3 :: n4 :: x :: nr) Gl) (F : St h₀ xt g₀ g env.locals (n0 :: n1 :: n2 :: n3 :: n4 :: x :: nr) (v0 :: v1 :: v2 :: v3 :: v4 :: some v :: vr) mu s.heap) (h : Q v s) : wpAny (model prog w) A (eval (.Name x pos) env) Q E s := ldI C F 5 rfl rfl h
theorem st5 {n0 n1 n2 n3 n4 : Str} {v0 v1 v2 v3 v4 : Option Value} {Q : Unit → Shared → Prop} (C : Cx env (n0 :: n1 :: n2 :: n3 :: n4 :: x :: nr) Gl) (F : St h₀ xt g₀ g env.locals (n0 :: n1 :: n2 :: n3 :: n4 :: x :: nr) (v0 :: v1 :: v2 :: v3 :: v4 :: u :: vr) mu s.heap) (h : ∀ h', St h₀ xt g₀ g env.locals (n0 :: n1 :: n2 :: n3 :: n4 :: x :: nr) (v0 :: v1 :: v2 :: v3 :: v4 :: some v :: vr) mu h' → Q () { s with heap := h', toks := s.toks + 1 }) : wpAny (model prog w) A (storeName env x v) Q E s := stI C F 5 rfl h
theorem ld6 {n0 n1 n2 n3 n4 n5 : Str} {v0 v1 v2 v3 v4 v5 : Option Value} {Q : Value → Shared → Prop} (C : Cx env (n0 :: n1 :: n2 :: n3 :: n4 :: n5 :: x :: nr) Gl) (F : St h₀ xt g₀ g env.locals (n0 :: n1 :: n2 :: n3 :: n4 :: n5 :: x :: nr) (v0 :: v1 :: v2 :: v3 :: v4 :: v5 :: some v :: vr) mu s.heap) (h : Q v s) : wpAny (model prog w) A (eval (.Name x pos) env) Q E s := ldI C F 6 rfl rfl h
theorem st6 {n0 n1 n2 n3 n4 n5 : Str} {v0 v1 v2 v3 v4 v5 : Option Value} {Q : Unit → Shared → Prop} (C : Cx env (n0 :: n1 :: n2 :: n3 :: n4 :: n5 :: x :: nr) Gl) (F : St h₀ xt g₀ g env.locals (n0 :: n1 :: n2 :: n3 :: n4 :: n5 :: x :: nr) (v0 :: v1 :: v2 :: v3 :: v4 :: v5 :: u :: vr) mu s.heap) (h : ∀ h', St h₀ xt g₀ g env.locals (n0 :: n1 :: n2 :: n3 :: n4 :: n5 :: x :: nr) (v0 :: v1 :: v2 :: v3 :: v4 :: v5 :: some v :: vr) mu h' → Q () { s with heap := h', toks := s.toks + 1 }) : wpAny (model prog w) A (storeName env x v) Q E s := stI C F 6 rfl h
theorem ld7 {n0 n1 n2 n3 n4 n5 n6 : Str} {v0 v1 v2 v3 v4 v5 v6 : Option Value} {Q : Value → Shared → Prop} (C : Cx env (n0 :: n1 :: n2 :: n3 :: n4 :: n5 :: n6 :: x :: nr) Gl) (F : St h₀ xt g₀ g env.locals (n0 :: n1 :: n2 :: n3 :: n4 :: n5 :: n6 :: x :: nr) (v0 :: v1 :: v2 :: v3 :: v4 :: v5 :: v6 :: some v :: vr) mu s.heap) (h : Q v s) : wpAny (model prog w) A (eval (.Name x pos) env) Q E s := ldI C F 7 rfl rfl h
theorem st7 {n0 n1 n2 n3 n4 n5 n6 : Str} {v0 v1 v2 v3 v4 v5 v6 : Option Value} {Q : Unit → Shared → Prop} (C : Cx env (n0 :: n1 :: n2 :: n3 :: n4 :: n5 :: n6 :: x :: nr) Gl) (F : St h₀ xt g₀ g env.locals (n0 :: n1 :: n2 :: n3 :: n4 :: n5 :: n6 :: x :: nr) (v0 :: v1 :: v2 :: v3 :: v4 :: v5 :: v6 :: u :: vr) mu s.heap) (h : ∀ h', St h₀ xt g₀ g env.locals (n0 :: n1 :: n2 :: n3 :: n4 :: n5 :: n6 :: x :: nr) (v0 :: v1 :: v2 :: v3 :: v4 :: v5 :: v6 :: some v :: vr) mu h' → Q () { s with heap := h', toks := s.toks + 1 }) : wpAny (model prog w) A (storeName env x v) Q E s := stI C F 7 rfl h
theorem ld8 {n0 n1 n2 n3 n4 n5 n6 n7 : Str} {v0 v1 v2 v3 v4 v5 v6 v7 : Option Value} {Q : Value → Shared → Prop} (C : Cx env (n0 :: n1 :: n2 :: n3 :: n4 :: n5 :: n6 :: n7 :: x :: nr) Gl) (F : St h₀ xt g₀ g env.locals (n0 :: n1 :: n2 :: n3 :: n4 :: n5 :: n6 :: n7 :: x :: nr) (v0 :: v1 :: v2 :: v3 :: v4 :: v5 :: v6 :: v7 :: some v :: vr) mu s.heap) (h : Q v s) : wpAny (model prog w) A (eval (.Name x pos) env) Q E s := ldI C F 8 rfl rfl h
theorem st8 {n0 n1 n2 n3 n4 n5 n6 n7 : Str} {v0 v1 v2 v3 v4 v5 v6 v7 : Option Value} {Q : Unit → Shared → Prop} (C : Cx env (n0 :: n1 :: n2 :: n3 :: n4 :: n5 :: n6 :: n7 :: x :: nr) Gl) (F : St h₀ xt g₀ g env.locals (n0 :: n1 :: n2 :: n3 :: n4 :: n5 :: n6 :: n7 :: x :: nr) (v0 :: v1 :: v2 :: v3 :: v4 :: v5 :: v6 :: v7 :: u :: vr) mu s.heap) (h : ∀ h', St h₀ xt g₀ g env.locals (n0 :: n1 :: n2 :: n3 :: n4 :: n5 :: n6 :: n7 :: x :: nr) (v0 :: v1 :: v2 :: v3 :: v4 :: v5 :: v6 :: v7 :: some v :: vr) mu h' → Q () { s with heap := h', toks := s.toks + 1 }) : wpAny (model prog w) A (storeName env x v) Q E s := stI C F 8 rfl h
theorem ld9 {n0 n1 n2 n3 n4 n5 n6 n7 n8 : Str} {v0 v1 v2 v3 v4 v5 v6 v7 v8 : Option Value} {Q : Value → Shared → Prop} (C : Cx env (n0 :: n1 :: n2 :: n3 :: n4 :: n5 :: n6 :: n7 :: n8 :: x :: nr) Gl) (F : St h₀ xt g₀ g env.locals (n0 :: n1 :: n2 :: n3 :: n4 :: n5 :: n6 :: n7 :: n8 :: x :: nr) (v0 :: v1 :: v2 :: v3 :: v4 :: v5 :: v6 :: v7 :: v8 :: some v :: vr) mu s.heap) (h : Q v s) : wpAny (model prog w) A (eval (.Name x pos) env) Q E s := ldI C F 9 rfl rfl h
theorem st9 {n0 n1 n2 n3 n4 n5 n6 n7 n8 : Str} {v0 v1 v2 v3 v4 v5 v6 v7 v8 : Option Value} {Q : Unit → Shared → Prop} (C : Cx env (n0 :: n1 :: n2 :: n3 :: n4 :: n5 :: n6 :: n7 :: n8 :: x :: nr) Gl) (F : St h₀ xt g₀ g env.locals (n0 :: n1 :: n2 :: n3 :: n4 :: n5 :: n6 :: n7 :: n8 :: x :: nr) (v0 :: v1 :: v2 :: v3 :: v4 :: v5 :: v6 :: v7 :: v8 :: u :: vr) mu s.heap) (h : ∀ h', St h₀ xt g₀ g env.locals (n0 :: n1 :: n2 :: n3 :: n4 :: n5 :: n6 :: n7 :: n8 :: x :: nr) (v0 :: v1 :: v2 :: v3 :: v4 :: v5 :: v6 :: v7 :: v8 :: some v :: vr) mu h' → Q () { s with heap := h', toks := s.toks + 1 }) : wpAny (model prog w) A (storeName env x v) Q E s := stI C F 9 rfl h
theorem ld10 {n0 n1 n2 n3 n4 n5 n6 n7 n8 n9 : Str} {v0 v1 v2 v3 v4 v5 v6 v7 v8 v9 : Option Value} {Q : Value → Shared → Prop} (C : Cx env (n0 :: n1 :: n2 :: n3 :: n4 :: n5 :: n6 :: n7 :: n8 :: n9 :: x :: nr) Gl) (F : St h₀ xt g₀ g env.locals (n0 :: n1 :: n2 :: n3 :: n4 :: n5 :: n6 :: n7 :: n8 :: n9 :: x :: nr) (v0 :: v1 :: v2 :: v3 :: v4 :: v5 :: v6 :: v7 :: v8 :: v9 :: some v :: vr) mu s.heap) (h : Q v s) : wpAny (model prog w) A (eval (.Name x pos) env) Q E s := ldI C F 10 rfl rfl h
theorem st10 {n0 n1 n2 n3 n4 n5 n6 n7 n8 n9 : Str} {v0 v1 v2 v3 v4 v5 v6 v7 v8 v9 : Option Value} {Q : Unit → Shared → Prop} (C : Cx env (n0 :: n1 :: n2 :: n3 :: n4 :: n5 :: n6 :: n7 :: n8 :: n9 :: x :: nr) Gl) (F : St h₀ xt g₀ g env.locals (n0 :: n1 :: n2 :: n3 :: n4 :: n5 :: n6 :: n7 :: n8 :: n9 :: x :: nr) (v0 :: v1 :: v2 :: v3 :: v4 :: v5 :: v6 :: v7 :: v8 :: v9 :: u :: vr) mu s.heap) (h : ∀ h', St h₀ xt g₀ g env.locals (n0 :: n1 :: n2 :: n3 :: n4 :: n5 :: n6 :: n7 :: n8 :: n9 :: x :: nr) (v0 :: v1 :: v2 :: v3 :: v4 :: v5 :: v6 :: v7 :: v8 :: v9 :: some v :: vr) mu h' → Q () { s with heap := h', toks := s.toks + 1 }) : wpAny (model prog w) A (storeName env x v) Q E s := stI C F 10 rfl h
theorem ld11 {n0 n1 n2 n3 n4 n5 n6 n7 n8 n9 n10 : Str} {v0 v1 v2 v3 v4 v5 v6 v7 v8 v9 v10 : Option Value} {Q : Value → Shared → Prop} (C : Cx env (n0 :: n1 :: n2 :: n3 :: n4 :: n5 :: n6 :: n7 :: n8 :: n9 :: n10 :: x :: nr) Gl) (F : St h₀ xt g₀ g env.locals (n0 :: n1 :: n2 :: n3 :: n4 :: n5 :: n6 :: n7 :: n8 :: n9 :: n10 :: x :: nr) (v0 :: v1 :: v2 :: v3 :: v4 :: v5 :: v6 :: v7 :: v8 :: v9 :: v10 :: some v :: vr) mu s.heap) (h : Q v s) : wpAny (model prog w) A (eval (.Name x pos) env) Q E s := ldI C F 11 rfl rfl h
theorem st11 {n0 n1 n2 n3 n4 n5 n6 n7 n8 n9 n10 : Str} {v0 v1 v2 v3 v4 v5 v6 v7 v8 v9 v10 : Option Value} {Q : Unit → Shared → Prop} (C : Cx env (n0 :: n1 :: n2 :: n3 :: n4 :: n5 :: n6 :: n7 :: n8 :: n9 :: n10 :: x :: nr) Gl) (F : St h₀ xt g₀ g env.locals (n0 :: n1 :: n2 :: n3 :: n4 :: n5 :: n6 :: n7 :: n8 :: n9 :: n10 :: x :: nr) (v0 :: v1 :: v2 :: v3 :: v4 :: v5 :: v6 :: v7 :: v8 :: v9 :: v10 :: u :: vr) mu s.heap) (h : ∀ h', St h₀ xt g₀ g env.locals (n0 :: n1 :: n2 :: n3 :: n4 :: n5 :: n6 :: n7 :: n8 :: n9 :: n10 :: x :: nr) (v0 :: v1 :: v2 :: v3 :: v4 :: v5 :: v6 :: v7 :: v8 :: v9 :: v10 :: some v :: vr) mu h' → Q () { s with heap := h', toks := s.toks + 1 }) : wpAny (model prog w) A (storeName env x v) Q E s := stI C F 11 rfl h
theorem ld12 {n0 n1 n2 n3 n4 n5 n6 n7 n8 n9 n10 n11 : Str} {v0 v1 v2 v3 v4 v5 v6 v7 v8 v9 v10 v11 : Option Value} {Q : Value → Shared → Prop} (C : Cx env (n0 :: n1 :: n2 :: n3 :: n4 :: n5 :: n6 :: n7 :: n8 :: n9 :: n10 :: n11 :: x :: nr) Gl) (F : St h₀ xt g₀ g env.locals (n0 :: n1 :: n2 :: n3 :: n4 :: n5 :: n6 :: n7 :: n8 :: n9 :: n10 :: n11 :: x :: nr) (v0 :: v1 :: v2 :: v3 :: v4 :: v5 :: v6 :: v7 :: v8 :: v9 :: v10 :: v11 :: some v :: vr) mu s.heap) (h : Q v s) : wpAny (model prog w) A (eval (.Name x pos) env) Q E s := ldI C F 12 rfl rfl h
theorem st12 {n0 n1 n2 n3 n4 n5 n6 n7 n8 n9 n10 n11 : Str} {v0 v1 v2 v3 v4 v5 v6 v7 v8 v9 v10 v11 : Option Value} {Q : Unit → Shared → Prop} (C : Cx env (n0 :: n1 :: n2 :: n3 :: n4 :: n5 :: n6 :: n7 :: n8 :: n9 :: n10 :: n11 :: x :: nr) Gl) (F : St h₀ xt g₀ g env.locals (n0 :: n1 :: n2 :: n3 :: n4 :: n5 :: n6 :: n7 :: n8 :: n9 :: n10 :: n11 :: x :: nr) (v0 :: v1 :: v2 :: v3 :: v4 :: v5 :: v6 :: v7 :: v8 :: v9 :: v10 :: v11 :: u :: vr) mu s.heap) (h : ∀ h', St h₀ xt g₀ g env.locals (n0 :: n1 :: n2 :: n3 :: n4 :: n5 :: n6 :: n7 :: n8 :: n9 :: n10 :: n11 :: x :: nr) (v0 :: v1 :: v2 :: v3 :: v4 :: v5 :: v6 :: v7 :: v8 :: v9 :: v10 :: v11 :: some v :: vr) mu h' → Q () { s with heap := h', toks := s.toks + 1 }) : wpAny (model prog w) A (storeName env x v) Q E s := stI C F 12 rfl h
theorem ld13 {n0 n1 n2 n3 n4 n5 n6 n7 n8 n9 n10 n11 n12 : Str} {v0 v1 v2 v3 v4 v5 v6 v7 v8 v9 v10 v11 v12 : Option Value} {Q : Value → Shared → Prop} (C : Cx env (n0 :: n1 :: n2 :: n3 :: n4 :: n5 :: n6 :: n7 :: n8 :: n9 :: n10 :: n11 :: n12 :: x :: nr) Gl) (F : St h₀ xt g₀ g env.locals (n0 :: n1 :: n2 :: n3 :: n4 :: n5 :: n6 :: n7 :: n8 :: n9 :: n10 :: n11 :: n12 :: x :: nr) (v0 :: v1 :: v2 :: v3 :: v4 :: v5 :: v6 :: v7 :: v8 :: v9 :: v10 :: v11 :: v12 :: some v :: vr) mu s.heap) (h : Q v s) : wpAny (model prog w) A (eval (.Name x pos) env) Q E s := ldI C F 13 rfl rfl h
theorem st13 {n0 n1 n2 n3 n4 n5 n6 n7 n8 n9 n10 n11 n12 : Str} {v0 v1 v2 v3 v4 v5 v6 v7 v8 v9 v10 v11 v12 : Option Value} {Q : Unit → Shared → Prop} (C : Cx env (n0 :: n1 :: n2 :: n3 :: n4 :: n5 :: n6 :: n7 :: n8 :: n9 :: n10 :: n11 :: n12 :: x :: nr) Gl) (F : St h₀ xt g₀ g env.locals (n0 :: n1 :: n2 :: n3 :: n4 :: n5 :: n6 :: n7 :: n8 :: n9 :: n10 :: n11 :: n12 :: x :: nr) (v0 :: v1 :: v2 :: v3 :: v4 :: v5 :: v6 :: v7 :: v8 :: v9 :: v10 :: v11 :: v12 :: u :: vr) mu s.heap) (h : ∀ h', St h₀ xt g₀ g env.locals (n0 :: n1 :: n2 :: n3 :: n4 :: n5 :: n6 :: n7 :: n8 :: n9 :: n10 :: n11 :: n12 :: x :: nr) (v0 :: v1 :: v2 :: v3 :: v4 :: v5 :: v6 :: v7 :: v8 :: v9 :: v10 :: v11 :: v12 :: some v :: vr) mu h' → Q () { s with heap := h', toks := s.toks + 1 }) : wpAny (model prog w) A (storeName env x v) Q E s := stI C F 13 rfl h
theorem ld14 {n0 n1 n2 n3 n4 n5 n6 n7 n8 n9 n10 n11 n12 n13 : Str} {v0 v1 v2 v3 v4 v5 v6 v7 v8 v9 v10 v11 v12 v13 : Option Value} {Q : Value → Shared → Prop} (C : Cx env (n0 :: n1 :: n2 :: n3 :: n4 :: n5 :: n6 :: n7 :: n8 :: n9 :: n10 :: n11 :: n12 :: n13 :: x :: nr) Gl) (F : St h₀ xt g₀ g env.locals (n0 :: n1 :: n2 :: n3 :: n4 :: n5 :: n6 :: n7 :: n8 :: n9 :: n10 :: n11 :: n12 :: n13 :: x :: nr) (v0 :: v1 :: v2 :: v3 :: v4 :: v5 :: v6 :: v7 :: v8 :: v9 :: v10 :: v11 :: v12 :: v13 :: some v :: vr) mu s.heap) (h : Q v s) : wpAny (model prog w) A (eval (.Name x pos) env) Q E s := ldI C F 14 rfl rfl h
theorem st14 {n0 n1 n2 n3 n4 n5 n6 n7 n8 n9 n10 n11 n12 n13 : Str} {v0 v1 v2 v3 v4 v5 v6 v7 v8 v9 v10 v11 v12 v13 : Option Value} {Q : Unit → Shared → Prop} (C : Cx env (n0 :: n1 :: n2 :: n3 :: n4 :: n5 :: n6 :: n7 :: n8 :: n9 :: n10 :: n11 :: n12 :: n13 :: x :: nr) Gl) (F : St h₀ xt g₀ g env.locals (n0 :: n1 :: n2 :: n3 :: n4 :: n5 :: n6 :: n7 :: n8 :: n9 :: n10 :: n11 :: n12 :: n13 :: x :: nr) (v0 :: v1 :: v2 :: v3 :: v4 :: v5 :: v6 :: v7 :: v8 :: v9 :: v10 :: v11 :: v12 :: v13 :: u :: vr) mu s.heap) (h : ∀ h', St h₀ xt g₀ g env.locals (n0 :: n1 :: n2 :: n3 :: n4 :: n5 :: n6 :: n7 :: n8 :: n9 :: n10 :: n11 :: n12 :: n13 :: x :: nr) (v0 :: v1 :: v2 :: v3 :: v4 :: v5 :: v6 :: v7 :: v8 :: v9 :: v10 :: v11 :: v12 :: v13 :: some v :: vr) mu h' → Q () { s with heap := h', toks := s.toks + 1 }) : wpAny (model prog w) A (storeName env x v) Q E s := stI C F 14 rfl h
theorem ld15 {n0 n1 n2 n3 n4 n5 n6 n7 n8 n9 n10 n11 n12 n13 n14 : Str} {v0 v1 v2 v3 v4 v5 v6 v7 v8 v9 v10 v11 v12 v13 v14 : Option Value} {Q : Value → Shared → Prop} (C : Cx env (n0 :: n1 :: n2 :: n3 :: n4 :: n5 :: n6 :: n7 :: n8 :: n9 :: n10 :: n11 :: n12 :: n13 :: n14 :: x :: nr) Gl) (F : St h₀ xt g₀ g env.locals (n0 :: n1 :: n2 :: n3 :: n4 :: n5 :: n6 :: n7 :: n8 :: n9 :: n10 :: n11 :: n12 :: n13 :: n14 :: x :: nr) (v0 :: v1 :: v2 :: v3 :: v4 :: v5 :: v6 :: v7 :: v8 :: v9 :: v10 :: v11 :: v12 :: v13 :: v14 :: some v :: vr) mu s.heap) (h : Q v s) : wpAny (model prog w) A (eval (.Name x pos) env) Q E s := ldI C F 15 rfl rfl h
theorem ldn15 {n0 n1 n2 n3 n4 n5 n6 n7 n8 n9 n10 n11 n12 n13 n14 : Str} {v0 v1 v2 v3 v4 v5 v6 v7 v8 v9 v10 v11 v12 v13 v14 : Option Value} {Q : Value → Shared → Prop} (C : Cx env (n0 :: n1 :: n2 :: n3 :: n4 :: n5 :: n6 :: n7 :: n8 :: n9 :: n10 :: n11 :: n12 :: n13 :: n14 :: x :: nr) Gl) (F : St h₀ xt g₀ g env.locals (n0 :: n1 :: n2 :: n3 :: n4 :: n5 :: n6 :: n7 :: n8 :: n9 :: n10 :: n11 :: n12 :: n13 :: n14 :: x :: nr) (v0 :: v1 :: v2 :: v3 :: v4 :: v5 :: v6 :: v7 :: v8 :: v9 :: v10 :: v11 :: v12 :: v13 :: v14 :: some v :: vr) mu s.heap) (h : Q v s) : wpAny (model prog w) A (loadName env x) Q E s := ldnI C F 15 rfl rfl h
theorem st15 {n0 n1 n2 n3 n4 n5 n6 n7 n8 n9 n10 n11 n12 n13 n14 : Str} {v0 v1 v2 v3 v4 v5 v6 v7 v8 v9 v10 v11 v12 v13 v14 : Option Value} {Q : Unit → Shared → Prop} (C : Cx env (n0 :: n1 :: n2 :: n3 :: n4 :: n5 :: n6 :: n7 :: n8 :: n9 :: n10 :: n11 :: n12 :: n13 :: n14 :: x :: nr) Gl) (F : St h₀ xt g₀ g env.locals (n0 :: n1 :: n2 :: n3 :: n4 :: n5 :: n6 :: n7 :: n8 :: n9 :: n10 :: n11 :: n12 :: n13 :: n14 :: x :: nr) (v0 :: v1 :: v2 :: v3 :: v4 :: v5 :: v6 :: v7 :: v8 :: v9 :: v10 :: v11 :: v12 :: v13 :: v14 :: u :: vr) mu s.heap) (h : ∀ h', St h₀ xt g₀ g env.locals (n0 :: n1 :: n2 :: n3 :: n4 :: n5 :: n6 :: n7 :: n8 :: n9 :: n10 :: n11 :: n12 :: n13 :: n14 :: x :: nr) (v0 :: v1 :: v2 :: v3 :: v4 :: v5 :: v6 :: v7 :: v8 :: v9 :: v10 :: v11 :: v12 :: v13 :: v14 :: some v :: vr) mu h' → Q () { s with heap := h', toks := s.toks + 1 }) : wpAny (model prog w) A (storeName env x v) Q E s := stI C F 15 rfl h
theorem ld16 {n0 n1 n2 n3 n4 n5 n6 n7 n8 n9 n10 n11 n12 n13 n14 n15 : Str} {v0 v1 v2 v3 v4 v5 v6 v7 v8 v9 v10 v11 v12 v13 v14 v15 : Option Value} {Q : Value → Shared → Prop} (C : Cx env (n0 :: n1 :: n2 :: n3 :: n4 :: n5 :: n6 :: n7 :: n8 :: n9 :: n10 :: n11 :: n12 :: n13 :: n14 :: n15 :: x :: nr) Gl) (F : St h₀ xt g₀ g env.locals (n0 :: n1 :: n2 :: n3 :: n4 :: n5 :: n6 :: n7 :: n8 :: n9 :: n10 :: n11 :: n12 :: n13 :: n14 :: n15 :: x :: nr) (v0 :: v1 :: v2 :: v3 :: v4 :: v5 :: v6 :: v7 :: v8 :: v9 :: v10 :: v11 :: v12 :: v13 :: v14 :: v15 :: some v :: vr) mu s.heap) (h : Q v s) : wpAny (model prog w) A (eval (.Name x pos) env) Q E s := ldI C F 16 rfl rfl h
theorem st16 {n0 n1 n2 n3 n4 n5 n6 n7 n8 n9 n10 n11 n12 n13 n14 n15 : Str} {v0 v1 v2 v3 v4 v5 v6 v7 v8 v9 v10 v11 v12 v13 v14 v15 : Option Value} {Q : Unit → Shared → Prop} (C : Cx env (n0 :: n1 :: n2 :: n3 :: n4 :: n5 :: n6 :: n7 :: n8 :: n9 :: n10 :: n11 :: n12 :: n13 :: n14 :: n15 :: x :: nr) Gl) (F : St h₀ xt g₀ g env.locals (n0 :: n1 :: n2 :: n3 :: n4 :: n5 :: n6 :: n7 :: n8 :: n9 :: n10 :: n11 :: n12 :: n13 :: n14 :: n15 :: x :: nr) (v0 :: v1 :: v2 :: v3 :: v4 :: v5 :: v6 :: v7 :: v8 :: v9 :: v10 :: v11 :: v12 :: v13 :: v14 :: v15 :: u :: vr) mu s.heap) (h : ∀ h', St h₀ xt g₀ g env.locals (n0 :: n1 :: n2 :: n3 :: n4 :: n5 :: n6 :: n7 :: n8 :: n9 :: n10 :: n11 :: n12 :: n13 :: n14 :: n15 :: x :: nr) (v0 :: v1 :: v2 :: v3 :: v4 :: v5 :: v6 :: v7 :: v8 :: v9 :: v10 :: v11 :: v12 :: v13 :: v14 :: v15 :: some v :: vr) mu h' → Q () { s with heap := h', toks := s.toks + 1 }) : wpAny (model prog w) A (storeName env x v) Q E s := stI C F 16 rfl h
theorem ld17 {n0 n1 n2 n3 n4 n5 n6 n7 n8 n9 n10 n11 n12 n13 n14 n15 n16 : Str} {v0 v1 v2 v3 v4 v5 v6 v7 v8 v9 v10 v11 v12 v13 v14 v15 v16 : Option Value} {Q : Value → Shared → Prop} (C : Cx env (n0 :: n1 :: n2 :: n3 :: n4 :: n5 :: n6 :: n7 :: n8 :: n9 :: n10 :: n11 :: n12 :: n13 :: n14 :: n15 :: n16 :: x :: nr) Gl) (F : St h₀ xt g₀ g env.locals (n0 :: n1 :: n2 :: n3 :: n4 :: n5 :: n6 :: n7 :: n8 :: n9 :: n10 :: n11 :: n12 :: n13 :: n14 :: n15 :: n16 :: x :: nr) (v0 :: v1 :: v2 :: v3 :: v4 :: v5 :: v6 :: v7 :: v8 :: v9 :: v10 :: v11 :: v12 :: v13 :: v14 :: v15 :: v16 :: some v :: vr) mu s.heap) (h : Q v s) : wpAny (model prog w) A (eval (.Name x pos) env) Q E s := ldI C F 17 rfl rfl h
theorem st17 {n0 n1 n2 n3 n4 n5 n6 n7 n8 n9 n10 n11 n12 n13 n14 n15 n16 : Str} {v0 v1 v2 v3 v4 v5 v6 v7 v8 v9 v10 v11 v12 v13 v14 v15 v16 : Option Value} {Q : Unit → Shared → Prop} (C : Cx env (n0 :: n1 :: n2 :: n3 :: n4 :: n5 :: n6 :: n7 :: n8 :: n9 :: n10 :: n11 :: n12 :: n13 :: n14 :: n15 :: n16 :: x :: nr) Gl) (F : St h₀ xt g₀ g env.locals (n0 :: n1 :: n2 :: n3 :: n4 :: n5 :: n6 :: n7 :: n8 :: n9 :: n10 :: n11 :: n12 :: n13 :: n14 :: n15 :: n16 :: x :: nr) (v0 :: v1 :: v2 :: v3 :: v4 :: v5 :: v6 :: v7 :: v8 :: v9 :: v10 :: v11 :: v12 :: v13 :: v14 :: v15 :: v16 :: u :: vr) mu s.heap) (h : ∀ h', St h₀ xt g₀ g env.locals (n0 :: n1 :: n2 :: n3 :: n4 :: n5 :: n6 :: n7 :: n8 :: n9 :: n10 :: n11 :: n12 :: n13 :: n14 :: n15 :: n16 :: x :: nr) (v0 :: v1 :: v2 :: v3 :: v4 :: v5 :: v6 :: v7 :: v8 :: v9 :: v10 :: v11 :: v12 :: v13 :: v14 :: v15 :: v16 :: some v :: vr) mu h' → Q () { s with heap := h', toks := s.toks + 1 }) : wpAny (model prog w) A (storeName env x v) Q E s := stI C F 17 rfl h
theorem ld18 {n0 n1 n2 n3 n4 n5 n6 n7 n8 n9 n10 n11 n12 n13 n14 n15 n16 n17 : Str} {v0 v1 v2 v3 v4 v5 v6 v7 v8 v9 v10 v11 v12 v13 v14 v15 v16 v17 : Option Value} {Q : Value → Shared → Prop} (C : Cx env (n0 :: n1 :: n2 :: n3 :: n4 :: n5 :: n6 :: n7 :: n8 :: n9 :: n10 :: n11 :: n12 :: n13 :: n14 :: n15 :: n16 :: n17 :: x :: nr) Gl) (F : St h₀ xt g₀ g env.locals (n0 :: n1 :: n2 :: n3 :: n4 :: n5 :: n6 :: n7 :: n8 :: n9 :: n10 :: n11 :: n12 :: n13 :: n14 :: n15 :: n16 :: n17 :: x :: nr) (v0 :: v1 :: v2 :: v3 :: v4 :: v5 :: v6 :: v7 :: v8 :: v9 :: v10 :: v11 :: v12 :: v13 :: v14 :: v15 :: v16 :: v17 :: some v :: vr) mu s.heap) (h : Q v s) : wpAny (model prog w) A (eval (.Name x pos) env) Q E s := ldI C F 18 rfl rfl h
theorem st18 {n0 n1 n2 n3 n4 n5 n6 n7 n8 n9 n10 n11 n12 n13 n14 n15 n16 n17 : Str} {v0 v1 v2 v3 v4 v5 v6 v7 v8 v9 v10 v11 v12 v13 v14 v15 v16 v17 : Option Value} {Q : Unit → Shared → Prop} (C : Cx env (n0 :: n1 :: n2 :: n3 :: n4 :: n5 :: n6 :: n7 :: n8 :: n9 :: n10 :: n11 :: n12 :: n13 :: n14 :: n15 :: n16 :: n17 :: x :: nr) Gl) (F : St h₀ xt g₀ g env.locals (n0 :: n1 :: n2 :: n3 :: n4 :: n5 :: n6 :: n7 :: n8 :: n9 :: n10 :: n11 :: n12 :: n13 :: n14 :: n15 :: n16 :: n17 :: x :: nr) (v0 :: v1 :: v2 :: v3 :: v4 :: v5 :: v6 :: v7 :: v8 :: v9 :: v10 :: v11 :: v12 :: v13 :: v14 :: v15 :: v16 :: v17 :: u :: vr) mu s.heap) (h : ∀ h', St h₀ xt g₀ g env.locals (n0 :: n1 :: n2 :: n3 :: n4 :: n5 :: n6 :: n7 :: n8 :: n9 :: n10 :: n11 :: n12 :: n13 :: n14 :: n15 :: n16 :: n17 :: x :: nr) (v0 :: v1 :: v2 :: v3 :: v4 :: v5 :: v6 :: v7 :: v8 :: v9 :: v10 :: v11 :: v12 :: v13 :: v14 :: v15 :: v16 :: v17 :: some v :: vr) mu h' → Q () { s with heap := h', toks := s.toks + 1 }) : wpAny (model prog w) A (storeName env x v) Q E s := stI C F 18 rfl h
theorem ld19 {n0 n1 n2 n3 n4 n5 n6 n7 n8 n9 n10 n11 n12 n13 n14 n15 n16 n17 n18 : Str} {v0 v1 v2 v3 v4 v5 v6 v7 v8 v9 v10 v11 v12 v13 v14 v15 v16 v17 v18 : Option Value} {Q : Value → Shared → Prop} (C : Cx env (n0 :: n1 :: n2 :: n3 :: n4 :: n5 :: n6 :: n7 :: n8 :: n9 :: n10 :: n11 :: n12 :: n13 :: n14 :: n15 :: n16 :: n17 :: n18 :: x :: nr) Gl) (F : St h₀ xt g₀ g env.locals (n0 :: n1 :: n2 :: n3 :: n4 :: n5 :: n6 :: n7 :: n8 :: n9 :: n10 :: n11 :: n12 :: n13 :: n14 :: n15 :: n16 :: n17 :: n18 :: x :: nr) (v0 :: v1 :: v2 :: v3 :: v4 :: v5 :: v6 :: v7 :: v8 :: v9 :: v10 :: v11 :: v12 :: v13 :: v14 :: v15 :: v16 :: v17 :: v18 :: some v :: vr) mu s.heap) (h : Q v s) : wpAny (model prog w) A (eval (.Name x pos) env) Q E s := ldI C F 19 rfl rfl h
theorem st19 {n0 n1 n2 n3 n4 n5 n6 n7 n8 n9 n10 n11 n12 n13 n14 n15 n16 n17 n18 : Str} {v0 v1 v2 v3 v4 v5 v6 v7 v8 v9 v10 v11 v12 v13 v14 v15 v16 v17 v18 : Option Value} {Q : Unit → Shared → Prop} (C : Cx env (n0 :: n1 :: n2 :: n3 :: n4 :: n5 :: n6 :: n7 :: n8 :: n9 :: n10 :: n11 :: n12 :: n13 :: n14 :: n15 :: n16 :: n17 :: n18 :: x :: nr) Gl) (F : St h₀ xt g₀ g env.locals (n0 :: n1 :: n2 :: n3 :: n4 :: n5 :: n6 :: n7 :: n8 :: n9 :: n10 :: n11 :: n12 :: n13 :: n14 :: n15 :: n16 :: n17 :: n18 :: x :: nr) (v0 :: v1 :: v2 :: v3 :: v4 :: v5 :: v6 :: v7 :: v8 :: v9 :: v10 :: v11 :: v12 :: v13 :: v14 :: v15 :: v16 :: v17 :: v18 :: u :: vr) mu s.heap) (h : ∀ h', St h₀ xt g₀ g env.locals (n0 :: n1 :: n2 :: n3 :: n4 :: n5 :: n6 :: n7 :: n8 :: n9 :: n10 :: n11 :: n12 :: n13 :: n14 :: n15 :: n16 :: n17 :: n18 :: x :: nr) (v0 :: v1 :: v2 :: v3 :: v4 :: v5 :: v6 :: v7 :: v8 :: v9 :: v10 :: v11 :: v12 :: v13 :: v14 :: v15 :: v16 :: v17 :: v18 :: some v :: vr) mu h' → Q () { s with heap := h', toks := s.toks + 1 }) : wpAny (model prog w) A (storeName env x v) Q E s := stI C F 19 rfl h
theorem ld20 {n0 n1 n2 n3 n4 n5 n6 n7 n8 n9 n10 n11 n12 n13 n14 n15 n16 n17 n18 n19 : Str} {v0 v1 v2 v3 v4 v5 v6 v7 v8 v9 v10 v11 v12 v13 v14 v15 v16 v17 v18 v19 : Option Value} {Q : Value → Shared → Prop} (C : Cx env (n0 :: n1 :: n2 :: n3 :: n4 :: n5 :: n6 :: n7 :: n8 :: n9 :: n10 :: n11 :: n12 :: n13 :: n14 :: n15 :: n16 :: n17 :: n18 :: n19 :: x :: nr) Gl) (F : St h₀ xt g₀ g env.locals (n0 :: n1 :: n2 :: n3 :: n4 :: n5 :: n6 :: n7 :: n8 :: n9 :: n10 :: n11 :: n12 :: n13 :: n14 :: n15 :: n16 :: n17 :: n18 :: n19 :: x :: nr) (v0 :: v1 :: v2 :: v3 :: v4 :: v5 :: v6 :: v7 :: v8 :: v9 :: v10 :: v11 :: v12 :: v13 :: v14 :: v15 :: v16 :: v17 :: v18 :: v19 :: some v :: vr) mu s.heap) (h : Q v s) : wpAny (model prog w) A (eval (.Name x pos) env) Q E s := ldI C F 20 rfl rfl h
theorem st20 {n0 n1 n2 n3 n4 n5 n6 n7 n8 n9 n10 n11 n12 n13 n14 n15 n16 n17 n18 n19 : Str} {v0 v1 v2 v3 v4 v5 v6 v7 v8 v9 v10 v11 v12 v13 v14 v15 v16 v17 v18 v19 : Option Value} {Q : Unit → Shared → Prop} (C : Cx env (n0 :: n1 :: n2 :: n3 :: n4 :: n5 :: n6 :: n7 :: n8 :: n9 :: n10 :: n11 :: n12 :: n13 :: n14 :: n15 :: n16 :: n17 :: n18 :: n19 :: x :: nr) Gl) (F : St h₀ xt g₀ g env.locals (n0 :: n1 :: n2 :: n3 :: n4 :: n5 :: n6 :: n7 :: n8 :: n9 :: n10 :: n11 :: n12 :: n13 :: n14 :: n15 :: n16 :: n17 :: n18 :: n19 :: x :: nr) (v0 :: v1 :: v2 :: v3 :: v4 :: v5 :: v6 :: v7 :: v8 :: v9 :: v10 :: v11 :: v12 :: v13 :: v14 :: v15 :: v16 :: v17 :: v18 :: v19 :: u :: vr) mu s.heap) (h : ∀ h', St h₀ xt g₀ g env.locals (n0 :: n1 :: n2 :: n3 :: n4 :: n5 :: n6 :: n7 :: n8 :: n9 :: n10 :: n11 :: n12 :: n13 :: n14 :: n15 :: n16 :: n17 :: n18 :: n19 :: x :: nr) (v0 :: v1 :: v2 :: v3 :: v4 :: v5 :: v6 :: v7 :: v8 :: v9 :: v10 :: v11 :: v12 :: v13 :: v14 :: v15 :: v16 :: v17 :: v18 :: v19 :: some v :: vr) mu h' → Q () { s with heap := h', toks := s.toks + 1 }) : wpAny (model prog w) A (storeName env x v) Q E s := stI C F 20 rfl h
theorem ld21 {n0 n1 n2 n3 n4 n5 n6 n7 n8 n9 n10 n11 n12 n13 n14 n15 n16 n17 n18 n19 n20 : Str} {v0 v1 v2 v3 v4 v5 v6 v7 v8 v9 v10 v11 v12 v13 v14 v15 v16 v17 v18 v19 v20 : Option Value} {Q : Value → Shared → Prop} (C : Cx env (n0 :: n1 :: n2 :: n3 :: n4 :: n5 :: n6 :: n7 :: n8 :: n9 :: n10 :: n11 :: n12 :: n13 :: n14 :: n15 :: n16 :: n17 :: n18 :: n19 :: n20 :: x :: nr) Gl) (F : St h₀ xt g₀ g env.locals (n0 :: n1 :: n2 :: n3 :: n4 :: n5 :: n6 :: n7 :: n8 :: n9 :: n10 :: n11 :: n12 :: n13 :: n14 :: n15 :: n16 :: n17 :: n18 :: n19 :: n20 :: x :: nr) (v0 :: v1 :: v2 :: v3 :: v4 :: v5 :: v6 :: v7 :: v8 :: v9 :: v10 :: v11 :: v12 :: v13 :: v14 :: v15 :: v16 :: v17 :: v18 :: v19 :: v20 :: some v :: vr) mu s.heap) (h : Q v s) : wpAny (model prog w) A (eval (.Name x pos) env) Q E s := ldI C F 21 rfl rfl h
theorem st21 {n0 n1 n2 n3 n4 n5 n6 n7 n8 n9 n10 n11 n12 n13 n14 n15 n16 n17 n18 n19 n20 : Str} {v0 v1 v2 v3 v4 v5 v6 v7 v8 v9 v10 v11 v12 v13 v14 v15 v16 v17 v18 v19 v20 : Option Value} {Q : Unit → Shared → Prop} (C : Cx env (n0 :: n1 :: n2 :: n3 :: n4 :: n5 :: n6 :: n7 :: n8 :: n9 :: n10 :: n11 :: n12 :: n13 :: n14 :: n15 :: n16 :: n17 :: n18 :: n19 :: n20 :: x :: nr) Gl) (F : St h₀ xt g₀ g env.locals (n0 :: n1 :: n2 :: n3 :: n4 :: n5 :: n6 :: n7 :: n8 :: n9 :: n10 :: n11 :: n12 :: n13 :: n14 :: n15 :: n16 :: n17 :: n18 :: n19 :: n20 :: x :: nr) (v0 :: v1 :: v2 :: v3 :: v4 :: v5 :: v6 :: v7 :: v8 :: v9 :: v10 :: v11 :: v12 :: v13 :: v14 :: v15 :: v16 :: v17 :: v18 :: v19 :: v20 :: u :: vr) mu s.heap) (h : ∀ h', St h₀ xt g₀ g env.locals (n0 :: n1 :: n2 :: n3 :: n4 :: n5 :: n6 :: n7 :: n8 :: n9 :: n10 :: n11 :: n12 :: n13 :: n14 :: n15 :: n16 :: n17 :: n18 :: n19 :: n20 :: x :: nr) (v0 :: v1 :: v2 :: v3 :: v4 :: v5 :: v6 :: v7 :: v8 :: v9 :: v10 :: v11 :: v12 :: v13 :: v14 :: v15 :: v16 :: v17 :: v18 :: v19 :: v20 :: some v :: vr) mu h' → Q () { s with heap := h', toks := s.toks + 1 }) : wpAny (model prog w) A (storeName env x v) Q E s := stI C F 21 rfl h
theorem ld22 {n0 n1 n2 n3 n4 n5 n6 n7 n8 n9 n10 n11 n12 n13 n14 n15 n16 n17 n18 n19 n20 n21 : Str} {v0 v1 v2 v3 v4 v5 v6 v7 v8 v9 v10 v11 v12 v13 v14 v15 v16 v17 v18 v19 v20 v21 : Option Value} {Q : Value → Shared → Prop} (C : Cx env (n0 :: n1 :: n2 :: n3 :: n4 :: n5 :: n6 :: n7 :: n8 :: n9 :: n10 :: n11 :: n12 :: n13 :: n14 :: n15 :: n16 :: n17 :: n18 :: n19 :: n20 :: n21 :: x :: nr) Gl) (F : St h₀ xt g₀ g env.locals (n0 :: n1 :: n2 :: n3 :: n4 :: n5 :: n6 :: n7 :: n8 :: n9 :: n10 :: n11 :: n12 :: n13 :: n14 :: n15 :: n16 :: n17 :: n18 :: n19 :: n20 :: n21 :: x :: nr) (v0 :: v1 :: v2 :: v3 :: v4 :: v5 :: v6 :: v7 :: v8 :: v9 :: v10 :: v11 :: v12 :: v13 :: v14 :: v15 :: v16 :: v17 :: v18 :: v19 :: v20 :: v21 :: some v :: vr) mu s.heap) (h : Q v s) : wpAny (model prog w) A (eval (.Name x pos) env) Q E s := ldI C F 22 rfl rfl h
theorem st22 {n0 n1 n2 n3 n4 n5 n6 n7 n8 n9 n10 n11 n12 n13 n14 n15 n16 n17 n18 n19 n20 n21 : Str} {v0 v1 v2 v3 v4 v5 v6 v7 v8 v9 v10 v11 v12 v13 v14 v15 v16 v17 v18 v19 v20 v21 : Option Value} {Q : Unit → Shared → Prop} (C : Cx env (n0 :: n1 :: n2 :: n3 :: n4 :: n5 :: n6 :: n7 :: n8 :: n9 :: n10 :: n11 :: n12 :: n13 :: n14 :: n15 :: n16 :: n17 :: n18 :: n19 :: n20 :: n21 :: x :: nr) Gl) (F : St h₀ xt g₀ g env.locals (n0 :: n1 :: n2 :: n3 :: n4 :: n5 :: n6 :: n7 :: n8 :: n9 :: n10 :: n11 :: n12 :: n13 :: n14 :: n15 :: n16 :: n17 :: n18 :: n19 :: n20 :: n21 :: x :: nr) (v0 :: v1 :: v2 :: v3 :: v4 :: v5 :: v6 :: v7 :: v8 :: v9 :: v10 :: v11 :: v12 :: v13 :: v14 :: v15 :: v16 :: v17 :: v18 :: v19 :: v20 :: v21 :: u :: vr) mu s.heap) (h : ∀ h', St h₀ xt g₀ g env.locals (n0 :: n1 :: n2 :: n3 :: n4 :: n5 :: n6 :: n7 :: n8 :: n9 :: n10 :: n11 :: n12 :: n13 :: n14 :: n15 :: n16 :: n17 :: n18 :: n19 :: n20 :: n21 :: x :: nr) (v0 :: v1 :: v2 :: v3 :: v4 :: v5 :: v6 :: v7 :: v8 :: v9 :: v10 :: v11 :: v12 :: v13 :: v14 :: v15 :: v16 :: v17 :: v18 :: v19 :: v20 :: v21 :: some v :: vr) mu h' → Q () { s with heap := h', toks := s.toks + 1 }) : wpAny (model prog w) A (storeName env x v) Q E s := stI C F 22 rfl h
end
def Gives (prog : Program) (w : World) (A : Around) (c : Code) (s : Shared) (xt : List Addr) (g : Heap) (P : Heap → Heap → Value → Prop) : Prop :=
 ∀ R : Result → Shared → Prop, (∀ g' h' t' v, Out s.heap xt g g' h' → P g' h' v → R (.ok (.ret v)) { s with heap := h', toks := t' }) → codeAny (model prog w) A c R s
def Ends (s : Shared) (xt : List Addr) (g : Heap) (P : Heap → Heap → Value → Prop) (fl : Flow) (s' : Shared) : Prop :=
 ∃ g' h' t', s' = { s with heap := h', toks := t' } ∧ Out s.heap xt g g' h' ∧ P g' h' (match fl with | .ret v => v | _ => .none)
theorem Gives.mono {prog : Program} {w : World} {A : Around} {c : Code} {s : Shared} {xt : List Addr} {g : Heap} {P P' : Heap → Heap → Value → Prop} (x : Gives prog w A c s xt g P) (h : ∀ g' h' v, P g' h' v → P' g' h' v) : Gives prog w A c s xt g P' :=
 fun R hR => x R fun g' h' t' v o p => hR g' h' t' v o (h g' h' v p)
theorem lookup_binds : ∀ {ps : List Str} {as : List Value} (rest : List Str), (ps ++ rest).Nodup → ps.length = as.length → ∀ (i : Nat) (x : Str), (ps ++ rest)[i]? = some x →
 (ps.zip as).reverse.lookup x = ((as.map some ++ rest.map fun _ => (none : Option Value))[i]?).join := by
 intro ps as rest hn hl i x hx
 have key : ∀ (l : List (Str × Value)) (y : Str) (v : Value), (l.map (·.1)).Nodup → (y, v) ∈ l → l.lookup y = some v := by
  intro l
  induction l with
  | nil => intro y v _ h; cases h
  | cons p l ih =>
   intro y v hn hm
   obtain ⟨a, b⟩ := p
   rw [List.map_cons, List.nodup_cons] at hn
   rcases List.mem_cons.mp hm with e | hm
   · cases e; simp [List.lookup]
   · have ne : (y == a) = false := beq_eq_false_iff_ne.mpr fun q => hn.1 (q ▸ List.mem_map_of_mem (f := (·.1)) hm)
     rw [List.lookup_cons, ne]
     exact ih y v hn.2 hm
 have keyN : ∀ (l : List (Str × Value)) (y : Str), y ∉ l.map (·.1) → l.lookup y = none := by
  intro l
  induction l with
  | nil => intro y _; rfl
  | cons p l ih =>
   intro y hy
   obtain ⟨a, b⟩ := p
   rw [List.map_cons, List.mem_cons, not_or] at hy
   have ne : (y == a) = false := beq_eq_false_iff_ne.mpr hy.1
   rw [List.lookup_cons, ne]
   exact ih y hy.2
 have fst : (ps.zip as).map (·.1) = ps := List.map_fst_zip (Nat.le_of_eq hl)
 have hnp := (List.nodup_append.mp hn).1
 by_cases q : i < ps.length
 · have qa : i < as.length := hl ▸ q
   rw [List.getElem?_append_left q] at hx
   rw [List.getElem?_append_left (by simpa using qa), List.getElem?_map, List.getElem?_eq_getElem qa]
   refine key _ x as[i] ?_ ?_
   · rw [List.map_reverse, fst]; exact List.pairwise_reverse.mpr (hnp.imp Ne.symm)
   · rw [List.mem_reverse]
     obtain ⟨li, e⟩ := List.getElem?_eq_some_iff.mp hx
     rw [← e]
     exact List.mem_iff_getElem.mpr ⟨i, by rw [List.length_zip]; omega, by simp⟩
 · have q' : ps.length ≤ i := Nat.le_of_not_lt q
   rw [List.getElem?_append_right q'] at hx
   have e0 : ((as.map some ++ rest.map fun _ => (none : Option Value))[i]?).join = none := by
    rw [List.getElem?_append_right (by simpa [← hl] using q'), List.getElem?_map]
    cases (rest[i - (as.map some).length]?) <;> rfl
   rw [e0]
   refine keyN _ x ?_
   rw [List.map_reverse, fst, List.mem_reverse]
   intro hm
   exact (List.nodup_append.mp hn).2.2 x hm x (List.mem_of_getElem? hx) rfl
theorem chk_cx {fd : FuncData} {ps rest Gl : List Str} (h : chk fd ps rest Gl = true) (L a : Addr) : Cx (callEnv fd L a) (ps ++ rest) Gl := by
 simp only [chk, Bool.and_eq_true, decide_eq_true_eq, List.all_eq_true, named, Bool.not_eq_true'] at h
 obtain ⟨⟨⟨⟨⟨⟨⟨⟨h1, h2⟩, h3⟩, h4⟩, h5⟩, h6⟩, h7⟩, h8⟩, h9⟩ := h
 exact ⟨h1, h4, fun i x hx => h5 x (List.mem_of_getElem? hx), fun x hx => h6 x hx, h8, h9⟩
theorem Gives.enter {prog : Program} {w : World} {A : Around} {s : Shared} {xt : List Addr} {g : Heap} {P : Heap → Heap → Value → Prop} {fa : Addr} {fd : FuncData} {body : List Stmt} {args : Args} {n : Nat}
 (as : List Value) (ps rest Gl : List Str) (mu : List (Addr × Obj)) {o : Obj}
 (ho : s.heap.get? fa = some o) (hdata : o.data = .func fd) (hlim : s.heap.NoLimit) (hcd : s.heap.CodeRec fd.code fd.qualname) (hA : Ok A (n + 1))
 (hbody : fd.body = .stmts body) (hbind : BindsTo s fd args (ps.zip as)) (hl : ps.length = as.length) (hc : chk fd ps rest Gl = true)
 (kg : Le g s.heap) (hmu : ∀ p ∈ mu, s.heap.get? p.1 = some p.2 ∧ g.get? p.1 = none ∧ p.1 ∈ xt) (hnd : (mu.map (·.1)).Nodup)
 (h : ∀ h₁ env A' t', Ok A' n → Cx env (ps ++ rest) Gl → St s.heap xt g g env.locals (ps ++ rest) (as.map some ++ rest.map fun _ => none) mu h₁ →
  wpAny (model prog w) A' (execs body env) (Ends s xt g P) (fun _ _ => False) { s with heap := h₁, toks := t' }) :
 Gives prog w A (.call (.ref fa) args) s xt g P := by
 have C := chk_cx hc s.heap.objs.size fa
 simp only [chk, Bool.and_eq_true, decide_eq_true_eq, List.all_eq_true, named, Bool.not_eq_true'] at hc
 obtain ⟨⟨⟨⟨⟨⟨⟨⟨c1, c2⟩, c3⟩, c4⟩, c5⟩, c6⟩, c7⟩, c8⟩, c9⟩ := hc
 intro R hR
 refine codeAny_call_def hA.room ho hdata hlim hcd hbody hbind c7 (fun x hx => (c5 _ (List.mem_append_left _ (List.of_mem_zip hx).1)).1) (fun h₁ hns k => ?_) c2 c3 c1
 have hlt : ∀ b o, s.heap.get? b = some o → b ≠ s.heap.objs.size := fun b o e => Nat.ne_of_lt (Heap.lt_size e)
 refine wpAny_mono (h h₁ (callEnv fd s.heap.objs.size fa) _ _ hA.deeper C ⟨?_, ⟨_, hns, lookup_binds rest c4 hl⟩, fun b o _ e => k b o e, kg.tr k, Nat.le_refl _, ?_, ?_, hnd, Le.rfl', ?_⟩) (fun fl s' e => ?_) fun _ _ e => e.elim
 · simp [hl]
 · show g.get? s.heap.objs.size = none
   cases q : g.get? s.heap.objs.size with
   | none => rfl
   | some o => exact absurd (Heap.lt_size (kg _ _ q)) (Nat.lt_irrefl _)
 · exact fun p hp => ⟨k _ _ (hmu p hp).1, hlt _ _ (hmu p hp).1, (hmu p hp).2.1, .inl (hmu p hp).2.2⟩
 · intro b o e e0
   rw [e] at e0; cases e0
 · obtain ⟨g', h', t', rfl, o, p⟩ := e
   exact hR g' h' t' _ o p
section
variable {prog : Program} {w : World} {A : Around} {E : Value → Shared → Prop} {s : Shared} {env : Env}
variable {h₀ g₀ g : Heap} {xt : List Addr} {L : Addr} {N Gl : List Str} {vs : List (Option Value)} {mu : List (Addr × Obj)}
theorem call_c {f : Value} {args : List Value} {kw : List (Str × Value)} {P : Heap → Heap → Value → Prop} {Q : Value → Shared → Prop} (F : St h₀ xt g₀ g L N vs mu s.heap) (G : Gives prog w A (.call f ⟨args, kw⟩) s [] g P)
 (h : ∀ g' h' t' v, Le g g' → St h₀ xt g₀ g' L N vs mu h' → P g' h' v → Q v { s with heap := h', toks := t' }) : wpAny (model prog w) A (call f args kw) Q E s :=
 wpAny_call (G _ fun g' h' t' v o p => h g' h' t' v o.mono (F.call o) p)
theorem ends {g' h' : Heap} {t' : Nat} {P : Heap → Heap → Value → Prop} {v : Value} (F : St s.heap xt g g' L N vs mu h') (p : P g' h' v) : Ends s xt g P (.ret v) { s with heap := h', toks := t' } := ⟨g', h', t', rfl, F.out, p⟩
theorem endsN {g' h' : Heap} {t' : Nat} {P : Heap → Heap → Value → Prop} (F : St s.heap xt g g' L N vs mu h') (p : P g' h' .none) : Ends s xt g P .next { s with heap := h', toks := t' } := ⟨g', h', t', rfl, F.out, p⟩
theorem gname {mg : Str → Option Value} {x : Str} {pos : Pos} {v : Value} {Q : Value → Shared → Prop} (C : Cx env N Gl) (hx : x ∈ Gl) (hg : s.heap.Ns mainGlobals mg) (hv : mg x = some v) (h : Q v s) :
 wpAny (model prog w) A (eval (.Name x pos) env) Q E s :=
 Name_function_global C.kind (C.glob x hx).1 (loadGlobal_global (by rw [C.globals]; exact hg) hv h) (C.glob x hx).2
theorem bname {mg mb : Str → Option Value} {x : Str} {pos : Pos} {v : Value} {Q : Value → Shared → Prop} (C : Cx env N Gl) (hx : x ∈ Gl) (hg : s.heap.Ns mainGlobals mg) (hm : mg x = none)
 (hb : s.heap.Ns builtinsNs mb) (hv : mb x = some v) (h : Q v s) : wpAny (model prog w) A (eval (.Name x pos) env) Q E s :=
 Name_function_global C.kind (C.glob x hx).1 (loadGlobal_builtin (by rw [C.globals]; exact hg) hm (by rw [C.builtins]; exact hb) hv h) (C.glob x hx).2
end
abbrev pw : Program := PySem.Challenge.pw_ik0100_01
def nth : List Stmt → Nat → Stmt
 | [], _ => .Pass default
 | s :: _, 0 => s
 | _ :: r, n + 1 => nth r n
def inside : Stmt → List Stmt
 | .ClassDef _ _ _ b _ _ _ _ _ _ _ => b
 | _ => []
def parOf : Stmt → Arguments
 | .FunctionDef _ a _ _ _ _ _ _ _ _ => a
 | _ => ⟨[], [], none, [], [], none, []⟩
def bodyOf : Stmt → List Stmt
 | .FunctionDef _ _ b _ _ _ _ _ _ _ => b
 | _ => []
def scopeOf : Stmt → Scope
 | .FunctionDef _ _ _ _ _ _ sc _ _ _ => sc
 | _ => default
def docIn : List Stmt → Str
 | .Expr (.Constant (.str s) _ _) _ :: _ => s
 | _ => Str.empty
def docV (st : Stmt) (t : Tok) : Value := .str (docIn (bodyOf st)) t
def fdMk (st : Stmt) (name qual : Str) (dflt doc : Value) (mod : Str) (mt : Tok) (code : Addr) : FuncData := { name := name, qualname := qual, params := parOf st, body := .stmts (bodyOf st), scope := scopeOf st, globals := 3, closure := [], defaults := dflt, kwdefaults := .none, doc := doc, pyModule := .str mod mt, annotations := none, code := .ref code, closureTuple := .none, builtins := 0 }
def stmInit : Stmt := nth (inside (nth pw.main.body 5)) 1
def fdInit : FuncData := fdMk stmInit "__init__" "SequenceMatcher.__init__" (.ref 153) (docV stmInit 416) "cpy313.difflib" 194 159
def stmSetSeqs : Stmt := nth (inside (nth pw.main.body 5)) 2
def fdSetSeqs : FuncData := fdMk stmSetSeqs "set_seqs" "SequenceMatcher.set_seqs" .none (docV stmSetSeqs 426) "cpy313.difflib" 194 166
def stmSetSeq1 : Stmt := nth (inside (nth pw.main.body 5)) 3
def fdSetSeq1 : FuncData := fdMk stmSetSeq1 "set_seq1" "SequenceMatcher.set_seq1" .none (docV stmSetSeq1 435) "cpy313.difflib" 194 173
def stmSetSeq2 : Stmt := nth (inside (nth pw.main.body 5)) 4
def fdSetSeq2 : FuncData := fdMk stmSetSeq2 "set_seq2" "SequenceMatcher.set_seq2" .none (docV stmSetSeq2 444) "cpy313.difflib" 194 180
def stmChainB : Stmt := nth (inside (nth pw.main.body 5)) 5
def fdChainB : FuncData := fdMk stmChainB "__chain_b" "SequenceMatcher.__chain_b" .none .none "cpy313.difflib" 194 187
def stmFind : Stmt := nth (inside (nth pw.main.body 5)) 6
def fdFind : FuncData := fdMk stmFind "find_longest_match" "SequenceMatcher.find_longest_match" (.ref 189) (docV stmFind 490) "cpy313.difflib" 194 195
def stmBlocks : Stmt := nth (inside (nth pw.main.body 5)) 7
def fdBlocks : FuncData := fdMk stmBlocks "get_matching_blocks" "SequenceMatcher.get_matching_blocks" .none (docV stmBlocks 517) "cpy313.difflib" 194 202
def stmCodes : Stmt := nth (inside (nth pw.main.body 5)) 8
def fdCodes : FuncData := fdMk stmCodes "get_opcodes" "SequenceMatcher.get_opcodes" .none (docV stmCodes 532) "cpy313.difflib" 194 209
def stmMNew : Stmt := nth (inside (nth pw.main.body 3)) 4
def fdMNew : FuncData := fdMk stmMNew "__new__" "Match.__new__" .none (docV stmMNew 283) "cpy313.difflib" 194 81
def stmBuffer : Stmt := nth pw.main.body 7
def fdBuffer : FuncData := fdMk stmBuffer "_buffer" "_buffer" .none .none "binascii" 583 252
def stmHex : Stmt := nth pw.main.body 9
def fdHex : FuncData := fdMk stmHex "b2a_hex" "b2a_hex" (.ref 255) .none "binascii" 583 261
def stmB16 : Stmt := nth pw.main.body 12
def fdB16 : FuncData := fdMk stmB16 "b16encode" "b16encode" .none (docV stmB16 614) "cpy313.base64" 606 268
def stmFspath : Stmt := nth pw.main.body 21
def fdFspath : FuncData := fdMk stmFspath "fspath" "fspath" .none .none "os" 703 341
def stmGetSep : Stmt := nth pw.main.body 25
def fdGetSep : FuncData := fdMk stmGetSep "_get_sep" "_get_sep" .none .none "cpy313.posixpath" 728 355
def stmJoin : Stmt := nth pw.main.body 26
def fdJoin : FuncData := fdMk stmJoin "join" "join" .none (docV stmJoin 747) "cpy313.posixpath" 728 362
def stmSplit : Stmt := nth pw.main.body 27
def fdSplit : FuncData := fdMk stmSplit "split" "split" .none (docV stmSplit 759) "cpy313.posixpath" 728 369
def stmCommon : Stmt := nth pw.main.body 28
def fdCommon : FuncData := fdMk stmCommon "commonpath" "commonpath" .none (docV stmCommon 766) "cpy313.posixpath" 728 374
def stmPlace : Stmt := nth pw.main.body 30
def fdPlace : FuncData := fdMk stmPlace "_law_place" "_law_place" .none .none "law_ik0100_01" 768 379
def stmPath : Stmt := nth pw.main.body 31
def fdPath : FuncData := fdMk stmPath "_law_path" "_law_path" .none .none "law_ik0100_01" 768 384
def stmWritten : Stmt := nth pw.main.body 32
def fdWritten : FuncData := fdMk stmWritten "_law_written" "_law_written" .none .none "law_ik0100_01" 768 389
def stmDone : Stmt := nth pw.main.body 33
def fdDone : FuncData := fdMk stmDone "_law_done" "_law_done" .none .none "law_ik0100_01" 768 396
def stmHung : Stmt := nth pw.main.body 34
def fdHung : FuncData := fdMk stmHung "_law_hung" "_law_hung" .none .none "law_ik0100_01" 768 403
def stmCarried : Stmt := nth pw.main.body 35
def fdCarried : FuncData := fdMk stmCarried "_law_carried" "_law_carried" .none .none "law_ik0100_01" 768 410
def stmListing : Stmt := nth pw.main.body 36
def fdListing : FuncData := fdMk stmListing "_law_listing" "_law_listing" .none .none "law_ik0100_01" 768 417
def stmLCodes : Stmt := nth pw.main.body 37
def fdLCodes : FuncData := fdMk stmLCodes "_law_codes" "_law_codes" .none .none "law_ik0100_01" 768 422
def stmLaw : Stmt := nth pw.main.body 38
def bodyLaw : List Stmt := bodyOf stmLaw
def scopeLaw : Scope := scopeOf stmLaw
def fdLaw : FuncData := fdMk stmLaw "law" "law" .none .none "law_ik0100_01" 768 427
abbrev fnObj (fd : FuncData) : Obj := ⟨.type "function", none, .func fd, #[]⟩
def fnList : List (Addr × FuncData) := [(160, fdInit), (167, fdSetSeqs), (174, fdSetSeq1), (181, fdSetSeq2), (188, fdChainB), (196, fdFind), (203, fdBlocks), (210, fdCodes), (82, fdMNew), (253, fdBuffer), (262, fdHex), (269, fdB16), (342, fdFspath), (356, fdGetSep), (363, fdJoin), (370, fdSplit), (375, fdCommon), (380, fdPlace), (385, fdPath), (390, fdWritten), (397, fdDone), (404, fdHung), (411, fdCarried), (418, fdListing), (423, fdLCodes), (428, fdLaw)]
def globList : List (Str × Value) := [("Match", .ref 135), ("SequenceMatcher", .ref 242), ("_buffer", .ref 253), ("_NO_SEP", .ref 254), ("b2a_hex", .ref 262), ("hexlify", .ref 262), ("b16encode", .ref 269), ("fspath", .ref 342), ("_get_sep", .ref 356), ("join", .ref 363), ("split", .ref 370), ("commonpath", .ref 375), ("_law_place", .ref 380), ("_law_path", .ref 385), ("_law_written", .ref 390), ("_law_done", .ref 397), ("_law_hung", .ref 404), ("_law_carried", .ref 411), ("_law_listing", .ref 418), ("_law_codes", .ref 423)]
def bltList : List (Str × Value) := [("isinstance", .builtin "isinstance"), ("issubclass", .builtin "issubclass"), ("len", .builtin "len"), ("min", .builtin "min"), ("max", .builtin "max"), ("chr", .builtin "chr"), ("sorted", .builtin "sorted"), ("type", .type "type"), ("bytes", .type "bytes"), ("bytearray", .type "bytearray"), ("str", .type "str"), ("tuple", .type "tuple"), ("map", .type "map"), ("enumerate", .type "enumerate"), ("range", .type "range"), ("list", .type "list"), ("set", .type "set"), ("ValueError", .type "ValueError"), ("TypeError", .type "TypeError"), ("AttributeError", .type "AttributeError"), ("BytesWarning", .type "BytesWarning"), ("int", .type "int")]
def obList : List (Addr × Obj) := [(255, { cls := .type "tuple", data := .seq #[.ref 254, .int 1 594] }), (189, { cls := .type "tuple", data := .seq #[.int 0 464, .none, .int 0 465, .none] }), (153, { cls := .type "tuple", data := .seq #[.none, .str "" 404, .str "" 405, .bool true] }), (254, { cls := .type "object", data := .plain })]
structure Stat (g : Heap) : Prop where
 fn : ∀ p ∈ fnList, g.get? p.1 = some (fnObj p.2) ∧ g.CodeRec p.2.code p.2.qualname
 lim : g.NoLimit
 glob : ∃ mg, g.Ns mainGlobals mg ∧ (∀ p ∈ globList, mg p.1 = some p.2) ∧ ∀ p ∈ bltList, mg p.1 = none
 blt : ∃ mb, g.Ns builtinsNs mb ∧ ∀ p ∈ bltList, mb p.1 = some p.2
 ob : ∀ p ∈ obList, g.get? p.1 = some p.2
theorem Stat.up {g g' : Heap} (X : Stat g) (k : Le g g') : Stat g' :=
 ⟨fun p hp => ⟨k _ _ (X.fn p hp).1, (X.fn p hp).2.keeps k⟩, X.lim.keeps k, let ⟨m, a, b⟩ := X.glob; ⟨m, a.keeps k, b⟩, let ⟨m, a, b⟩ := X.blt; ⟨m, a.keeps k, b⟩, fun p hp => k _ _ (X.ob p hp)⟩
theorem Stat.obAt {g : Heap} (X : Stat g) (i : Nat) {a : Addr} {o : Obj} (h : obList[i]? = some (a, o)) : g.get? a = some o := X.ob (a, o) (List.mem_of_getElem? h)
theorem Stat.fnAt {g : Heap} (X : Stat g) (i : Nat) {a : Addr} {fd : FuncData} (h : fnList[i]? = some (a, fd)) : g.get? a = some (fnObj fd) := (X.fn (a, fd) (List.mem_of_getElem? h)).1
theorem Stat.cdAt {g : Heap} (X : Stat g) (i : Nat) {a : Addr} {fd : FuncData} (h : fnList[i]? = some (a, fd)) : g.CodeRec fd.code fd.qualname := (X.fn (a, fd) (List.mem_of_getElem? h)).2
theorem Gives.go {w : World} {A : Around} {s : Shared} {g : Heap} {P : Heap → Heap → Value → Prop} {fa : Addr} {fd : FuncData} {body : List Stmt} {args : Args} {n : Nat}
 (i : Nat) (as : List Value) (ps rest Gl : List Str) (hi : fnList[i]? = some (fa, fd)) (X : Stat g) (kg : Le g s.heap) (hA : Ok A (n + 1))
 (hbody : fd.body = .stmts body) (hbind : BindsTo s fd args (ps.zip as)) (hl : ps.length = as.length) (hc : chk fd ps rest Gl = true)
 (h : ∀ h₁ env A' t', Ok A' n → Cx env (ps ++ rest) Gl → St s.heap [] g g env.locals (ps ++ rest) (as.map some ++ rest.map fun _ => none) [] h₁ →
  wpAny (model pw w) A' (execs body env) (Ends s [] g P) (fun _ _ => False) { s with heap := h₁, toks := t' }) :
 Gives pw w A (.call (.ref fa) args) s [] g P :=
 Gives.enter as ps rest Gl [] (kg _ _ (X.fnAt i hi)) rfl (X.lim.keeps kg) ((X.cdAt i hi).keeps kg) hA hbody hbind hl hc kg (fun _ hp => nomatch hp) .nil h
section
variable {w : World} {A : Around} {E : Value → Shared → Prop} {s : Shared} {env : Env} {N Gl : List Str} {g : Heap} {pos : Pos} {Q : Value → Shared → Prop}
theorem gl_ (i : Nat) {x : Str} {v : Value} (hi : globList[i]? = some (x, v)) (C : Cx env N Gl) (X : Stat g) (k : Le g s.heap) (hx : x ∈ Gl) (h : Q v s) : wpAny (model pw w) A (eval (.Name x pos) env) Q E s := by
 obtain ⟨m, a, b, _⟩ := X.glob
 exact gname C hx (a.keeps k) (b (x, v) (List.mem_of_getElem? hi)) h
theorem bl_ (i : Nat) {x : Str} {v : Value} (hi : bltList[i]? = some (x, v)) (C : Cx env N Gl) (X : Stat g) (k : Le g s.heap) (hx : x ∈ Gl) (h : Q v s) : wpAny (model pw w) A (eval (.Name x pos) env) Q E s := by
 obtain ⟨m, a, _, c⟩ := X.glob
 obtain ⟨mb, d, e⟩ := X.blt
 exact bname C hx (a.keeps k) (c (x, v) (List.mem_of_getElem? hi)) (d.keeps k) (e (x, v) (List.mem_of_getElem? hi)) h
theorem N_Match (C : Cx env N Gl) (X : Stat g) (k : Le g s.heap) (hx : ("Match" : Str) ∈ Gl) (h : Q (.ref 135) s) : wpAny (model pw w) A (eval (.Name "Match" pos) env) Q E s := gl_ 0 rfl C X k hx h
theorem N_SequenceMatcher (C : Cx env N Gl) (X : Stat g) (k : Le g s.heap) (hx : ("SequenceMatcher" : Str) ∈ Gl) (h : Q (.ref 242) s) : wpAny (model pw w) A (eval (.Name "SequenceMatcher" pos) env) Q E s := gl_ 1 rfl C X k hx h
theorem N_buffer (C : Cx env N Gl) (X : Stat g) (k : Le g s.heap) (hx : ("_buffer" : Str) ∈ Gl) (h : Q (.ref 253) s) : wpAny (model pw w) A (eval (.Name "_buffer" pos) env) Q E s := gl_ 2 rfl C X k hx h
theorem N_NO_SEP (C : Cx env N Gl) (X : Stat g) (k : Le g s.heap) (hx : ("_NO_SEP" : Str) ∈ Gl) (h : Q (.ref 254) s) : wpAny (model pw w) A (eval (.Name "_NO_SEP" pos) env) Q E s := gl_ 3 rfl C X k hx h
theorem N_hexlify (C : Cx env N Gl) (X : Stat g) (k : Le g s.heap) (hx : ("hexlify" : Str) ∈ Gl) (h : Q (.ref 262) s) : wpAny (model pw w) A (eval (.Name "hexlify" pos) env) Q E s := gl_ 5 rfl C X k hx h
theorem N_b16encode (C : Cx env N Gl) (X : Stat g) (k : Le g s.heap) (hx : ("b16encode" : Str) ∈ Gl) (h : Q (.ref 269) s) : wpAny (model pw w) A (eval (.Name "b16encode" pos) env) Q E s := gl_ 6 rfl C X k hx h
theorem N_fspath (C : Cx env N Gl) (X : Stat g) (k : Le g s.heap) (hx : ("fspath" : Str) ∈ Gl) (h : Q (.ref 342) s) : wpAny (model pw w) A (eval (.Name "fspath" pos) env) Q E s := gl_ 7 rfl C X k hx h
theorem N_get_sep (C : Cx env N Gl) (X : Stat g) (k : Le g s.heap) (hx : ("_get_sep" : Str) ∈ Gl) (h : Q (.ref 356) s) : wpAny (model pw w) A (eval (.Name "_get_sep" pos) env) Q E s := gl_ 8 rfl C X k hx h
theorem N_join (C : Cx env N Gl) (X : Stat g) (k : Le g s.heap) (hx : ("join" : Str) ∈ Gl) (h : Q (.ref 363) s) : wpAny (model pw w) A (eval (.Name "join" pos) env) Q E s := gl_ 9 rfl C X k hx h
theorem N_split (C : Cx env N Gl) (X : Stat g) (k : Le g s.heap) (hx : ("split" : Str) ∈ Gl) (h : Q (.ref 370) s) : wpAny (model pw w) A (eval (.Name "split" pos) env) Q E s := gl_ 10 rfl C X k hx h
theorem N_commonpath (C : Cx env N Gl) (X : Stat g) (k : Le g s.heap) (hx : ("commonpath" : Str) ∈ Gl) (h : Q (.ref 375) s) : wpAny (model pw w) A (eval (.Name "commonpath" pos) env) Q E s := gl_ 11 rfl C X k hx h
theorem N_law_place (C : Cx env N Gl) (X : Stat g) (k : Le g s.heap) (hx : ("_law_place" : Str) ∈ Gl) (h : Q (.ref 380) s) : wpAny (model pw w) A (eval (.Name "_law_place" pos) env) Q E s := gl_ 12 rfl C X k hx h
theorem N_law_path (C : Cx env N Gl) (X : Stat g) (k : Le g s.heap) (hx : ("_law_path" : Str) ∈ Gl) (h : Q (.ref 385) s) : wpAny (model pw w) A (eval (.Name "_law_path" pos) env) Q E s := gl_ 13 rfl C X k hx h
theorem N_law_written (C : Cx env N Gl) (X : Stat g) (k : Le g s.heap) (hx : ("_law_written" : Str) ∈ Gl) (h : Q (.ref 390) s) : wpAny (model pw w) A (eval (.Name "_law_written" pos) env) Q E s := gl_ 14 rfl C X k hx h
theorem N_law_done (C : Cx env N Gl) (X : Stat g) (k : Le g s.heap) (hx : ("_law_done" : Str) ∈ Gl) (h : Q (.ref 397) s) : wpAny (model pw w) A (eval (.Name "_law_done" pos) env) Q E s := gl_ 15 rfl C X k hx h
theorem N_law_hung (C : Cx env N Gl) (X : Stat g) (k : Le g s.heap) (hx : ("_law_hung" : Str) ∈ Gl) (h : Q (.ref 404) s) : wpAny (model pw w) A (eval (.Name "_law_hung" pos) env) Q E s := gl_ 16 rfl C X k hx h
theorem N_law_carried (C : Cx env N Gl) (X : Stat g) (k : Le g s.heap) (hx : ("_law_carried" : Str) ∈ Gl) (h : Q (.ref 411) s) : wpAny (model pw w) A (eval (.Name "_law_carried" pos) env) Q E s := gl_ 17 rfl C X k hx h
theorem N_law_listing (C : Cx env N Gl) (X : Stat g) (k : Le g s.heap) (hx : ("_law_listing" : Str) ∈ Gl) (h : Q (.ref 418) s) : wpAny (model pw w) A (eval (.Name "_law_listing" pos) env) Q E s := gl_ 18 rfl C X k hx h
theorem N_law_codes (C : Cx env N Gl) (X : Stat g) (k : Le g s.heap) (hx : ("_law_codes" : Str) ∈ Gl) (h : Q (.ref 423) s) : wpAny (model pw w) A (eval (.Name "_law_codes" pos) env) Q E s := gl_ 19 rfl C X k hx h
theorem N_isinstance (C : Cx env N Gl) (X : Stat g) (k : Le g s.heap) (hx : ("isinstance" : Str) ∈ Gl) (h : Q (.builtin "isinstance") s) : wpAny (model pw w) A (eval (.Name "isinstance" pos) env) Q E s := bl_ 0 rfl C X k hx h
theorem N_issubclass (C : Cx env N Gl) (X : Stat g) (k : Le g s.heap) (hx : ("issubclass" : Str) ∈ Gl) (h : Q (.builtin "issubclass") s) : wpAny (model pw w) A (eval (.Name "issubclass" pos) env) Q E s := bl_ 1 rfl C X k hx h
theorem N_len (C : Cx env N Gl) (X : Stat g) (k : Le g s.heap) (hx : ("len" : Str) ∈ Gl) (h : Q (.builtin "len") s) : wpAny (model pw w) A (eval (.Name "len" pos) env) Q E s := bl_ 2 rfl C X k hx h
theorem N_min (C : Cx env N Gl) (X : Stat g) (k : Le g s.heap) (hx : ("min" : Str) ∈ Gl) (h : Q (.builtin "min") s) : wpAny (model pw w) A (eval (.Name "min" pos) env) Q E s := bl_ 3 rfl C X k hx h
theorem N_max (C : Cx env N Gl) (X : Stat g) (k : Le g s.heap) (hx : ("max" : Str) ∈ Gl) (h : Q (.builtin "max") s) : wpAny (model pw w) A (eval (.Name "max" pos) env) Q E s := bl_ 4 rfl C X k hx h
theorem N_chr (C : Cx env N Gl) (X : Stat g) (k : Le g s.heap) (hx : ("chr" : Str) ∈ Gl) (h : Q (.builtin "chr") s) : wpAny (model pw w) A (eval (.Name "chr" pos) env) Q E s := bl_ 5 rfl C X k hx h
theorem N_sorted (C : Cx env N Gl) (X : Stat g) (k : Le g s.heap) (hx : ("sorted" : Str) ∈ Gl) (h : Q (.builtin "sorted") s) : wpAny (model pw w) A (eval (.Name "sorted" pos) env) Q E s := bl_ 6 rfl C X k hx h
theorem N_type (C : Cx env N Gl) (X : Stat g) (k : Le g s.heap) (hx : ("type" : Str) ∈ Gl) (h : Q (.type "type") s) : wpAny (model pw w) A (eval (.Name "type" pos) env) Q E s := bl_ 7 rfl C X k hx h
theorem N_bytes (C : Cx env N Gl) (X : Stat g) (k : Le g s.heap) (hx : ("bytes" : Str) ∈ Gl) (h : Q (.type "bytes") s) : wpAny (model pw w) A (eval (.Name "bytes" pos) env) Q E s := bl_ 8 rfl C X k hx h
theorem N_str (C : Cx env N Gl) (X : Stat g) (k : Le g s.heap) (hx : ("str" : Str) ∈ Gl) (h : Q (.type "str") s) : wpAny (model pw w) A (eval (.Name "str" pos) env) Q E s := bl_ 10 rfl C X k hx h
theorem N_tuple (C : Cx env N Gl) (X : Stat g) (k : Le g s.heap) (hx : ("tuple" : Str) ∈ Gl) (h : Q (.type "tuple") s) : wpAny (model pw w) A (eval (.Name "tuple" pos) env) Q E s := bl_ 11 rfl C X k hx h
theorem N_map (C : Cx env N Gl) (X : Stat g) (k : Le g s.heap) (hx : ("map" : Str) ∈ Gl) (h : Q (.type "map") s) : wpAny (model pw w) A (eval (.Name "map" pos) env) Q E s := bl_ 12 rfl C X k hx h
theorem N_enumerate (C : Cx env N Gl) (X : Stat g) (k : Le g s.heap) (hx : ("enumerate" : Str) ∈ Gl) (h : Q (.type "enumerate") s) : wpAny (model pw w) A (eval (.Name "enumerate" pos) env) Q E s := bl_ 13 rfl C X k hx h
theorem N_range (C : Cx env N Gl) (X : Stat g) (k : Le g s.heap) (hx : ("range" : Str) ∈ Gl) (h : Q (.type "range") s) : wpAny (model pw w) A (eval (.Name "range" pos) env) Q E s := bl_ 14 rfl C X k hx h
theorem N_list (C : Cx env N Gl) (X : Stat g) (k : Le g s.heap) (hx : ("list" : Str) ∈ Gl) (h : Q (.type "list") s) : wpAny (model pw w) A (eval (.Name "list" pos) env) Q E s := bl_ 15 rfl C X k hx h
theorem N_set (C : Cx env N Gl) (X : Stat g) (k : Le g s.heap) (hx : ("set" : Str) ∈ Gl) (h : Q (.type "set") s) : wpAny (model pw w) A (eval (.Name "set" pos) env) Q E s := bl_ 16 rfl C X k hx h
theorem N_int (C : Cx env N Gl) (X : Stat g) (k : Le g s.heap) (hx : ("int" : Str) ∈ Gl) (h : Q (.type "int") s) : wpAny (model pw w) A (eval (.Name "int" pos) env) Q E s := bl_ 21 rfl C X k hx h
end
section
variable {M : Model} {A : Around} {E : Value → Shared → Prop} {s : Shared} {env : Env} {Q : Value → Shared → Prop}
def Callee (h : Heap) : Value → Prop
 | .ref a => ∃ fd, h.get? a = some (fnObj fd)
 | .builtin _ => True
 | .type _ => True
 | _ => False
theorem callWith_any {pos : Pos} {f : Value} {first : List Value} {args : List (Bool × Sem Value)} (hplain : args.any (·.1) = false)
 (h : wpAny M A (evalArgs f true args []) (fun x s₁ => Callee s₁.heap f ∧ wpAny M A (call f (first ++ x.pos) x.kw) Q E s₁) E s) : wpAny M A (callWith pos f first args []) Q E s := by
 cases f with
 | ref a =>
  unfold callWith
  refine wpAny_bind (wpAny_holding (wpAny_mono h (fun x s₁ h₁ => wpAny_bind (wpAny_standAt ?_)) fun _ _ x => x))
  obtain ⟨⟨fd, ho⟩, hc⟩ := h₁
  have tail : ∀ {t : Sem Value}, wpAny M A t Q E s₁ → wpAny M A (t >>= fun r => holding [r] point >>= fun _ => pure r) Q E s₁ :=
   fun ht => wpAny_bind (wpAny_mono ht (fun r s₂ hr => wpAny_bind (wpAny_holding (wpAny_point (wpAny_pure hr)))) fun _ _ x => x)
  simp only [hplain, List.any_nil, Bool.or_false]
  refine wpAny_bind (m := keeperOf (.ref a)) ?_
  unfold keeperOf
  refine wpAny_bind (wpAny_load ho ?_)
  refine wpAny_pure ?_
  dsimp only
  split
  · exact tail hc
  · exact tail (by unfold callMarked; exact Calls.wpAny_keep hc)
 | builtin id => exact Calls.callWith_builtin hplain (wpAny_mono h (fun _ _ x => x.2) fun _ _ e => e)
 | type T => exact PySem.callWith_type hplain (wpAny_mono h (fun _ _ x => x.2) fun _ _ e => e)
 | _ =>
  unfold callWith
  exact wpAny_bind (wpAny_holding (wpAny_mono h (fun x s₁ h₁ => h₁.1.elim) fun _ _ x => x))
theorem args0 {f : Value} {P : Args → Shared → Prop} (h : P ⟨[], []⟩ s) : wpAny M A (evalArgs f true [] []) P E s := by
 exact evalArgs_nil3 h
theorem C0 {id : Str} {p pos : Pos} (h : wpAny M A (eval (.Name id p) env) (fun f s₁ => Callee s₁.heap f ∧ wpAny M A (call f []) Q E s₁) E s) : wpAny M A (eval (.Call (.Name id p) [] [] pos) env) Q E s := by
 rw [arm_eval_Call_Name']
 exact wpAny_bind (wpAny_mono h (fun f s₁ h₁ => callWith_any rfl (args0 h₁)) fun _ _ e => e)
theorem C1 {id : Str} {p pos : Pos} {a : Expr} (h : wpAny M A (eval (.Name id p) env) (fun f s₁ => wpAny M A (eval a env) (fun v s₂ => Callee s₂.heap f ∧ wpAny M A (call f [v]) Q E s₂) E s₁) E s)
 (he : starEach [a] env = [(false, eval a env)] := by rfl) : wpAny M A (eval (.Call (.Name id p) [a] [] pos) env) Q E s := by
 rw [arm_eval_Call_Name', he]
 exact wpAny_bind (wpAny_mono h (fun f s₁ h₁ => callWith_any rfl (evalArgs_plain (spliced_cons (wpAny_mono h₁ (fun v s₂ h₂ => spliced_nil h₂) fun _ _ e => e)))) fun _ _ e => e)
theorem C2 {id : Str} {p pos : Pos} {a b : Expr} (h : wpAny M A (eval (.Name id p) env) (fun f s₁ => wpAny M A (eval a env) (fun v s₂ => wpAny M A (eval b env) (fun u s₃ => Callee s₃.heap f ∧ wpAny M A (call f [v, u]) Q E s₃) E s₂) E s₁) E s)
 (he : starEach [a, b] env = [(false, eval a env), (false, eval b env)] := by rfl) : wpAny M A (eval (.Call (.Name id p) [a, b] [] pos) env) Q E s := by
 rw [arm_eval_Call_Name', he]
 exact wpAny_bind (wpAny_mono h (fun f s₁ h₁ => callWith_any rfl (evalArgs_plain (spliced_cons (wpAny_mono h₁ (fun v s₂ h₂ => spliced_cons (wpAny_mono h₂ (fun u s₃ h₃ => spliced_nil h₃) fun _ _ e => e)) fun _ _ e => e)))) fun _ _ e => e)
theorem C3 {id : Str} {p pos : Pos} {a b c : Expr} (h : wpAny M A (eval (.Name id p) env) (fun f s₁ => wpAny M A (eval a env) (fun v s₂ => wpAny M A (eval b env) (fun u s₃ => wpAny M A (eval c env) (fun x s₄ => Callee s₄.heap f ∧ wpAny M A (call f [v, u, x]) Q E s₄) E s₃) E s₂) E s₁) E s)
 (he : starEach [a, b, c] env = [(false, eval a env), (false, eval b env), (false, eval c env)] := by rfl) : wpAny M A (eval (.Call (.Name id p) [a, b, c] [] pos) env) Q E s := by
 rw [arm_eval_Call_Name', he]
 exact wpAny_bind (wpAny_mono h (fun f s₁ h₁ => callWith_any rfl (evalArgs_plain (spliced_cons (wpAny_mono h₁ (fun v s₂ h₂ => spliced_cons (wpAny_mono h₂ (fun u s₃ h₃ => spliced_cons (wpAny_mono h₃ (fun x s₄ h₄ => spliced_nil h₄) fun _ _ e => e)) fun _ _ e => e)) fun _ _ e => e)))) fun _ _ e => e)
theorem C4 {id : Str} {p pos : Pos} {a b c d : Expr} (h : wpAny M A (eval (.Name id p) env) (fun f s₁ => wpAny M A (eval a env) (fun v s₂ => wpAny M A (eval b env) (fun u s₃ => wpAny M A (eval c env) (fun x s₄ => wpAny M A (eval d env) (fun y s₅ => Callee s₅.heap f ∧ wpAny M A (call f [v, u, x, y]) Q E s₅) E s₄) E s₃) E s₂) E s₁) E s)
 (he : starEach [a, b, c, d] env = [(false, eval a env), (false, eval b env), (false, eval c env), (false, eval d env)] := by rfl) : wpAny M A (eval (.Call (.Name id p) [a, b, c, d] [] pos) env) Q E s := by
 rw [arm_eval_Call_Name', he]
 exact wpAny_bind (wpAny_mono h (fun f s₁ h₁ => callWith_any rfl (evalArgs_plain (spliced_cons (wpAny_mono h₁ (fun v s₂ h₂ => spliced_cons (wpAny_mono h₂ (fun u s₃ h₃ => spliced_cons (wpAny_mono h₃ (fun x s₄ h₄ => spliced_cons (wpAny_mono h₄ (fun y s₅ h₅ => spliced_nil h₅) fun _ _ e => e)) fun _ _ e => e)) fun _ _ e => e)) fun _ _ e => e)))) fun _ _ e => e)
theorem tupE {elts : List Expr} {k : Nat} {pos : Pos} (h : wpAny M A (spliced (backTo pos (starEach elts env))) (fun vs s₁ => wpAny M A (newTuple vs) Q E s₁) E s) : wpAny M A (eval (.Tuple elts k pos) env) Q E s := PyProof.Rows.Tuple_ h
theorem lstE {elts : List Expr} {pos : Pos} (h : wpAny M A (spliced (backTo pos (starEach elts env))) (fun vs s₁ => wpAny M A (newList vs) Q E s₁) E s) : wpAny M A (eval (.List elts pos) env) Q E s := PyProof.Rows.List_ h
theorem sp1 {a : Expr} {rest : List Expr} {pos : Pos} {P : List Value → Shared → Prop} (h : wpAny M A (eval a env) (fun v s₁ => wpAny M A (spliced (backTo pos (starEach rest env))) (fun vs s₂ => P (v :: vs) s₂) E s₁) E s)
 (he : starEach (a :: rest) env = (false, eval a env) :: starEach rest env := by rfl) : wpAny M A (spliced (backTo pos (starEach (a :: rest) env))) P E s := by
 rw [he]; exact spliced_cons h
theorem sp0 {pos : Pos} {P : List Value → Shared → Prop} (h : P [] s) : wpAny M A (spliced (backTo pos (starEach [] env))) P E s := spliced_nil h
end
section
variable {prog : Program} {w : World} {A : Around} {E : Value → Shared → Prop} {s : Shared} {env : Env}
variable {h₀ g₀ g : Heap} {xt : List Addr} {L : Addr} {N : List Str} {vs : List (Option Value)} {mu : List (Addr × Obj)}
abbrev tupObj (vs : List Value) : Obj := { cls := .type "tuple", data := .seq vs.toArray }
abbrev lstObj (vs : List Value) (n : Nat) : Obj := { cls := .type "list", data := .seq vs.toArray n }
theorem newTup {items : List Value} {Q : Value → Shared → Prop} (F : St h₀ xt g₀ g L N vs mu s.heap)
 (h : ∀ a g' h', Le g g' → g'.get? a = some (tupObj items) → St h₀ xt g₀ g' L N vs mu h' → Q (.ref a) { s with heap := h' }) (hsz : items.length ≤ sizeLine := by size_fits) : wpAny (model prog w) A (newTuple items) Q E s := by
 obtain ⟨g', k, e, F'⟩ := F.made (tupObj items)
 exact wpAny_newTuple (h _ _ _ k e F') hsz
theorem newLst {items : List Value} {Q : Value → Shared → Prop} (F : St h₀ xt g₀ g L N vs mu s.heap)
 (h : ∀ a g' h', Le g g' → g'.get? a = some (lstObj items 0) → St h₀ xt g₀ g' L N vs mu h' → Q (.ref a) { s with heap := h' }) (hsz : items.length ≤ sizeLine := by size_fits) : wpAny (model prog w) A (newList items) Q E s := by
 obtain ⟨g', k, e, F'⟩ := F.made (lstObj items 0)
 exact wpAny_newList (h _ _ _ k e F') hsz
theorem newOwn {items : List Value} {Q : Value → Shared → Prop} (F : St h₀ xt g₀ g L N vs mu s.heap)
 (h : ∀ a h', St h₀ xt g₀ g L N vs ((a, lstObj items 0) :: mu) h' → h₀.objs.size ≤ a → Q (.ref a) { s with heap := h' }) (hsz : items.length ≤ sizeLine := by size_fits) : wpAny (model prog w) A (newList items) Q E s :=
 wpAny_newList (h _ _ (F.own (lstObj items 0)) F.lowSz) hsz
end
section
variable {w : World} {A : Around} {s : Shared} {g : Heap} {n : Nat}
theorem getSep_gives (X : Stat g) (kg : Le g s.heap) (hA : Ok A (n + 2)) (x : Str) (t : Tok) :
 Gives pw w A (.call (.ref 356) ⟨[.str x t], []⟩) s [] g (fun _ _ v => ∃ t', v = .str "/" t') := by
 refine Gives.go 13 [.str x t] ["path"] [] ["isinstance", "bytes"] rfl X kg hA rfl (BindsTo.of_eq rfl) rfl (by decide +kernel) fun h₁ env A' t' hA' C F => ?_
 refine wpAny_execs_cons (wpAny_If (wpAny_isTrue_value ?_))
 refine C2 (N_isinstance C X F.keep (.head _) (ld0 C F (N_bytes C X F.keep (.tail _ (.head _)) ⟨trivial, ?_⟩)))
 refine IsiPair.str_bytes ?_
 refine wpAny_truthy_bool ?_
 refine wpAny_execs_cons (wpAny_Return_some (Constant_str ?_))
 exact ends F ⟨_, rfl⟩
end
section
variable {prog : Program} {w : World} {A : Around} {E : Value → Shared → Prop} {s : Shared}
theorem codeAny_entry {id : String} {b : Builtin} {args : List Value} {R : Result → Shared → Prop} (hk : builtinKind id = none) (hp : plainId id = true)
 (hb : entryFor table id = some b) (ha : argsOk id ⟨args, []⟩)
 (hc : wpAny (model prog w) A.in1 (b ⟨args, []⟩) (fun fin s' => ∃ v, fin = .done (.ret v) ∧ R (.ok (.ret v)) s') (fun e s' => R (.error e) s') s) : codeAny (model prog w) A (.call (.builtin id) ⟨args, []⟩) R s := by
 refine codeAny_call_builtin hp hb ?_
 have hfin := wpAny_mono hc (Q' := fun fin s' => match fin with
  | .done f => R (.ok f) s'
  | .again c' => c'.quiet = true ∧ codeAny (model prog w) A c' R s')
  (fun fin s' h' => by obtain ⟨v, rfl, hv⟩ := h'; exact hv) fun _ _ h' => h'
 simp only [checkBuiltinCall, hk]
 cases hsig : Manifest.signature? id with
 | none => exact wpAny_pure hfin
 | some sig =>
  simp only [argsOk, hsig] at ha
  have h2 : Bind.checkArgs id sig ⟨args, []⟩ = pure () := ha
  show wpAny _ A.in1 (Bind.checkArgs id sig ⟨args, []⟩) _ _ s
  rw [h2]; exact wpAny_pure hfin
theorem kind_issub : builtinKind "issubclass.nested" = none := by decide +kernel
theorem plain_issub : plainId "issubclass.nested" = true := by decide +kernel
theorem args_issub (a b c : Value) : argsOk "issubclass.nested" ⟨[a, b, c], []⟩ := by unfold argsOk; kernel_rfl
theorem issub_one {k : Value} {dep : Int} {tk : Tok} {Q : Fin → Shared → Prop} (hk : k = .int dep tk) (hq : Q (.done (.ret (.bool true))) s) :
 wpAny (model prog w) A (Builtin.«issubclass.nested» ⟨[.type "str", .type "str", k], []⟩) Q E s := by
 subst hk
 have hm := F.isi_meta_str
 have hs := F.sub_str_str
 repeat (any_goals (first | assumption | (rw [if_pos hm]) | (rw [hs]) | wp_step))
theorem issub_tup {a : Addr} {Q : Value → Shared → Prop} (ha : s.heap.get? a = some { cls := .type "tuple", data := .seq #[.type "str", .type "bytes"] })
 (h : Q (.bool true) s) : wpAny (model prog w) A (call (.builtin "issubclass") [.type "str", .ref a]) Q E s := by
 refine call_issubclass (S := fun _ R s => s.heap.get? a = some { cls := .type "tuple", data := .seq #[.type "str", .type "bytes"] } ∧ R (.ok (.ret (.bool true))) s) (fun prog w A R s hs => issubclass_outer ?_) ⟨ha, h⟩
 obtain ⟨h, g, d, t, os⟩ := s
 have htp := hs.1
 have hq := hs.2
 have hT2 : (⟨h, g, d, t, os⟩ : Shared).TypeIs (.ref a) "tuple" := ⟨_, htp, rfl⟩
 have f1 := F.isi_sub_tuple
 repeat (any_goals (first | assumption | wp_step))
 refine codeAny_entry kind_issub plain_issub F.entry_issubclass_nested (args_issub _ _ _) (issub_one rfl ⟨_, rfl, ?_⟩)
 repeat (any_goals (first | assumption | wp_step))
section
variable {w : World} {A : Around} {s : Shared} {g : Heap} {n : Nat}
theorem fspath_gives (X : Stat g) (kg : Le g s.heap) (hA : Ok A (n + 2)) (x : Str) (t : Tok) :
 Gives pw w A (.call (.ref 342) ⟨[.str x t], []⟩) s [] g (fun _ _ v => v = .str x t) := by
 refine Gives.go 12 [.str x t] ["path"] ["kind", "hook", "given"] ["type", "issubclass", "str", "bytes"] rfl X kg hA rfl (BindsTo.of_eq rfl) rfl (by decide +kernel) fun h₁ env A' t' hA' C F => ?_
 refine wpAny_execs_cons (wpAny_Assign_Name ?_)
 refine C1 (N_type C X F.keep (.head _) (ld0 C F ⟨trivial, ?_⟩))
 refine call_type_of (Tx := "str") rfl (by decide +kernel) ?_
 refine st1 C F fun h' F => ?_
 refine wpAny_execs_cons (wpAny_If (wpAny_isTrue_value ?_))
 refine C2 (N_issubclass C X F.keep (.tail _ (.head _)) (ld1 C F ?_))
 refine tupE (sp1 (N_str C X F.keep (.tail _ (.tail _ (.head _))) (sp1 (N_bytes C X F.keep (.tail _ (.tail _ (.tail _ (.head _)))) (sp0 ?_)))))
 refine newTup F fun a g' h' k e F => ?_
 refine ⟨trivial, issub_tup (F.keep _ _ e) (wpAny_truthy_bool ?_)⟩
 refine wpAny_execs_cons (wpAny_Return_some (ld0 C F ?_))
 exact ends F rfl
end
end
abbrev no : Value → Shared → Prop := fun _ _ => False
theorem wpAny_no {α : Type} {M : Model} {A : Around} {t : Sem α} {Q : α → Shared → Prop} {E : Value → Shared → Prop} {s : Shared} (h : wpAny M A t Q no s) : wpAny M A t Q E s := wpAny_mono h (fun _ _ x => x) fun _ _ e => e.elim
theorem St.sub {h₀ g₀ g h : Heap} {xt : List Addr} {L : Addr} {N : List Str} {vs : List (Option Value)} {mu mu' : List (Addr × Obj)} (F : St h₀ xt g₀ g L N vs mu h) (hs : mu'.Sublist mu) : St h₀ xt g₀ g L N vs mu' h where
 len := F.len
 ns := F.ns
 base := F.base
 keep := F.keep
 low := F.low
 outg := F.outg
 mt := fun p hp => F.mt p (hs.subset hp)
 nd := (hs.map _).nodup F.nd
 mono := F.mono
 fresh := F.fresh
theorem St.but {h₀ g₀ g h h₁ : Heap} {xt : List Addr} {L I : Addr} {N : List Str} {vs : List (Option Value)} {mu : List (Addr × Obj)} {oI : Obj} (F : St h₀ xt g₀ g L N vs ((I, oI) :: mu) h)
 (hk : ∀ b o, b ∉ [I] → h.get? b = some o → h₁.get? b = some o) : St h₀ xt g₀ g L N vs mu h₁ := by
 have nI : ∀ b, b ≠ I → b ∉ [I] := fun b hb hm => hb (List.mem_singleton.mp hm)
 have mI := F.mt (I, oI) (.head _)
 have nd := F.nd
 rw [List.map_cons, List.nodup_cons] at nd
 refine ⟨F.len, ?_, ?_, ?_, F.low, F.outg, ?_, nd.2, F.mono, F.fresh⟩
 · obtain ⟨m, a, b⟩ := F.ns
   exact ⟨m, a.at' fun o e => hk _ o (nI _ (Ne.symm mI.2.1)) e, b⟩
 · intro b o' hb e
   have ne : b ≠ I := fun q => by
    subst q
    rcases mI.2.2.2 with z | z
    · exact hb z
    · exact absurd (Heap.lt_size e) (Nat.not_lt.mpr z)
   exact hk b o' (nI b ne) (F.base b o' hb e)
 · intro b o' e
   have ne : b ≠ I := fun q => by subst q; rw [mI.2.2.1] at e; cases e
   exact hk b o' (nI b ne) (F.keep b o' e)
 · intro p hp
   have P' := F.mt p (.tail _ hp)
   refine ⟨hk _ _ (nI _ fun q => nd.1 ?_) P'.1, P'.2⟩
   have z : p.1 ∈ mu.map (·.1) := List.mem_map_of_mem hp
   rwa [q] at z
theorem St.butHas {h₀ g₀ g h h₁ : Heap} {xt : List Addr} {L I : Addr} {N : List Str} {vs : List (Option Value)} {mu : List (Addr × Obj)} {oI o : Obj} (F : St h₀ xt g₀ g L N vs ((I, oI) :: mu) h)
 (hk : ∀ b o, b ∉ [I] → h.get? b = some o → h₁.get? b = some o) (ho : h₁.get? I = some o) : St h₀ xt g₀ g L N vs ((I, o) :: mu) h₁ := by
 have F₁ := F.but hk
 have mI := F.mt (I, oI) (.head _)
 have nd := F.nd
 rw [List.map_cons, List.nodup_cons] at nd
 exact ⟨F.len, F₁.ns, F₁.base, F₁.keep, F.low, F.outg, fun p hp => (List.mem_cons.mp hp).elim (fun e => by subst e; exact ⟨ho, mI.2⟩) fun hp => F₁.mt p hp, List.nodup_cons.mpr nd, F.mono, F.fresh⟩
structure It (prog : Program) (w : World) (A : Around) (target : Expr) (I : Addr) (n : Nat) (P : Nat → Value → Prop) (g : Heap) (Wst : Nat → Heap → Prop) : Prop where
 walks : ∃ fp, Walks prog w A I fp [I] n P Wst ∧ ∀ b ∈ fp, b = I ∨ (g.get? b).isSome = true
 alive : ∀ i h, Wst i h → ∃ o, h.get? I = some o
 go : ∀ i v (s : Shared) (Q : Unit → Shared → Prop), Wst i s.heap → Q () s → wpAny (model prog w) A (letOwnedTupleGo target (.ref I) v) Q no s
section
variable {prog : Program} {w : World} {A : Around} {s : Shared} {env : Env}
variable {h₀ g₀ g : Heap} {xt : List Addr} {L : Addr} {N : List Str} {vs : List (Option Value)} {mu : List (Addr × Obj)}
def Turn (h₀ g₀ : Heap) (xt : List Addr) (L : Addr) (N : List Str) (s : Shared) (g : Heap) (I : Addr) (oI : Obj) (J : Heap → List (Option Value) → List (Addr × Obj) → Prop) (Q : Flow → Shared → Prop) (f : Flow) (s' : Shared) : Prop :=
 match f with
 | .brk => Q .next s'
 | .ret v => Q (.ret v) s'
 | _ => ∃ g' vs' mu' h' t', s' = { s with heap := h', toks := t' } ∧ Le g g' ∧ St h₀ xt g₀ g' L N vs' ((I, oI) :: mu') h' ∧ J g' vs' mu'
theorem turn_next {I : Addr} {oI : Obj} {J : Heap → List (Option Value) → List (Addr × Obj) → Prop} {Q : Flow → Shared → Prop} {g' h' : Heap} {t' : Nat} (k : Le g g') (F : St h₀ xt g₀ g' L N vs ((I, oI) :: mu) h') (j : J g' vs mu) :
 Turn h₀ g₀ xt L N s g I oI J Q .next { s with heap := h', toks := t' } := ⟨g', vs, mu, h', t', rfl, k, F, j⟩
theorem turn_cont {I : Addr} {oI : Obj} {J : Heap → List (Option Value) → List (Addr × Obj) → Prop} {Q : Flow → Shared → Prop} {g' h' : Heap} {t' : Nat} (k : Le g g') (F : St h₀ xt g₀ g' L N vs ((I, oI) :: mu) h') (j : J g' vs mu) :
 Turn h₀ g₀ xt L N s g I oI J Q .cont { s with heap := h', toks := t' } := ⟨g', vs, mu, h', t', rfl, k, F, j⟩
theorem forLoop_ {target : Expr} {body : List Stmt} {I : Addr} {n : Nat} {P : Nat → Value → Prop} {Wst : Nat → Heap → Prop} {oI : Obj} {Q : Flow → Shared → Prop}
 (J : Nat → Heap → List (Option Value) → List (Addr × Obj) → Prop)
 (hI : It prog w A target I n P g Wst) (h0 : Wst 0 s.heap) (F : St h₀ xt g₀ g L N vs ((I, oI) :: mu) s.heap) (hj : J 0 g vs mu)
 (turn : ∀ i v g' vs' mu' oI h tk, i < n → P i v → Le g g' → J i g' vs' mu' → St h₀ xt g₀ g' L N vs' ((I, oI) :: mu') h →
  wpAny (model prog w) A (assign target env v) (fun _ s₁ => wpAny (model prog w) A (execs body env) (Turn h₀ g₀ xt L N s g' I oI (J (i + 1)) Q) no s₁) no { s with heap := h, toks := tk })
 (done : ∀ g' vs' mu' h tk, Le g g' → J n g' vs' mu' → St h₀ xt g₀ g' L N vs' mu' h → Q .next { s with heap := h, toks := tk }) :
 codeAny (model prog w) A (.forLoop target (.ref I) body [] env) (fun r s' => match r with | .ok f => Q f s' | .error _ => False) s := by
 obtain ⟨⟨fp, W, hfp⟩, alive, go⟩ := hI
 refine codeAny_forLoop_any (fun k s' => ∃ h tk i g' vs' mu' oI, s' = { s with heap := h, toks := tk } ∧ Wst i h ∧ Le g g' ∧ J i g' vs' mu' ∧ St h₀ xt g₀ g' L N vs' ((I, oI) :: mu') h ∧ i ≤ n ∧ k = n + 1 - i) ?_ (n + 1)
  ⟨s.heap, s.toks, 0, g, vs, mu, oI, rfl, h0, Le.rfl', hj, F, Nat.zero_le _, rfl⟩
 rintro k s' ⟨h, tk, i, g', vs', mu', oI', rfl, hw, hg, hJ, F', hi, rfl⟩
 by_cases hlt : i < n
 · refine wpAny_no (W.item i _ _ _ hlt hw fun v h₁ tk₁ hP hw₁ hk₁ => ?_)
   obtain ⟨o₁, ho₁⟩ := alive _ _ hw₁
   have F₁ := F'.butHas hk₁ ho₁
   refine wpAny_no (go (i + 1) v _ _ hw₁ ?_)
   refine wpAny_no (wpAny_mono (turn i v g' vs' mu' o₁ h₁ tk₁ hlt hP hg hJ F₁) (fun _ s₁ h₁' => wpAny_no (wpAny_mono h₁' (fun f s₂ h₂ => ?_) fun _ _ e => e)) fun _ _ e => e)
   have fin : (∃ g'' vs'' mu'' h'' t'', s₂ = { s with heap := h'', toks := t'' } ∧ Le g' g'' ∧ St h₀ xt g₀ g'' L N vs'' ((I, o₁) :: mu'') h'' ∧ J (i + 1) g'' vs'' mu'') → ∃ m, m < n + 1 - i ∧ ∃ h tk i g' vs' mu' oI, s₂ = { s with heap := h, toks := tk } ∧ Wst i h ∧ Le g g' ∧ J i g' vs' mu' ∧ St h₀ xt g₀ g' L N vs' ((I, oI) :: mu') h ∧ i ≤ n ∧ m = n + 1 - i := by
    rintro ⟨g'', vs'', mu'', h'', t'', rfl, k2, F₂, J₂⟩
    refine ⟨n + 1 - (i + 1), by omega, h'', t'', i + 1, g'', vs'', mu'', o₁, rfl, ?_, hg.tr k2, J₂, F₂, hlt, rfl⟩
    refine W.frame _ _ _ hw₁ fun b hb o e => ?_
    rcases hfp b hb with rfl | q
    · have z := (F₁.mt _ (.head _)).1
      rw [e] at z; cases z
      exact (F₂.mt _ (.head _)).1
    · obtain ⟨o', e'⟩ := Option.isSome_iff_exists.mp q
      have z := F₁.keep b o' (hg b o' e')
      rw [e] at z; cases z
      exact F₂.keep b o (k2 b o (hg b o e'))
   cases f with
   | next => exact fin h₂
   | cont => exact fin h₂
   | brk => exact h₂
   | ret v => exact h₂
 · have hin : i = n := by omega
   subst hin
   refine wpAny_no (W.done _ _ _ hw fun h₁ tk₁ hk₁ => wpAny_execs_nil ?_)
   exact done g' vs' mu' h₁ tk₁ hg hJ (F'.but hk₁)
end
section
variable {prog : Program} {w : World} {A : Around} {s : Shared} {env : Env}
variable {h₀ g₀ g : Heap} {xt : List Addr} {L : Addr} {N : List Str} {vs : List (Option Value)} {mu : List (Addr × Obj)}
theorem For_ {target iter : Expr} {body : List Stmt} {pos : Pos} {Q : Flow → Shared → Prop} {E : Value → Shared → Prop}
 (h : wpAny (model prog w) A (eval iter env) (fun x s₁ => wpAny (model prog w) A (pyIter x) (fun it s₂ => codeAny (model prog w) A (.forLoop target it body [] env) (fun r s' => match r with | .ok f => Q f s' | .error _ => False) s₂) no s₁) no s)
 (hs : ∀ x, foldedSetIterable iter env x = pure x := by intro _; rfl) : wpAny (model prog w) A (exec (.For target iter body [] pos) env) Q E s := by
 refine wpAny_no (wpAny_For (E := no) (wpAny_mono h (fun x s₁ h₁ => wpAny_mono h₁ (fun it s₂ h₂ => codeAny_mono h₂ fun r s' h' => ?_) fun _ _ e => e) fun _ _ e => e) hs)
 cases r with
 | ok f => exact h'
 | error e => exact h'.elim
abbrev litObj (l : Addr) : Obj := { cls := .type "list_iterator", data := .fields #[.ref l, .int 0 0] }
abbrev titObj (l : Addr) : Obj := { cls := .type "tuple_iterator", data := .fields #[.ref l, .int 0 0] }
theorem It.list {target : Expr} {I l : Addr} {vs : List Value} {k : Nat} {g h : Heap} (hh : A.handled = none) (hl : g.get? l = some (lstObj vs k)) (hI : g.get? I = none) (kg : Le g h) (hi : h.get? I = some (litObj l))
 (hgo : ∀ (i : Nat) (v : Value) (s : Shared) (Q : Unit → Shared → Prop), s.heap.IsListIter I l i → Q () s → wpAny (model prog w) A (letOwnedTupleGo target (.ref I) v) Q no s) :
 It prog w A target I vs.length (fun i v => vs[i]? = some v) g (fun i h => h.IsListIter I l i ∧ h.IsList l vs.toArray) ∧ (h.IsListIter I l 0 ∧ h.IsList l vs.toArray) := by
 have ne : l ≠ I := fun q => by subst q; rw [hI] at hl; cases hl
 refine ⟨⟨⟨[I, l], by simpa using (Walks.list (prog := prog) (w := w) (A := A) hh I l ne vs.toArray), fun b hb => ?_⟩, fun i h hw => let ⟨o, e, _⟩ := hw.1; ⟨o, e⟩, fun i v s Q hw hq => hgo i v s Q hw.1 hq⟩, ⟨_, hi, rfl, rfl⟩, ⟨_, kg _ _ hl, rfl, _, rfl⟩⟩
 rcases List.mem_cons.mp hb with rfl | hb
 · exact .inl rfl
 · rw [List.mem_singleton.mp hb, hl]; exact .inr rfl
theorem It.tuple {target : Expr} {I l : Addr} {vs : List Value} {g h : Heap} (hh : A.handled = none) (hl : g.get? l = some (tupObj vs)) (hI : g.get? I = none) (kg : Le g h) (hi : h.get? I = some (titObj l))
 (hgo : ∀ (i : Nat) (v : Value) (s : Shared) (Q : Unit → Shared → Prop), s.heap.IsTupleIter I l i → Q () s → wpAny (model prog w) A (letOwnedTupleGo target (.ref I) v) Q no s) :
 It prog w A target I vs.length (fun i v => vs[i]? = some v) g (fun i h => h.IsTupleIter I l i ∧ h.IsTuple l vs.toArray) ∧ (h.IsTupleIter I l 0 ∧ h.IsTuple l vs.toArray) := by
 have ne : l ≠ I := fun q => by subst q; rw [hI] at hl; cases hl
 refine ⟨⟨⟨[I, l], by simpa using (Walks.tuple (prog := prog) (w := w) (A := A) hh I l ne vs.toArray), fun b hb => ?_⟩, fun i h hw => let ⟨o, e, _⟩ := hw.1; ⟨o, e⟩, fun i v s Q hw hq => hgo i v s Q hw.1 hq⟩, ⟨_, hi, rfl, rfl⟩, ⟨_, kg _ _ hl, rfl, _, rfl⟩⟩
 rcases List.mem_cons.mp hb with rfl | hb
 · exact .inl rfl
 · rw [List.mem_singleton.mp hb, hl]; exact .inr rfl
theorem go_name {x : Str} {p : Pos} {it v : Value} {Q : Unit → Shared → Prop} (h : Q () s) : wpAny (model prog w) A (letOwnedTupleGo (.Name x p) it v) Q no s := by
 unfold letOwnedTupleGo; exact wpAny_pure h
end
section
variable {h₀ g₀ g g' h h' h'' : Heap} {xt : List Addr} {L I C : Addr} {N : List Str} {vs : List (Option Value)} {mu : List (Addr × Obj)} {oI : Obj}
structure Off (h₀ g : Heap) (L C : Addr) (mu : List (Addr × Obj)) : Prop where
 h₀ : h₀.get? C = none
 L : C ≠ L
 g : g.get? C = none
 mu : ∀ p ∈ mu, p.1 ≠ C
theorem St.off (F : St h₀ xt g₀ g L N vs mu h) (O : Off h₀ g L C mu) (hs : Heap.SameBut C h h') : St h₀ xt g₀ g L N vs mu h' where
 len := F.len
 ns := let ⟨m, a, b⟩ := F.ns; ⟨m, a.sameBut hs (Ne.symm O.L), b⟩
 base := fun b o hb e => (hs.2 b fun q => by subst q; rw [O.h₀] at e; cases e).trans (F.base b o hb e)
 keep := fun b o e => (hs.2 b fun q => by subst q; rw [O.g] at e; cases e).trans (F.keep b o e)
 low := F.low
 outg := F.outg
 mt := fun p hp => ⟨(hs.2 _ (O.mu p hp)).trans (F.mt p hp).1, (F.mt p hp).2⟩
 nd := F.nd
 mono := F.mono
 fresh := F.fresh
theorem St.callBut (F : St h₀ xt g₀ g L N vs ((I, oI) :: mu) h) (o : Out h [I] g g' h') : St h₀ xt g₀ g' L N vs mu h' := by
 have nI : ∀ b, b ≠ I → b ∉ [I] := fun b hb hm => hb (List.mem_singleton.mp hm)
 have mI := F.mt (I, oI) (.head _)
 have nd := F.nd
 rw [List.map_cons, List.nodup_cons] at nd
 refine ⟨F.len, ?_, ?_, o.keep, F.low, ?_, ?_, nd.2, F.mono.tr o.mono, ?_⟩
 · obtain ⟨m, a, b⟩ := F.ns
   exact ⟨m, a.at' fun x e => o.base _ x (nI _ (Ne.symm mI.2.1)) e, b⟩
 · intro b x hb e
   have ne : b ≠ I := fun q => by
    subst q
    rcases mI.2.2.2 with z | z
    · exact hb z
    · exact absurd (Heap.lt_size e) (Nat.not_lt.mpr z)
   exact o.base b x (nI b ne) (F.base b x hb e)
 · cases q : g'.get? L with
   | none => rfl
   | some x => exact absurd (o.fresh L x q F.outg) (Nat.not_le.mpr F.lt)
 · intro p hp
   have P := F.mt p (.tail _ hp)
   refine ⟨o.base _ _ (nI _ fun q => nd.1 ?_) P.1, P.2.1, ?_, P.2.2.2⟩
   · have z : p.1 ∈ mu.map (·.1) := List.mem_map_of_mem hp
     rwa [q] at z
   · cases q : g'.get? p.1 with
     | none => rfl
     | some x => exact absurd (o.fresh _ x q P.2.2.1) (Nat.not_le.mpr (Heap.lt_size P.1))
 · intro b x e e0
   cases q : g.get? b with
   | some y => exact F.fresh b y q e0
   | none => exact Nat.le_trans F.lowSz (o.fresh b x e q)
end
abbrev lst (ys : List Value) : Obj := lstObj ys ys.length
theorem lst_snoc (ys : List Value) (y : Value) : ({ cls := .type "list", data := .seq (ys.toArray.push y) (ys.length + 1) } : Obj) = lst (ys ++ [y]) := by
 show ({ cls := .type "list", data := .seq (ys.toArray.push y) (ys.length + 1) } : Obj) = { cls := .type "list", data := .seq (ys ++ [y]).toArray (ys ++ [y]).length }
 rw [List.length_append, List.length_singleton, List.push_toArray]
def tests (ifs : List Expr) (env : Env) : Sem Bool := forIn ifs true fun c r => if r = true then do let ok ← isTrue c env (eval c env); pure (ForInStep.yield ok) else pure (ForInStep.yield r)
section
variable {prog : Program} {w : World} {A : Around} {s : Shared} {env : Env}
theorem tests0 {Q : Bool → Shared → Prop} {E : Value → Shared → Prop} (h : Q true s) : wpAny (model prog w) A (tests [] env) Q E s := wpAny_tests_nil h
theorem tests1 {c : Expr} {Q : Bool → Shared → Prop} {E : Value → Shared → Prop} (h : wpAny (model prog w) A (isTrue c env (eval c env)) Q E s) : wpAny (model prog w) A (tests [c] env) Q E s := wpAny_tests_one h
theorem gc_loop {elt target iter : Expr} {ifs : List Expr} {scope : Scope} {pos : Pos} {it acc : Value} {R : Result → Shared → Prop} (I : Nat → Shared → Prop)
 (turn : ∀ n s, I n s → wpAny (model prog w) A (pyNext it) (fun r s₁ => match r with
  | none => R (.ok .next) s₁
  | some v => wpAny (model prog w) A (letOwnedTupleGo target it v) (fun _ s₀ => wpAny (model prog w) A (assign target env v) (fun _ s₂ =>
   wpAny (model prog w) A (tests ifs env) (fun ok s₃ => if ok = true then wpAny (model prog w) A (eval elt env) (fun x s₄ =>
    wpAny (model prog w) A (call (.builtin "list.append") [acc, x]) (fun _ s₅ => ∃ m, m < n ∧ I m s₅) no s₄) no s₃
    else ∃ m, m < n ∧ I m s₃) no s₂) no s₀) no s₁) no s)
 (n : Nat) (h : I n s) : codeAny (model prog w) A (.compLoop (.ListComp elt [⟨target, iter, ifs, 0⟩] scope pos) 0 it acc env) R s := by
 refine codeAny_loop rfl I (fun n s hI => ?_) n h
 show wpAny _ A ((compTurn (.ListComp elt [⟨target, iter, ifs, 0⟩] scope pos) 0 it acc env).onRaise (fun x => do noteFrame x env; theTreesLotGoes x)) _ _ s
 refine wpAny_noted ?_
 rw [compTurn_list]
 refine wpAny_bind (wpAny_standAt (wpAny_bind (wpAny_no (wpAny_mono (turn n s hI) (fun r s₁ h₁ => ?_) fun _ _ h' => h'))))
 cases r with
 | none => exact wpAny_pure h₁
 | some v =>
  refine wpAny_bind (wpAny_no (wpAny_mono h₁ (fun _ s₀ h₀' => ?_) fun _ _ h' => h'))
  refine wpAny_bind (wpAny_no (wpAny_mono h₀' (fun _ s₂ h₂ => ?_) fun _ _ h' => h'))
  refine wpAny_bind (wpAny_no (wpAny_mono h₂ (fun okb s₃ h₃ => ?_) fun _ _ h' => h'))
  cases okb with
  | false => exact wpAny_pure ⟨rfl, h₃⟩
  | true => exact wpAny_bind (wpAny_bind (wpAny_no (wpAny_mono h₃ (fun x s₄ h₄ => wpAny_bind (wpAny_no (wpAny_mono h₄ (fun _ s₅ h₅ => wpAny_pure (wpAny_pure ⟨rfl, h₅⟩)) fun _ _ h' => h'))) fun _ _ h' => h')))
end
section
variable {prog : Program} {w : World} {A : Around} {s : Shared} {env : Env}
variable {h₀ g₀ g : Heap} {xt : List Addr} {L : Addr} {N Nn Gl : List Str} {vs : List (Option Value)} {mu : List (Addr × Obj)}
def CEnd (s : Shared) (g : Heap) (I C D : Addr) (oI : Obj) (Nn : List Str) (ys : List Value) (g₁ : Heap) (J : Heap → Prop) (s' : Shared) : Prop :=
 ∃ g' us h' t', s' = { s with heap := h', toks := t' } ∧ Le g₁ g' ∧ St s.heap [I] g g' C Nn us [(I, oI), (D, lst ys)] h' ∧ J g'
theorem cEnd {s : Shared} {g g₁ g' h' : Heap} {I C D : Addr} {oI : Obj} {Nn : List Str} {us : List (Option Value)} {ys : List Value} {t' : Nat} {J : Heap → Prop} (k : Le g₁ g') (F : St s.heap [I] g g' C Nn us [(I, oI), (D, lst ys)] h') (j : J g') :
 CEnd s g I C D oI Nn ys g₁ J { s with heap := h', toks := t' } := ⟨g', us, h', t', rfl, k, F, j⟩
theorem comp_block {elt target iter : Expr} {ifs : List Expr} {scope : Scope} {pos : Pos} {cl : List (Str × Addr)} {I : Addr} {oI : Obj} {n : Nat} {P : Nat → Value → Prop} {Wst : Nat → Heap → Prop} {RR : Value → Addr → Result → Shared → Prop}
 (J : Nat → Heap → List Value → Prop) (hcell : ∀ y ∈ scope.names, y.2 ≠ .cell) (hkind : scope.kind = .function)
 (F : St h₀ xt g₀ g L N vs ((I, oI) :: mu) s.heap) (hI : It prog w A target I n P g Wst) (h0 : Wst 0 s.heap) (hj : J 0 g []) (hn : n ≤ sizeLine)
 (turn : ∀ i v g' us ys oI C D h tk, i < n → P i v → Le g g' → J i g' ys → us.length = Nn.length → St s.heap [I] g g' C Nn us [(I, oI), (D, lst ys)] h →
  wpAny (model prog w) A (assign target (compEnvC scope cl C env) v) (fun _ s₁ => wpAny (model prog w) A (tests ifs (compEnvC scope cl C env)) (fun ok s₃ =>
   if ok = true then wpAny (model prog w) A (eval elt (compEnvC scope cl C env)) (fun y => CEnd s g I C D oI Nn ys g' fun g'' => J (i + 1) g'' (ys ++ [y])) no s₃
   else CEnd s g I C D oI Nn ys g' (fun g'' => J (i + 1) g'' ys) s₃) no s₁) no { s with heap := h, toks := tk })
 (done : ∀ g₁ g' D C m h' tk ys, Le g g' → Le g₁ g' → J n g₁ ys → g'.get? D = some (lst ys) → h'.Ns C m → Off h₀ g' L C mu → St h₀ xt g₀ g' L N vs mu h' → RR (.ref D) C (.ok .next) { s with heap := h', toks := tk }) :
 wpAny (model prog w) A (newList []) (fun acc s₃ => wpAny (model prog w) A (newFunctionEnv scope env.globals cl [] env.qual none .none (some env)) (fun cenv s₄ =>
  codeAny (model prog w) A (.compStart (.ListComp elt [⟨target, iter, ifs, 0⟩] scope pos) 0 (.ref I) acc { cenv with scope := relabel scope env }) (RR acc cenv.locals) s₄) no s₃) no s := by
 refine wpAny_newObj_type (wpAny_newFunctionEnv hcell (by intro y hy; simp at hy) (fun h₁ hns₁ hsb₁ => ?_) hkind)
 dsimp only at hns₁ hsb₁ ⊢
 generalize hH2 : s.heap.push { cls := .type "list", dict := none, data := .seq ([] : List Value).toArray } = H2 at hns₁ hsb₁ ⊢
 have hC : H2.objs.size = s.heap.objs.size + 1 := by rw [← hH2, Heap.size_push]
 have hDC : s.heap.objs.size ≠ H2.objs.size := by rw [hC]; exact Nat.ne_of_lt (Nat.lt_succ_self _)
 have below : ∀ b, b < s.heap.objs.size → b ≠ H2.objs.size ∧ b ≠ s.heap.objs.size := fun b hb => ⟨by rw [hC]; exact Nat.ne_of_lt (Nat.lt_succ_of_lt hb), Nat.ne_of_lt hb⟩
 have old : ∀ b o, s.heap.get? b = some o → h₁.get? b = some o := fun b o e => hsb₁.extBut b o (below b (Heap.lt_size e)).1 (Heap.get?_push_of_some _ (hH2 ▸ Heap.get?_push_of_some _ e))
 have hacc : h₁.get? s.heap.objs.size = some (lst []) := hsb₁.extBut _ _ hDC (Heap.get?_push_of_some _ (hH2 ▸ Heap.get?_push_size _ rfl))
 have fresh : ∀ a, s.heap.objs.size ≤ a → s.heap.get? a = none := fun a ha => by
  cases e : s.heap.get? a with
  | none => rfl
  | some o' => exact absurd (Heap.lt_size e) (Nat.not_lt.mpr ha)
 have gno : ∀ a, s.heap.objs.size ≤ a → g.get? a = none := fun a ha => by
  cases e : g.get? a with
  | none => rfl
  | some o' => have z := F.keep a o' e; rw [fresh a ha] at z; cases z
 have mI := F.mt (I, oI) (.head _)
 have hIlt : I < s.heap.objs.size := Heap.lt_size mI.1
 have F₁ : St s.heap [I] g g H2.objs.size Nn (Nn.map fun _ => none) [(I, oI), (s.heap.objs.size, lst [])] h₁ := by
  refine ⟨List.length_map .., ⟨_, hns₁, fun i x hx => ?_⟩, fun b o _ e => old b o e, fun b o e => old b o (F.keep b o e), by rw [hC]; exact Nat.le_succ _, gno _ (by rw [hC]; exact Nat.le_succ _), ?_, ?_, Le.rfl', ?_⟩
  · rw [List.getElem?_map, hx]; rfl
  · intro p hp
    rcases List.mem_cons.mp hp with rfl | hp
    · exact ⟨old _ _ mI.1, (below _ hIlt).1, mI.2.2.1, .inl (.head _)⟩
    · rw [List.mem_singleton.mp hp]
      exact ⟨hacc, hDC, gno _ (Nat.le_refl _), .inr (Nat.le_refl _)⟩
  · exact List.nodup_cons.mpr ⟨fun hm => (below _ hIlt).2 (List.mem_singleton.mp hm), List.nodup_cons.mpr ⟨List.not_mem_nil, .nil⟩⟩
  · intro b o e e0; rw [e] at e0; cases e0
 obtain ⟨⟨fp, W, hfp⟩, alive, go⟩ := hI
 have hst₁ : Wst 0 h₁ := W.frame _ _ _ h0 fun b _ o e => old b o e
 have loop : ∀ s₃ : Shared, s₃ = { s with heap := h₁, toks := s.toks + ([] : List (Str × Value)).length } →
  codeAny (model prog w) A (.compLoop (.ListComp elt [⟨target, iter, ifs, 0⟩] scope pos) 0 (.ref I) (.ref s.heap.objs.size) (compEnvC scope cl H2.objs.size env)) (RR (.ref s.heap.objs.size) H2.objs.size) s₃ := by
  rintro s₃ rfl
  refine gc_loop (fun k s' => ∃ h tk i g' us ys oI, s' = { s with heap := h, toks := tk } ∧ Wst i h ∧ Le g g' ∧ J i g' ys ∧ ys.length ≤ i ∧ St s.heap [I] g g' H2.objs.size Nn us [(I, oI), (s.heap.objs.size, lst ys)] h ∧ i ≤ n ∧ k = n + 1 - i) ?_ (n + 1)
   ⟨h₁, _, 0, g, _, [], oI, rfl, hst₁, Le.rfl', hj, Nat.le_refl _, F₁, Nat.zero_le _, rfl⟩
  rintro k s' ⟨h, tk, i, g', us, ys, oI', rfl, hw, hg, hJ, hyl, F', hi, rfl⟩
  by_cases hlt : i < n
  · refine wpAny_no (W.item i _ _ _ hlt hw fun v h₂ tk₂ hP hw₂ hk₂ => ?_)
    obtain ⟨o₂, ho₂⟩ := alive _ _ hw₂
    have F₂ := F'.butHas hk₂ ho₂
    refine wpAny_no (go (i + 1) v _ _ hw₂ ?_)
    have fin : ∀ (ys' : List Value) (s₅ : Shared), ys'.length ≤ i + 1 → (∃ g'' us'' h'' t'', s₅ = { s with heap := h'', toks := t'' } ∧ Le g' g'' ∧ St s.heap [I] g g'' H2.objs.size Nn us'' [(I, o₂), (s.heap.objs.size, lst ys')] h'' ∧ J (i + 1) g'' ys') →
     ∃ m, m < n + 1 - i ∧ ∃ h tk i g' us ys oI, s₅ = { s with heap := h, toks := tk } ∧ Wst i h ∧ Le g g' ∧ J i g' ys ∧ ys.length ≤ i ∧ St s.heap [I] g g' H2.objs.size Nn us [(I, oI), (s.heap.objs.size, lst ys)] h ∧ i ≤ n ∧ m = n + 1 - i := by
     rintro ys' s₅ hl ⟨g'', us'', h'', t'', rfl, k2, F₃, J₃⟩
     refine ⟨n + 1 - (i + 1), by omega, h'', t'', i + 1, g'', us'', ys', o₂, rfl, ?_, hg.tr k2, J₃, hl, F₃, hlt, rfl⟩
     refine W.frame _ _ _ hw₂ fun b hb o e => ?_
     rcases hfp b hb with rfl | q
     · have z := (F₂.mt _ (.head _)).1
       rw [e] at z; cases z
       exact (F₃.mt _ (.head _)).1
     · obtain ⟨o', e'⟩ := Option.isSome_iff_exists.mp q
       have z := F₂.keep b o' (hg b o' e')
       rw [e] at z; cases z
       exact F₃.keep b o (k2 b o (hg b o e'))
    refine wpAny_mono (turn i v g' us ys o₂ H2.objs.size s.heap.objs.size h₂ tk₂ hlt hP hg hJ F₂.len F₂) (fun _ s₁ h₁' => wpAny_mono h₁' (fun ok s₃ h₃ => ?_) fun _ _ e => e) fun _ _ e => e
    cases ok with
    | false =>
     simp only [Bool.false_eq_true, if_false] at h₃ ⊢
     exact fin ys s₃ (Nat.le_succ_of_le hyl) h₃
    | true =>
     simp only [if_true] at h₃ ⊢
     refine wpAny_mono h₃ (fun y s₄ h₄ => ?_) fun _ _ e => e
     obtain ⟨g'', us'', h'', t'', rfl, k2, F₃, J₃⟩ := h₄
     refine append_at (F₃.mt (s.heap.objs.size, lst ys) (.tail _ (.head _))).1 (fun h₆ hs₆ hD₆ => ?_) (by show ys.toArray.size ≤ sizeLine; rw [List.size_toArray]; omega)
     refine fin (ys ++ [y]) _ (by rw [List.length_append, List.length_singleton]; exact Nat.succ_le_succ hyl) ⟨g'', us'', h₆, t'', rfl, k2, ?_, J₃⟩
     exact F₃.turn (pre := [(I, o₂)]) (post := []) rfl hs₆ (hD₆.trans (congrArg some (lst_snoc ys y)))
  · have hin : i = n := by omega
    subst hin
    refine wpAny_no (W.done _ _ _ hw fun h₂ tk₂ hk₂ => ?_)
    have F₂ := F'.but hk₂
    obtain ⟨g'', k2, eD, F₃⟩ := F₂.freeze (pre := []) (post := []) rfl (Nat.le_refl _)
    have O := F₃.out
    obtain ⟨m, hm, _⟩ := F₃.ns
    have hCl : s.heap.objs.size ≤ H2.objs.size := by rw [hC]; exact Nat.le_succ _
    refine done g' g'' _ _ m h₂ tk₂ ys (hg.tr k2) k2 hJ eD hm ⟨?_, ?_, F₃.outg, ?_⟩ (F.callBut O)
    · cases e : h₀.get? H2.objs.size with
      | none => rfl
      | some o => exact absurd (Nat.lt_of_lt_of_le (Heap.lt_size e) F.lowSz) (Nat.not_lt.mpr hCl)
    · exact fun q => absurd F.lt (Nat.not_lt.mpr (q ▸ hCl))
    · exact fun p hp q => absurd (Heap.lt_size (F.mt p (.tail _ hp)).1) (Nat.not_lt.mpr (q ▸ hCl))
 exact codeAny_compStart_list (loop _ rfl) (W.self 0 _ _ _ hst₁ (loop _ rfl))
end
section
variable {prog : Program} {w : World} {A : Around} {s : Shared} {env : Env}
variable {h₀ g₀ g : Heap} {xt : List Addr} {L : Addr} {N Nn Gl : List Str} {vs : List (Option Value)} {mu : List (Addr × Obj)}
theorem each_list {x : Str} {p : Pos} {body : List Stmt} {l : Addr} {items : List Value} {k : Nat} {Q : Flow → Shared → Prop}
 (J : Nat → Heap → List (Option Value) → List (Addr × Obj) → Prop) (hh : A.handled = none) (F : St h₀ xt g₀ g L N vs mu s.heap) (hl : g.get? l = some (lstObj items k)) (hj : J 0 g vs mu)
 (turn : ∀ i v g' vs' mu' I oI h tk, items[i]? = some v → Le g g' → J i g' vs' mu' → St h₀ xt g₀ g' L N vs' ((I, oI) :: mu') h →
  wpAny (model prog w) A (storeName env x v) (fun _ s₁ => wpAny (model prog w) A (execs body env) (Turn h₀ g₀ xt L N s g' I oI (J (i + 1)) Q) no s₁) no { s with heap := h, toks := tk })
 (done : ∀ g' vs' mu' h tk, Le g g' → J items.length g' vs' mu' → St h₀ xt g₀ g' L N vs' mu' h → Q .next { s with heap := h, toks := tk }) :
 wpAny (model prog w) A (pyIter (.ref l)) (fun it s₂ => codeAny (model prog w) A (.forLoop (.Name x p) it body [] env) (fun r s' => match r with | .ok f => Q f s' | .error _ => False) s₂) no s := by
 refine wpAny_pyIter_list ⟨_, F.keep _ _ hl, rfl, _, rfl⟩ ?_
 have F₁ := F.own (litObj l)
 obtain ⟨hI, h0⟩ := It.list (prog := prog) (w := w) (A := A) (target := .Name x p) hh hl (F₁.mt _ (.head _)).2.2.1 F₁.keep (F₁.mt _ (.head _)).1 fun i v s Q _ h => go_name h
 exact forLoop_ J hI h0 F₁ hj (fun i v g' vs' mu' oI h tk _ hP hg hJ F' => wpAny_assign_Name (turn i v g' vs' mu' _ oI h tk hP hg hJ F')) done
theorem each_tuple {x : Str} {p : Pos} {body : List Stmt} {l : Addr} {items : List Value} {Q : Flow → Shared → Prop}
 (J : Nat → Heap → List (Option Value) → List (Addr × Obj) → Prop) (hh : A.handled = none) (F : St h₀ xt g₀ g L N vs mu s.heap) (hl : g.get? l = some (tupObj items)) (hj : J 0 g vs mu)
 (turn : ∀ i v g' vs' mu' I oI h tk, items[i]? = some v → Le g g' → J i g' vs' mu' → St h₀ xt g₀ g' L N vs' ((I, oI) :: mu') h →
  wpAny (model prog w) A (storeName env x v) (fun _ s₁ => wpAny (model prog w) A (execs body env) (Turn h₀ g₀ xt L N s g' I oI (J (i + 1)) Q) no s₁) no { s with heap := h, toks := tk })
 (done : ∀ g' vs' mu' h tk, Le g g' → J items.length g' vs' mu' → St h₀ xt g₀ g' L N vs' mu' h → Q .next { s with heap := h, toks := tk }) :
 wpAny (model prog w) A (pyIter (.ref l)) (fun it s₂ => codeAny (model prog w) A (.forLoop (.Name x p) it body [] env) (fun r s' => match r with | .ok f => Q f s' | .error _ => False) s₂) no s := by
 refine wpAny_pyIter_tuple ⟨_, F.keep _ _ hl, rfl, _, rfl⟩ ?_
 have F₁ := F.own (titObj l)
 obtain ⟨hI, h0⟩ := It.tuple (prog := prog) (w := w) (A := A) (target := .Name x p) hh hl (F₁.mt _ (.head _)).2.2.1 F₁.keep (F₁.mt _ (.head _)).1 fun i v s Q _ h => go_name h
 exact forLoop_ J hI h0 F₁ hj (fun i v g' vs' mu' oI h tk _ hP hg hJ F' => wpAny_assign_Name (turn i v g' vs' mu' _ oI h tk hP hg hJ F')) done
structure CellAt (env : Env) (x : Str) (c : Addr) : Prop where
 kind : env.scope.kind = .function
 isC : env.kindOf x = some .cell
 at_ : env.cells.lookup x = some c
 nd : (x == ("__debug__" : Str)) = false
theorem ldC {x : Str} {pos : Pos} {c : Addr} {o : Obj} {v : Value} {Q : Value → Shared → Prop} {E : Value → Shared → Prop} (c_ : CellAt env x c) (k : Le g s.heap) (hg : g.get? c = some o) (hd : o.data = .cell (some v)) (h : Q v s) :
 wpAny (model prog w) A (eval (.Name x pos) env) Q E s := wpAny_Name (wpAny_loadName_cell c_.kind c_.isC c_.at_ ⟨o, k _ _ hg, hd⟩ h) c_.nd
theorem stC {x : Str} {c : Addr} {o : Obj} {v : Value} {u : Option Value} {Q : Unit → Shared → Prop} {E : Value → Shared → Prop} {pre post : List (Addr × Obj)} (c_ : CellAt env x c) (F : St h₀ xt g₀ g L N vs mu s.heap) (e : mu = pre ++ (c, o) :: post) (hd : o.data = .cell u)
 (h : ∀ h' o', o'.data = .cell (some v) → St h₀ xt g₀ g L N vs (pre ++ (c, o') :: post) h' → Q () { s with heap := h' }) : wpAny (model prog w) A (storeName env x v) Q E s := by
 refine wpAny_storeName_cell c_.kind c_.isC c_.at_ ⟨o, (F.mt (c, o) (by rw [e]; simp)).1, hd⟩ fun h' hc hs => ?_
 obtain ⟨o', ho', hd'⟩ := hc
 exact h h' o' hd' (F.turn e hs ho')
theorem lookup_relabel {env : Env} {k₀ : NameKind} (hk : k₀ ≠ .free) : ∀ {names : List (Str × NameKind)} {x : Str}, names.lookup x = some k₀ →
 (names.map fun (n, k) => if (k == NameKind.free && env.scope.kind == .function && env.kindOf n == some .cell) then (n, NameKind.cell) else (n, k)).lookup x = some k₀
 | [], _, h => by simp at h
 | (n, k) :: r, x, h => by
  have ih := @lookup_relabel env k₀ hk r x
  show List.lookup x ((if (k == NameKind.free && env.scope.kind == .function && env.kindOf n == some .cell) = true then (n, NameKind.cell) else (n, k)) :: _) = _
  cases hx : x == n with
  | true =>
   simp only [List.lookup_cons, hx] at h
   cases h
   simp [List.lookup_cons, hx, hk]
  | false =>
   simp only [List.lookup_cons, hx] at h
   by_cases hc : (k == NameKind.free && env.scope.kind == .function && env.kindOf n == some .cell) = true
   · rw [if_pos hc]; simp only [List.lookup_cons, hx]; exact ih h
   · rw [if_neg hc]; simp only [List.lookup_cons, hx]; exact ih h
theorem lookup_relabel_cell {env : Env} {x : Str} (he : env.scope.kind = .function) (hx' : env.kindOf x = some .cell) : ∀ {names : List (Str × NameKind)}, names.lookup x = some .free →
 (names.map fun (n, k) => if (k == NameKind.free && env.scope.kind == .function && env.kindOf n == some .cell) then (n, NameKind.cell) else (n, k)).lookup x = some .cell
 | [], h => by simp at h
 | (n, k) :: r, h => by
  have ih := @lookup_relabel_cell env x he hx' r
  show List.lookup x ((if (k == NameKind.free && env.scope.kind == .function && env.kindOf n == some .cell) = true then (n, NameKind.cell) else (n, k)) :: _) = _
  cases hx : x == n with
  | true =>
   simp only [List.lookup_cons, hx] at h
   cases h
   have : x = n := beq_iff_eq.mp hx
   subst this
   simp [List.lookup_cons, he, hx']
  | false =>
   simp only [List.lookup_cons, hx] at h
   by_cases hc : (k == NameKind.free && env.scope.kind == .function && env.kindOf n == some .cell) = true
   · rw [if_pos hc]; simp only [List.lookup_cons, hx]; exact ih h
   · rw [if_neg hc]; simp only [List.lookup_cons, hx]; exact ih h
def chkC (sc : Scope) (Nn Gl : List Str) : Bool :=
 decide (sc.kind = .function) && decide Nn.Nodup && Nn.all (named sc .local) && Gl.all (named sc .globalImplicit) && sc.names.all fun x => decide (x.2 ≠ .cell) && (decide (x.2 ≠ .local) || decide (sc.names.lookup x.1 = some .local))
theorem chkC_cx {sc : Scope} {No Go : List Str} (h : chkC sc Nn Gl = true) (C₀ : Cx env No Go) (cl : List (Str × Addr)) (C : Addr) : Cx (compEnvC sc cl C env) Nn Gl := by
 simp only [chkC, Bool.and_eq_true, decide_eq_true_eq, List.all_eq_true, named, Bool.not_eq_true'] at h
 obtain ⟨⟨⟨⟨h1, h2⟩, h3⟩, h4⟩, h5⟩ := h
 exact ⟨h1, h2, fun i x hx => ⟨lookup_relabel (by decide) (h3 x (List.mem_of_getElem? hx)).1, (h3 x (List.mem_of_getElem? hx)).2⟩, fun x hx => ⟨lookup_relabel (by decide) (h4 x hx).1, (h4 x hx).2⟩, C₀.globals, C₀.builtins⟩
theorem chkC_cell {sc : Scope} (h : chkC sc Nn Gl = true) : ∀ y ∈ sc.names, y.2 ≠ .cell := by
 simp only [chkC, Bool.and_eq_true, decide_eq_true_eq, List.all_eq_true] at h
 exact fun y hy => (h.2 y hy).1
theorem chkC_kind {sc : Scope} (h : chkC sc Nn Gl = true) : sc.kind = .function := by
 simp only [chkC, Bool.and_eq_true, decide_eq_true_eq, List.all_eq_true] at h
 exact h.1.1.1.1
theorem chkC_names {sc : Scope} (h : chkC sc Nn Gl = true) : ∀ y ∈ sc.names, y.2 = .local → sc.names.lookup y.1 = some .local := by
 simp only [chkC, Bool.and_eq_true, decide_eq_true_eq, List.all_eq_true, Bool.or_eq_true] at h
 exact fun y hy e => ((h.2 y hy).2).resolve_left (fun q => q e)
def clo (cells : List (Str × Addr)) : List (Str × NameKind) → List (Str × Addr) → Option (List (Str × Addr))
 | [], acc => some acc
 | (n, k) :: r, acc => if k == .free then (match cells.lookup n with | some c => clo cells r ((n, c) :: acc) | none => none) else clo cells r acc
theorem closureFor_clo {sc : Scope} {cl : List (Str × Addr)} (h : clo env.cells sc.names [] = some cl) : closureFor sc env = pure cl := by
 have key : ∀ (names : List (Str × NameKind)) (acc cl : List (Str × Addr)), clo env.cells names acc = some cl →
  (forIn names acc fun (x : Str × NameKind) (cs : List (Str × Addr)) => if x.2 == .free then (do let c ← cellOf env x.1; pure (ForInStep.yield ((x.1, c) :: cs))) else pure (ForInStep.yield cs) : Sem (List (Str × Addr))) = pure cl := by
  intro names
  induction names with
  | nil => intro acc cl h; rw [List.forIn_nil]; exact congrArg pure (Option.some.inj h)
  | cons p r ih =>
   intro acc cl h
   obtain ⟨n, k⟩ := p
   rw [List.forIn_cons]
   unfold clo at h
   by_cases q : (k == NameKind.free) = true
   · rw [if_pos q] at h
     simp only [q, if_true]
     cases e : env.cells.lookup n with
     | none => rw [e] at h; cases h
     | some c =>
      rw [e] at h
      have : cellOf env n = pure c := by unfold cellOf; rw [e]
      rw [this]
      simp only [pure_bind]
      exact ih _ _ h
   · rw [if_neg q] at h
     simp only [q, Bool.false_eq_true, if_false, pure_bind]
     exact ih _ _ h
 unfold closureFor
 have := key sc.names [] cl h
 simpa using this
def CompAt (prog : Program) (w : World) (A : Around) (env : Env) (scope : Scope) (cl : List (Str × Addr)) (e : Expr) (use : Option (Value → Sem Unit)) (Q : Value → Shared → Prop) (it : Value) (s : Shared) : Prop :=
 wpAny (model prog w) A (newList []) (fun acc s₃ => wpAny (model prog w) A (newFunctionEnv scope env.globals cl [] env.qual none .none (some env)) (fun cenv s₄ =>
  codeAny (model prog w) A (.compStart e 0 it acc { cenv with scope := relabel scope env }) (compPost (model prog w) A no use Q acc cenv.locals) s₄) no s₃) no s
theorem evComp {elt target iter : Expr} {ifs : List Expr} {scope : Scope} {pos : Pos} {cl : List (Str × Addr)} {Q : Value → Shared → Prop} {E : Value → Shared → Prop} (Nn Gl : List Str) (hc : chkC scope Nn Gl = true) (hclo : clo env.cells scope.names [] = some cl)
 (h : wpAny (model prog w) A (eval iter env) (fun x s₁ => wpAny (model prog w) A (pyIter x) (CompAt prog w A env scope cl (.ListComp elt [⟨target, iter, ifs, 0⟩] scope pos) none Q) no s₁) no s)
 (hs : ∀ x, foldedSetIterable iter env x = pure x := by intro _; rfl) : wpAny (model prog w) A (eval (.ListComp elt [⟨target, iter, ifs, 0⟩] scope pos) env) Q E s := by
 refine wpAny_no ?_
 rw [eval_ListComp]
 exact wpAny_comprehension_free (g := ⟨target, iter, ifs, 0⟩) (gs := []) rfl hs (closureFor_clo hclo) (chkC_kind hc) (chkC_names hc) h
theorem asComp {elt target iter : Expr} {ifs : List Expr} {scope : Scope} {pos spos py : Pos} {y : Str} {cl : List (Str × Addr)} {Q : Flow → Shared → Prop} {E : Value → Shared → Prop} (Nn Gl : List Str) (hc : chkC scope Nn Gl = true) (hclo : clo env.cells scope.names [] = some cl)
 (hsw : swapsWith (.ListComp elt [⟨target, iter, ifs, 0⟩] scope pos) (some (.Name y py)) spos.line env = pure true)
 (h : wpAny (model prog w) A (eval iter env) (fun x s₁ => wpAny (model prog w) A (pyIter x) (CompAt prog w A env scope cl (.ListComp elt [⟨target, iter, ifs, 0⟩] scope pos) (some (assign (.Name y py) env)) fun _ s' => Q .next s') no s₁) no s)
 (hs : ∀ x, foldedSetIterable iter env x = pure x := by intro _; rfl) : wpAny (model prog w) A (exec (.Assign [.Name y py] (.ListComp elt [⟨target, iter, ifs, 0⟩] scope pos) spos) env) Q E s := by
 refine wpAny_no ?_
 rw [exec_Assign_Name_used _ _ _ _ hsw]
 refine wpAny_bind (wpAny_standAt (wpAny_bind ?_))
 show wpAny _ A (do let _ ← comprehension (.ListComp elt [⟨target, iter, ifs, 0⟩] scope pos) scope env _ (newList []) false (eval iter env) (some (assign (.Name y py) env))) _ _ s
 exact wpAny_bind (wpAny_mono (wpAny_comprehension_free (g := ⟨target, iter, ifs, 0⟩) (gs := []) (use := some (assign (.Name y py) env)) (Q := fun _ s' => Q .next s') rfl hs (closureFor_clo hclo) (chkC_kind hc) (chkC_names hc) h)
  (fun _ s' hq => wpAny_pure (wpAny_pure hq)) fun _ _ e => e)
theorem swaps {elt : Expr} {gens : List Comprehension} {scope : Scope} {pos py : Pos} {y : Str} {n : Nat} {i : Nat} (C : Cx env N Gl) (hy : N[i]? = some y) (hl : (py.line == pos.line && !(scope.names.any fun (n, k) => n == y && (k == .local || k == .cell))) = true) :
 swapsWith (.ListComp elt gens scope pos) (some (.Name y py)) n env = pure true := by
 unfold swapsWith
 simp only []
 rw [Bool.and_eq_true] at hl
 have h1 : (env.blockKind == ScopeKind.function) = true := by
  have := C.kind
  simp [Env.blockKind, this, ScopeKind.isAnnotationScope]
 have h2 : (env.kindOf y == some NameKind.local) = true := by rw [(C.loc i y hy).1]; rfl
 have h3 : (py.line == (Expr.ListComp elt gens scope pos).pos.line) = true := hl.1
 rw [h1, h2, h3]
 simp only [Bool.true_and]
 rw [hl.2]
end
section
variable {prog : Program} {w : World} {A : Around} {s : Shared} {env : Env}
variable {h₀ g₀ g : Heap} {xt : List Addr} {L : Addr} {N Nn Gl No Go : List Str} {vs : List (Option Value)} {mu : List (Addr × Obj)}
def CTurn (prog : Program) (w : World) (A : Around) (env : Env) (scope : Scope) (cl : List (Str × Addr)) (elt target : Expr) (ifs : List Expr) (Nn Gl : List Str) (g : Heap) (P : Nat → Value → Prop) (J : Nat → Heap → List Value → Prop) : Prop :=
 ∀ i v (s : Shared) g' us ys I oI C D h tk, P i v → Le g g' → J i g' ys → us.length = Nn.length → Cx (compEnvC scope cl C env) Nn Gl → St s.heap [I] g g' C Nn us [(I, oI), (D, lst ys)] h →
  wpAny (model prog w) A (assign target (compEnvC scope cl C env) v) (fun _ s₁ => wpAny (model prog w) A (tests ifs (compEnvC scope cl C env)) (fun ok s₃ =>
   if ok = true then wpAny (model prog w) A (eval elt (compEnvC scope cl C env)) (fun y => CEnd s g I C D oI Nn ys g' fun g'' => J (i + 1) g'' (ys ++ [y])) no s₃
   else CEnd s g I C D oI Nn ys g' (fun g'' => J (i + 1) g'' ys) s₃) no s₁) no { s with heap := h, toks := tk }
theorem cmpE {elt target iter : Expr} {ifs : List Expr} {scope : Scope} {pos : Pos} {cl : List (Str × Addr)} {I : Addr} {oI : Obj} {n : Nat} {P : Nat → Value → Prop} {Wst : Nat → Heap → Prop} {Q : Value → Shared → Prop}
 (J : Nat → Heap → List Value → Prop) (hc : chkC scope Nn Gl = true) (C₀ : Cx env No Go) (F : St h₀ xt g₀ g L N vs ((I, oI) :: mu) s.heap) (hI : It prog w A target I n P g Wst) (h0 : Wst 0 s.heap) (hj : J 0 g []) (hn : n ≤ sizeLine)
 (turn : CTurn prog w A env scope cl elt target ifs Nn Gl g P J)
 (done : ∀ g₁ g' D h' tk ys, Le g g' → Le g₁ g' → J n g₁ ys → g'.get? D = some (lst ys) → St h₀ xt g₀ g' L N vs mu h' → Q (.ref D) { s with heap := h', toks := tk }) :
 CompAt prog w A env scope cl (.ListComp elt [⟨target, iter, ifs, 0⟩] scope pos) none Q (.ref I) s :=
 comp_block J (chkC_cell hc) (chkC_kind hc) F hI h0 hj hn (fun i v g' us ys oI C D h tk _ hP hg hJ hl F' => turn i v s g' us ys _ oI C D h tk hP hg hJ hl (chkC_cx hc C₀ cl C) F')
  fun g₁ g' D C m h' tk ys k k1 hJ eD hm O F' => ⟨m, hm, fun h'' hs => done g₁ g' D h'' tk ys k k1 hJ eD (F'.off O hs)⟩
theorem cmpS {elt target iter : Expr} {ifs : List Expr} {scope : Scope} {pos py : Pos} {y : Str} {cl : List (Str × Addr)} {I : Addr} {oI : Obj} {n j : Nat} {P : Nat → Value → Prop} {Wst : Nat → Heap → Prop} {Q : Flow → Shared → Prop}
 (J : Nat → Heap → List Value → Prop) (hc : chkC scope Nn Gl = true) (C₀ : Cx env N Go) (F : St h₀ xt g₀ g env.locals N vs ((I, oI) :: mu) s.heap) (hI : It prog w A target I n P g Wst) (h0 : Wst 0 s.heap) (hj : J 0 g []) (hn : n ≤ sizeLine)
 (turn : CTurn prog w A env scope cl elt target ifs Nn Gl g P J) (hy : N[j]? = some y)
 (done : ∀ g₁ g' D h' tk ys, Le g g' → Le g₁ g' → J n g₁ ys → g'.get? D = some (lst ys) → St h₀ xt g₀ g' env.locals N (vs.set j (some (.ref D))) mu h' → Q .next { s with heap := h', toks := tk }) :
 CompAt prog w A env scope cl (.ListComp elt [⟨target, iter, ifs, 0⟩] scope pos) (some (assign (.Name y py) env)) (fun _ s' => Q .next s') (.ref I) s :=
 comp_block J (chkC_cell hc) (chkC_kind hc) F hI h0 hj hn (fun i v g' us ys oI C D h tk _ hP hg hJ hl F' => turn i v s g' us ys _ oI C D h tk hP hg hJ hl (chkC_cx hc C₀ cl C) F')
  fun g₁ g' D C m h' tk ys k k1 hJ eD hm O F' => by
   obtain ⟨m₀, hm₀, hl⟩ := F'.ns
   refine wpAny_assign_Name (wpAny_storeName_local (C₀.loc j y hy).1 hm₀ (fun h₂ hn hs => ?_) (by rw [C₀.kind]; rfl))
   have F₂ := F'.set hy C₀.nodup hm₀ hn hs rfl
   refine ⟨m, hm.sameBut hs O.L, fun h'' hs' => done g₁ g' D h'' _ ys k k1 hJ eD (F₂.off O hs')⟩
theorem cmpE_list {elt iter : Expr} {x : Str} {p : Pos} {ifs : List Expr} {scope : Scope} {pos : Pos} {cl : List (Str × Addr)} {l : Addr} {items : List Value} {k : Nat} {Q : Value → Shared → Prop}
 (J : Nat → Heap → List Value → Prop) (hh : A.handled = none) (hc : chkC scope Nn Gl = true) (C₀ : Cx env No Go) (F : St h₀ xt g₀ g L N vs mu s.heap) (hl : g.get? l = some (lstObj items k)) (hj : J 0 g []) (hn : items.length ≤ sizeLine)
 (turn : CTurn prog w A env scope cl elt (.Name x p) ifs Nn Gl g (fun i v => items[i]? = some v) J)
 (done : ∀ g₁ g' D h' tk ys, Le g g' → Le g₁ g' → J items.length g₁ ys → g'.get? D = some (lst ys) → St h₀ xt g₀ g' L N vs mu h' → Q (.ref D) { s with heap := h', toks := tk }) :
 wpAny (model prog w) A (pyIter (.ref l)) (CompAt prog w A env scope cl (.ListComp elt [⟨.Name x p, iter, ifs, 0⟩] scope pos) none Q) no s := by
 refine wpAny_pyIter_list ⟨_, F.keep _ _ hl, rfl, _, rfl⟩ ?_
 have F₁ := F.own (litObj l)
 obtain ⟨hI, h0⟩ := It.list (prog := prog) (w := w) (A := A) (target := .Name x p) hh hl (F₁.mt _ (.head _)).2.2.1 F₁.keep (F₁.mt _ (.head _)).1 fun i v s Q _ h => go_name h
 exact cmpE J hc C₀ F₁ hI h0 hj hn turn done
theorem cmpS_list {elt iter : Expr} {x : Str} {p : Pos} {ifs : List Expr} {scope : Scope} {pos py : Pos} {y : Str} {cl : List (Str × Addr)} {l : Addr} {items : List Value} {k j : Nat} {Q : Flow → Shared → Prop}
 (J : Nat → Heap → List Value → Prop) (hh : A.handled = none) (hc : chkC scope Nn Gl = true) (C₀ : Cx env N Go) (F : St h₀ xt g₀ g env.locals N vs mu s.heap) (hl : g.get? l = some (lstObj items k)) (hj : J 0 g []) (hn : items.length ≤ sizeLine)
 (turn : CTurn prog w A env scope cl elt (.Name x p) ifs Nn Gl g (fun i v => items[i]? = some v) J) (hy : N[j]? = some y)
 (done : ∀ g₁ g' D h' tk ys, Le g g' → Le g₁ g' → J items.length g₁ ys → g'.get? D = some (lst ys) → St h₀ xt g₀ g' env.locals N (vs.set j (some (.ref D))) mu h' → Q .next { s with heap := h', toks := tk }) :
 wpAny (model prog w) A (pyIter (.ref l)) (CompAt prog w A env scope cl (.ListComp elt [⟨.Name x p, iter, ifs, 0⟩] scope pos) (some (assign (.Name y py) env)) fun _ s' => Q .next s') no s := by
 refine wpAny_pyIter_list ⟨_, F.keep _ _ hl, rfl, _, rfl⟩ ?_
 have F₁ := F.own (litObj l)
 obtain ⟨hI, h0⟩ := It.list (prog := prog) (w := w) (A := A) (target := .Name x p) hh hl (F₁.mt _ (.head _)).2.2.1 F₁.keep (F₁.mt _ (.head _)).1 fun i v s Q _ h => go_name h
 exact cmpS J hc C₀ F₁ hI h0 hj hn turn hy done
theorem cturn {elt : Expr} {x : Str} {p : Pos} {ifs : List Expr} {scope : Scope} {cl : List (Str × Addr)} {P : Nat → Value → Prop} {J : Nat → Heap → List Value → Prop}
 (h : ∀ i v (s : Shared) g' us ys I oI C D h tk, P i v → Le g g' → J i g' ys → us.length = Nn.length → Cx (compEnvC scope cl C env) Nn Gl → St s.heap [I] g g' C Nn us [(I, oI), (D, lst ys)] h →
  wpAny (model prog w) A (storeName (compEnvC scope cl C env) x v) (fun _ s₁ => wpAny (model prog w) A (tests ifs (compEnvC scope cl C env)) (fun ok s₃ =>
   if ok = true then wpAny (model prog w) A (eval elt (compEnvC scope cl C env)) (fun y => CEnd s g I C D oI Nn ys g' fun g'' => J (i + 1) g'' (ys ++ [y])) no s₃
   else CEnd s g I C D oI Nn ys g' (fun g'' => J (i + 1) g'' ys) s₃) no s₁) no { s with heap := h, toks := tk }) : CTurn prog w A env scope cl elt (.Name x p) ifs Nn Gl g P J :=
 fun i v s g' us ys I oI C D h' tk hP hg hJ hl C₁ F => wpAny_assign_Name (h i v s g' us ys I oI C D h' tk hP hg hJ hl C₁ F)
end
section
variable {prog : Program} {w : World} {A : Around} {s : Shared} {env : Env} {E : Value → Shared → Prop}
theorem Gives.enterV {g : Heap} {P : Heap → Heap → Value → Prop} {fa : Addr} {fd : FuncData} {body : List Stmt} {args : Args} {n : Nat}
 (as : List Value) (star : Str) (xs : List Value) (ps rest Gl : List Str) {o : Obj}
 (ho : s.heap.get? fa = some o) (hdata : o.data = .func fd) (hlim : s.heap.NoLimit) (hcd : s.heap.CodeRec fd.code fd.qualname) (hA : Ok A (n + 1))
 (hbody : fd.body = .stmts body) (hbind : bindArgs fd args = (newTuple xs >>= fun t => pure (ps.zip as ++ [(star, t)]))) (hl : ps.length = as.length) (hc : chk fd (ps ++ [star]) rest Gl = true) (hxs : xs.length ≤ sizeLine)
 (kg : Le g s.heap)
 (h : ∀ h₁ env A' t' T g₁, Ok A' n → Cx env (ps ++ [star] ++ rest) Gl → Le g g₁ → g₁.get? T = some (tupObj xs) → St s.heap [] g g₁ env.locals (ps ++ [star] ++ rest) ((as ++ [Value.ref T]).map some ++ rest.map fun _ => (none : Option Value)) [] h₁ →
  wpAny (model prog w) A' (execs body env) (Ends s [] g P) (fun _ _ => False) { s with heap := h₁, toks := t' }) :
 Gives prog w A (.call (.ref fa) args) s [] g P := by
 have hc' := hc
 simp only [chk, Bool.and_eq_true, decide_eq_true_eq, List.all_eq_true, named, Bool.not_eq_true'] at hc
 obtain ⟨⟨⟨⟨⟨⟨⟨⟨c1, c2⟩, c3⟩, c4⟩, c5⟩, c6⟩, c7⟩, c8⟩, c9⟩ := hc
 intro R hR
 have ez : ps.zip as ++ [(star, Value.ref s.heap.objs.size)] = (ps ++ [star]).zip (as ++ [Value.ref s.heap.objs.size]) := by
  rw [List.zip_append hl]; rfl
 refine codeAny_call_function hA.room ho hdata c2 c3 hbody hcd ?_
 rw [hbind]
 refine wpAny_bind (wpAny_newTuple (wpAny_pure ?_) hxs)
 rw [ez]
 refine wpAny_newFunctionEnv c7 (fun x hx => (c5 _ (List.mem_append_left _ (List.of_mem_zip hx).1)).1) (fun h₁ hns hsb => ?_) c1
 have k0 : Le s.heap (s.heap.push (tupObj xs)) := fun b o e => Heap.get?_push_of_some _ e
 have k1 : Le (s.heap.push (tupObj xs)) h₁ := fun b o e => hsb.extBut b o (Nat.ne_of_lt (Heap.lt_size e)) (Heap.get?_push_of_some _ e)
 have hsz : (s.heap.push (tupObj xs)).objs.size = s.heap.objs.size + 1 := Heap.size_push ..
 have gn : ∀ b, s.heap.objs.size ≤ b → g.get? b = none := fun b hb => by
  cases q : g.get? b with
  | none => rfl
  | some o => exact absurd (Heap.lt_size (kg _ _ q)) (Nat.not_lt.mpr hb)
 have F : St s.heap [] g g (s.heap.push (tupObj xs)).objs.size (ps ++ [star] ++ rest) ((as ++ [Value.ref s.heap.objs.size]).map some ++ rest.map fun _ => (none : Option Value)) [(s.heap.objs.size, tupObj xs)] h₁ := by
  refine ⟨by simp [hl], ⟨_, hns, lookup_binds rest c4 (by simp [hl])⟩, fun b o _ e => k1 b o (k0 b o e), (kg.tr k0).tr k1, by rw [hsz]; exact Nat.le_succ _, gn _ (by rw [hsz]; exact Nat.le_succ _), ?_, List.nodup_cons.mpr ⟨List.not_mem_nil, .nil⟩, Le.rfl', ?_⟩
  · intro p hp
    rw [List.mem_singleton.mp hp]
    exact ⟨k1 _ _ (Heap.get?_push_size _ rfl), by show s.heap.objs.size ≠ _; rw [hsz]; exact Nat.ne_of_lt (Nat.lt_succ_self _), gn _ (Nat.le_refl _), .inr (Nat.le_refl _)⟩
  · intro b o e e0; rw [e] at e0; cases e0
 obtain ⟨g₁, kk, eT, F₁⟩ := F.freeze (pre := []) (post := []) rfl (Nat.le_refl _)
 refine ⟨(hlim.keeps k0).fresh _ hsb, codeAny_func (wpAny_mono (h h₁ (callEnv fd (s.heap.push (tupObj xs)).objs.size fa) _ _ _ g₁ hA.deeper (chk_cx hc' _ _) kk eT F₁) (fun fl s' e => ?_) fun _ _ e => e.elim)⟩
 obtain ⟨g', h', t', rfl, o, p⟩ := e
 exact hR g' h' t' _ o p
theorem Try_ {body : List Stmt} {h₀ : ExceptHandler} {hs : List ExceptHandler} {pos : Pos} {Q : Flow → Shared → Prop}
 (h : wpAny (model prog w) A (execs body env) Q no s) : wpAny (model prog w) A (exec (.Try body (h₀ :: hs) [] [] pos) env) Q E s :=
 wpAny_Try_except (wpAny_mono h (fun f s₁ h₁ => match f with
  | .next => wpAny_execs_nil h₁
  | .brk => h₁
  | .cont => h₁
  | .ret _ => h₁) fun _ _ e => e.elim)
theorem Cx.inter {N Gl : List Str} (C : Cx env N Gl) : interactive env = false := by unfold interactive; rw [C.kind]; rfl
theorem doc_ {N Gl : List Str} {x : Str} {k : Nat} {p pos : Pos} {rest : List Stmt} {Q : Flow → Shared → Prop} (C : Cx env N Gl) (h : ∀ t, wpAny (model prog w) A (execs rest env) Q E { s with toks := t }) :
 wpAny (model prog w) A (execs (.Expr (.Constant (.str x) k p) pos :: rest) env) Q E s :=
 wpAny_execs_cons (wpAny_Expr (Constant_str (h _)) C.inter rfl)
theorem Mstr {o e : Expr} {name : Str} {apos pos : Pos} {Q : Value → Shared → Prop} {x : Str} {t : Tok}
 (h : wpAny (model prog w) A (eval o env) (fun ov s₁ => ov = .str x t ∧ MethodOnS prog w A E name (.str x t) pos [(false, eval e env)] Q s₁) E s)
 (hbase : attributeBase o name env (eval o env) = eval o env := by rfl) (hs : starEach [e] env = [(false, eval e env)] := by rfl) (hline : (apos.endLine == pos.line) = true := by rfl) :
 wpAny (model prog w) A (eval (.Call (.Attribute o name apos) [e] [] pos) env) Q E s :=
 Call_method1 hbase hs hline (wpAny_mono h (fun _ _ h => h.1 ▸ h.2) fun _ _ e => e)
end
end Mine
namespace Mine
open PySem PySem.W PyProof.Rows PySem.Calls PySem.Spec
def joinS (a b : Str) : Str := if Txt.startswith b "/" || a.length == 0 then b else if Txt.endswith a "/" then a ++ b else a ++ (("/" : Str) ++ b)
set_option maxHeartbeats 1000000
theorem slash_len : ("/" : Str).length = 1 := by decide +kernel
section
variable {w : World} {A : Around} {s : Shared} {g : Heap} {n : Nat}
theorem join_gives (X : Stat g) (kg : Le g s.heap) (hA : Ok A (n + 3)) (a b : Str) (t u : Tok) (ha : a.length ≤ 1000) (hb : b.length ≤ 1000) :
 Gives pw w A (.call (.ref 363) ⟨[.str a t, .str b u], []⟩) s [] g (fun _ _ v => ∃ t', v = .str (joinS a b) t') := by
 refine Gives.enterV [.str a t] "p" [.str b u] ["a"] ["sep", "path", "b"] ["fspath", "_get_sep", "TypeError", "AttributeError", "BytesWarning"] (kg _ _ (X.fnAt 14 rfl)) rfl (X.lim.keeps kg) ((X.cdAt 14 rfl).keeps kg) hA rfl rfl rfl (by decide +kernel) (by show 1 ≤ sizeLine; decide) kg fun h₁ env A' t' T g₁ hA' C k1 eT F => ?_
 have X₁ := X.up k1
 refine doc_ C fun t' => ?_
 refine wpAny_execs_cons (wpAny_Assign_Name ?_)
 refine C1 (N_fspath C X₁ F.keep (.head _) (ld0 C F ⟨⟨_, F.keep _ _ (X₁.fnAt 12 rfl)⟩, ?_⟩))
 refine call_c F (fspath_gives X₁ F.keep hA' a t) fun g₂ h' t' v k2 F e => ?_
 subst e
 refine st0 C F fun h' F => ?_
 have X₂ := X₁.up k2
 refine wpAny_execs_cons (wpAny_Assign_Name ?_)
 refine C1 (N_get_sep C X₂ F.keep (.tail _ (.head _)) (ld0 C F ⟨⟨_, F.keep _ _ (X₂.fnAt 13 rfl)⟩, ?_⟩))
 refine call_c F (getSep_gives X₂ F.keep hA' a t) fun g₃ h' t' v k3 F e => ?_
 obtain ⟨ts, rfl⟩ := e
 refine st2 C F fun h' F => ?_
 refine wpAny_execs_cons (wpAny_Assign_Name (ld0 C F (st3 C F fun h' F => ?_)))
 refine wpAny_execs_cons (Try_ (wpAny_execs_cons (For_ (ld1 C F ?_))))
 have X₃ := X₂.up k3
 refine each_tuple (items := [.str b u]) (fun i g' vs' mu' => mu' = [] ∧ Stat g' ∧ if i = 0 then vs' = [some (.str a t), some (.ref T), some (.str "/" ts), some (.str a t), none] else ∃ t', vs' = [some (.str a t), some (.ref T), some (.str "/" ts), some (.str (joinS a b) t'), some (.str b u)]) hA'.handled F (k3 _ _ (k2 _ _ eT)) ⟨rfl, X₃, rfl⟩ ?_ ?_
 · rintro i v g' vs' mu' I oI h tk hi kg' ⟨rfl, X', hv⟩ F
   cases i with
   | succ j => simp at hi
   | zero =>
    simp only [List.getElem?_cons_zero, Option.some.injEq] at hi
    subst hi
    simp only [if_true] at hv
    subst hv
    refine st4 C F fun h' F => ?_
    refine wpAny_execs_cons (wpAny_Assign_Name ?_)
    refine C1 (N_fspath C X' F.keep (.head _) (ld4 C F ⟨⟨_, F.keep _ _ (X'.fnAt 12 rfl)⟩, ?_⟩))
    refine call_c F (fspath_gives X' F.keep hA' b u) fun g₄ h' t' v k4 F e => ?_
    subst e
    refine st4 C F fun h' F => ?_
    have X₄ := X'.up k4
    dsimp only
    refine wpAny_execs_cons (wpAny_If (isTrue_or (isTrue_plain ?_)))
    refine Mstr (ld4 C F ⟨rfl, SB.startswith (ld2 C F ⟨_, _, rfl, wpAny_truthy_bool ?_⟩)⟩)
    cases e1 : Txt.startswith b "/" with
    | true =>
     refine wpAny_execs_cons (wpAny_Assign_Name (ld4 C F (st3 C F fun h' F => ?_)))
     refine wpAny_execs_nil (wpAny_execs_nil (turn_next k4 F ⟨rfl, X₄, u, ?_⟩))
     simp [joinS, e1]
    | false =>
     refine isTrue_or (isTrue_not (isTrue_plain (ld3 C F (P.truthy_str (by omega) ?_))))
     cases e2 : a.length == 0 with
     | true =>
      have e3 : ((a.length : Int) != 0) = false := by simp at e2; simp [e2]
      rw [e3]
      refine wpAny_execs_cons (wpAny_Assign_Name (ld4 C F (st3 C F fun h' F => ?_)))
      refine wpAny_execs_nil (wpAny_execs_nil (turn_next k4 F ⟨rfl, X₄, u, ?_⟩))
      simp [joinS, e1, e2]
     | false =>
      have e3 : ((a.length : Int) != 0) = true := by simp at e2; simpa using e2
      rw [e3]
      refine isTrue_or_nil ?_
      refine wpAny_execs_cons (wpAny_If (isTrue_plain ?_))
      refine Mstr (ld3 C F ⟨rfl, SB.endswith (ld2 C F ⟨_, _, rfl, wpAny_truthy_bool ?_⟩)⟩)
      cases e4 : Txt.endswith a "/" with
      | true =>
       refine wpAny_execs_cons (wpAny_AugAssign_Name (ldn3 C F (ld4 C F (SB.iadd (fun t'' k => ?_) (by show _ ≤ 16777216; omega)))))
       refine st3 C F fun h' F => ?_
       refine wpAny_execs_nil (wpAny_execs_nil (wpAny_execs_nil (turn_next k4 F ⟨rfl, X₄, t'', ?_⟩)))
       simp [joinS, e1, e2, e4]
      | false =>
       refine wpAny_execs_cons (wpAny_AugAssign_Name (ldn3 C F (wpAny_BinOp (ld2 C F (ld4 C F (SB.add (fun t'' k => ?_) (by show _ ≤ 16777216; rw [slash_len]; omega)))))))
       refine SB.iadd (fun t'' k => ?_) (by show _ ≤ 16777216; rw [Str.length_append, slash_len]; omega)
       refine st3 C F fun h' F => ?_
       refine wpAny_execs_nil (wpAny_execs_nil (wpAny_execs_nil (turn_next k4 F ⟨rfl, X₄, t'', ?_⟩)))
       simp [joinS, e1, e2, e4]
 · rintro g' vs' mu' h tk kg' ⟨rfl, X', t', rfl⟩ F
   refine wpAny_execs_nil ?_
   refine wpAny_execs_cons (wpAny_Return_some (ld3 C F ?_))
   exact ends F ⟨_, rfl⟩
end
end Mine
namespace Mine
open PySem PySem.W PyProof.Rows PySem.Calls PySem.Spec
theorem le_ext {h h' : Heap} (x : Heap.ExtBut h.objs.size h h') : Le h h' := fun b o e => x b o (Nat.ne_of_lt (Heap.lt_size e)) e
theorem le_push (h : Heap) (o : Obj) : Le h (h.push o) := fun b x e => Heap.get?_push_of_some _ e
section
variable {prog : Program} {w : World} {A : Around} {s : Shared} {env : Env} {E : Value → Shared → Prop}
variable {h₀ g₀ g : Heap} {xt : List Addr} {L : Addr} {N Gl : List Str} {vs : List (Option Value)} {mu : List (Addr × Obj)}
theorem asT {elts : List Expr} {k : Nat} {tp : Pos} {T : Addr} {items : List Value} {Q : Unit → Shared → Prop} (hh : A.handled = none) (F : St h₀ xt g₀ g L N vs mu s.heap) (ht : g.get? T = some (tupObj items))
 (h : ∀ h', St h₀ xt g₀ g L N vs mu h' → wpAny (model prog w) A (assignInOrder ((assignEach elts env).map (·.2)) items) Q E { s with heap := h' })
 (hn : (assignEach elts env).length = items.length := by rfl) (hs : (assignEach elts env).findIdx? (·.1) = none := by rfl) : wpAny (model prog w) A (assign (.Tuple elts k tp) env (.ref T)) Q E s :=
 wpAny_assign_Tuple hh ⟨_, F.keep _ _ ht, rfl, _, rfl⟩ (by simpa using hn) hs fun h' he => h h' (F.more (le_ext he))
theorem unp {T : Addr} {items : List Value} {n : Nat} {Q : List Value → Shared → Prop} (hh : A.handled = none) (F : St h₀ xt g₀ g L N vs mu s.heap) (ht : g.get? T = some (tupObj items)) (hn : n = items.length)
 (h : ∀ h', St h₀ xt g₀ g L N vs mu h' → Q items { s with heap := h' }) : wpAny (model prog w) A (unpackItems (.ref T) n none) Q E s := by
 have e : n = items.toArray.size := by simpa using hn
 subst e
 exact unpackItems_tuple hh ⟨_, F.keep _ _ ht, rfl, _, rfl⟩ fun h' he => h h' (F.more (le_ext he))
theorem swp2 {a b : Str} {pa pb tp p2 : Pos} {k k2 : Nat} {e1 e2 : Expr} (C : Cx env N Gl) (i j : Nat) (hi : N[i]? = some a) (hj : N[j]? = some b) (hab : i ≠ j) (l1 : (pb.line == pa.line) = true := by rfl)
 (n1 : (match e1 with | .Starred _ _ => true | _ => false) = false := by rfl) (n2 : (match e2 with | .Starred _ _ => true | _ => false) = false := by rfl) (h2 : [e1, e2].all (foldedForSure 8) = false := by rfl) (h3 : [e1, e2].all (constantsAlone 8) = false := by rfl) :
 swappedStores [.Tuple [.Name a pa, .Name b pb] k tp] (.Tuple [e1, e2] k2 p2) env = pure (some [a, b]) := by
 have hk : (env.blockKind != ScopeKind.function) = false := by have := C.kind; simp [Env.blockKind, this, ScopeKind.isAnnotationScope]
 have ka := (C.loc i a hi).1
 have kb := (C.loc j b hj).1
 have ne : a ≠ b := fun q => by
  subst q
  obtain ⟨li, ei⟩ := List.getElem?_eq_some_iff.mp hi
  obtain ⟨lj, ej⟩ := List.getElem?_eq_some_iff.mp hj
  exact hab ((List.getElem_inj C.nodup).mp (ei.trans ej.symm))
 unfold swappedStores
 simp only [List.length_cons, List.length_nil, hk, List.any_cons, List.any_nil, n1, n2, h2, h3, List.head?_cons, Option.map_some, Option.getD_some, Expr.pos, List.filterMap_cons, List.filterMap_nil, ka, kb, l1, beq_self_eq_true, Bool.and_self, if_true, Nat.reduceAdd, Bool.or_false, Bool.not_true, Bool.false_or, bne_self_eq_false, Bool.or_self, Bool.false_eq_true, if_false]
 simp [List.eraseDups_cons, ne, Ne.symm ne]
 rintro (h | h)
 · exact absurd (n1.symm.trans h) (by decide)
 · exact absurd (n2.symm.trans h) (by decide)
theorem sl_ns {o e : Expr} {p pos : Pos} {Q : Value → Shared → Prop} (h : wpAny (model prog w) A (eval o env) (fun ov s₁ => wpAny (model prog w) A (eval e env) (fun ev s₂ => ∃ x t j u, ov = .str x t ∧ ev = .int j u ∧ x.length ≤ 16777216 ∧
 ∀ h' t' k, Le s₂.heap h' → Q (.str (Txt.slice x none (some j)) t') { s₂ with heap := h', toks := k }) E s₁) E s) (ht : ∀ o' r, letTemporaryGo o o' r = pure () := by intro _ _; rfl) :
 wpAny (model prog w) A (eval (.Subscript o (.Slice none (some e) none p) pos) env) Q E s := by
 refine Subscript_Slice (wpAny_mono h (fun ov s₁ h₁ => wpAny_Slice ?_) fun _ _ e => e) ht
 rw [evalPart_none, evalPart_some]
 refine wpAny_pure (wpAny_mono h₁ (fun ev s₂ h₂ => wpAny_pure ?_) fun _ _ e => e)
 obtain ⟨x, t, j, u, rfl, rfl, hsz, hq⟩ := h₂
 exact SBH.sliceItem_ns (P := Le s₂.heap) (fun h ob k => k.tr (le_push h ob)) Le.rfl' (fun h' t' k kk => hq h' t' k kk) hsz
theorem sl_sn {o e : Expr} {p pos : Pos} {Q : Value → Shared → Prop} (h : wpAny (model prog w) A (eval o env) (fun ov s₁ => wpAny (model prog w) A (eval e env) (fun ev s₂ => ∃ x t j u, ov = .str x t ∧ ev = .int j u ∧ x.length ≤ 16777216 ∧
 ∀ h' t' k, Le s₂.heap h' → Q (.str (Txt.slice x (some j) none) t') { s₂ with heap := h', toks := k }) E s₁) E s) (ht : ∀ o' r, letTemporaryGo o o' r = pure () := by intro _ _; rfl) :
 wpAny (model prog w) A (eval (.Subscript o (.Slice (some e) none none p) pos) env) Q E s := by
 refine Subscript_Slice (wpAny_mono h (fun ov s₁ h₁ => wpAny_Slice ?_) fun _ _ e => e) ht
 rw [evalPart_none, evalPart_some]
 refine wpAny_mono h₁ (fun ev s₂ h₂ => wpAny_pure (wpAny_pure ?_)) fun _ _ e => e
 obtain ⟨x, t, j, u, rfl, rfl, hsz, hq⟩ := h₂
 exact SBH.sliceItem_sn (P := Le s₂.heap) (fun h ob k => k.tr (le_push h ob)) Le.rfl' (fun h' t' k kk => hq h' t' k kk) hsz
end
end Mine
namespace Mine
open PySem PySem.W PyProof.Rows PySem.Calls PySem.Spec
def headS (p : Str) : Str := Txt.slice p none (some (Txt.rfind p "/" + 1))
def tailS (p : Str) : Str := Txt.slice p (some (Txt.rfind p "/" + 1)) none
def splitS (p : Str) : Str := if (headS p).length == 0 || (headS p).cps.toList == (Txt.mul "/" (headS p).length).cps.toList then headS p else Txt.rstripChars (headS p) "/"
theorem headS_le (p : Str) : (headS p).length ≤ p.length := Txt.slice_le _ _ _
theorem mulOk_slash {n : Nat} (h : n ≤ 1000) : MulOk "/" (n : Int) := by
 refine ⟨?_, fun h1 _ => ?_, fun h1 _ => ?_⟩
 · simp; omega
 · rw [slash_len]
   intro h2
   have : (2 ^ 63 - 1 : Int) / (n : Int) ≥ 1 := by
    apply Int.le_ediv_of_mul_le (by omega)
    omega
   omega
 · rw [slash_len]
   have h3 : (n : Int).toNat = n := Int.toNat_natCast n
   rw [h3]
   show decide (1 * n > 16777216) = false
   simp; omega
set_option maxHeartbeats 1000000
section
variable {w : World} {A : Around} {s : Shared} {g : Heap} {n : Nat}
theorem split_gives (X : Stat g) (kg : Le g s.heap) (hA : Ok A (n + 3)) (p : Str) (t : Tok) (hp : p.length ≤ 1000) :
 Gives pw w A (.call (.ref 370) ⟨[.str p t], []⟩) s [] g (fun g' _ v => ∃ T t1 t2, v = .ref T ∧ g'.get? T = some (tupObj [.str (splitS p) t1, .str (tailS p) t2])) := by
 refine Gives.go 15 [.str p t] ["p"] ["sep", "i", "head", "tail"] ["fspath", "_get_sep", "len"] rfl X kg hA rfl (BindsTo.of_eq rfl) rfl (by decide +kernel) fun h₁ env A' t' hA' C F => ?_
 refine doc_ C fun t' => ?_
 refine wpAny_execs_cons (wpAny_Assign_Name ?_)
 refine C1 (N_fspath C X F.keep (.head _) (ld0 C F ⟨⟨_, F.keep _ _ (X.fnAt 12 rfl)⟩, ?_⟩))
 refine call_c F (fspath_gives X F.keep hA' p t) fun g₂ h' t' v k2 F e => ?_
 subst e
 refine st0 C F fun h' F => ?_
 have X₂ := X.up k2
 refine wpAny_execs_cons (wpAny_Assign_Name ?_)
 refine C1 (N_get_sep C X₂ F.keep (.tail _ (.head _)) (ld0 C F ⟨⟨_, F.keep _ _ (X₂.fnAt 13 rfl)⟩, ?_⟩))
 refine call_c F (getSep_gives X₂ F.keep hA' p t) fun g₃ h' t' v k3 F e => ?_
 obtain ⟨ts, rfl⟩ := e
 refine st1 C F fun h' F => ?_
 have X₃ := X₂.up k3
 dsimp only
 refine wpAny_execs_cons (wpAny_Assign_Name (wpAny_BinOp ?_))
 refine Mstr (ld0 C F ⟨rfl, SB.rfind (ld1 C F ⟨_, _, rfl, wpAny_Constant_int ?_⟩)⟩)
 refine wpAny_add_int ?_
 refine st2 C F fun h' F => ?_
 dsimp only
 refine wpAny_execs_cons (Assign_Tuple_swapped (names := ["head", "tail"]) ?_ rfl (swp2 C 3 4 rfl rfl (by decide)))
 refine tupE (sp1 (sl_ns (ld0 C F (ld2 C F ⟨_, _, _, _, rfl, rfl, by omega, fun h' t1 k kk => ?_⟩))))
 refine sp1 (sl_sn (ld0 C (F.more kk) (ld2 C (F.more kk) ⟨_, _, _, _, rfl, rfl, by omega, fun h' t2 k kk' => sp0 ?_⟩)))
 replace F := (F.more kk).more kk'
 dsimp only at F ⊢
 refine newTup F fun T0 g₄ h' kk4 eT F => ?_
 refine unp hA'.handled F eT rfl fun h' F => ?_
 dsimp only
 refine assignInOrder_cons (bindName_ (st4 C F fun h' F => ?_))
 refine assignInOrder_cons (bindName_ (st3 C F fun h' F => assignInOrder_nil ?_))
 have hl := headS_le p
 replace F : St s.heap [] g g₄ env.locals ["p", "sep", "i", "head", "tail"] [some (.str p t), some (.str "/" ts), some (.int (Txt.rfind p "/" + 1) _), some (.str (headS p) t1), some (.str (tailS p) t2)] [] h' := F
 dsimp only
 refine wpAny_execs_cons (wpAny_If ?_)
 refine isTrue_and (isTrue_plain (ld3 C F (P.truthy_str (by show ¬ ((headS p).length : Int) ≥ _; omega) ?_)))
 cases e1 : (headS p).length == 0 with
 | true =>
  have e3 : (((headS p).length : Int) != 0) = false := by simp at e1; simp [e1]
  rw [e3]
  refine wpAny_execs_nil (wpAny_execs_cons (wpAny_Return_some ?_))
  refine tupE (sp1 (ld3 C F (sp1 (ld4 C F (sp0 ?_)))))
  refine newTup F fun T g₄ h' k4 eT F => ?_
  exact ends F ⟨T, t1, t2, rfl, by rw [eT]; simp [splitS, e1]⟩
 | false =>
  have e3 : (((headS p).length : Int) != 0) = true := by simp at e1; simpa using e1
  rw [e3]
  refine isTrue_and (wpAny_isTrue_Compare1 (ld3 C F (wpAny_BinOp (ld1 C F ?_))))
  refine C1 (N_len C X₃ (kk4.tr F.keep) (.tail _ (.tail _ (.head _))) (ld3 C F ⟨trivial, P.len_str (by omega) ?_⟩))
  refine SB.mul (mulOk_slash (by omega)) fun t3 k => ?_
  refine P.ne_str (wpAny_truthy_bool ?_)
  cases e2 : (headS p).cps.toList == (Txt.mul "/" (headS p).length).cps.toList with
  | true =>
   have e4 : ((headS p).cps.toList != (Txt.mul "/" (headS p).length).cps.toList) = false := by rw [bne, e2]; rfl
   rw [e4]
   refine wpAny_execs_nil (wpAny_execs_cons (wpAny_Return_some ?_))
   refine tupE (sp1 (ld3 C F (sp1 (ld4 C F (sp0 ?_)))))
   refine newTup F fun T g₄ h' k4 eT F => ?_
   exact ends F ⟨T, t1, t2, rfl, by rw [eT]; simp [splitS, e1, e2]⟩
  | false =>
   have e4 : ((headS p).cps.toList != (Txt.mul "/" (headS p).length).cps.toList) = true := by rw [bne, e2]; rfl
   rw [e4]
   refine isTrue_and_nil ?_
   dsimp only
   refine wpAny_execs_cons (wpAny_Assign_Name ?_)
   refine Mstr (ld3 C F ⟨rfl, SB.rstripChars (ld1 C F ⟨_, _, rfl, fun t4 k => ?_⟩) (by show _ ≤ 16777216; omega)⟩)
   refine st3 C F fun h' F => ?_
   dsimp only
   refine wpAny_execs_nil (wpAny_execs_cons (wpAny_Return_some ?_))
   refine tupE (sp1 (ld3 C F (sp1 (ld4 C F (sp0 ?_)))))
   refine newTup F fun T g₄ h' k4 eT F => ?_
   refine ends F ⟨T, t4, t2, rfl, ?_⟩
   rw [eT]; simp only [splitS, e1, e2]; rfl
end
end Mine
namespace Mine
open PySem PySem.W PyProof.Rows PySem.Calls PySem.Spec PySem.Builtin
def hexA (b : Array UInt8) : Array Nat := b.toList.zipIdx.foldl (fun (out : Array Nat) (p : UInt8 × Nat) => (out.push (Bytes.hexDigit (p.1.toNat / 16))).push (Bytes.hexDigit (p.1.toNat % 16))) #[]
theorem gives_hex (b : Array UInt8) (t : Tok) : PySem.Gives (Builtin.«bytes.hex» ⟨[.bytes b t], []⟩) (.str ⟨hexA b⟩) := .of_eq rfl
theorem gives_upper (b : Array UInt8) (t : Tok) : PySem.Gives (Builtin.«bytes.upper» ⟨[.bytes b t], []⟩) (.bytes (b.toList.map Bytes.toUpper).toArray) := .of_eq rfl
def ascA (x : Array Nat) : Array UInt8 := x.foldl (fun acc y => acc ++ #[y.toUInt8]) #[]
theorem enc_tree (x : Str) (t u : Tok) : Builtin.«str.encode» ⟨[.str x t, .str "ascii" u], []⟩ = (do ret (← _codecs.encodeRoad "str.encode" (.str x t) x (Str.ofString "ascii") none)) := by kernel_rfl
theorem enc_road (id : String) (self : Value) (x : Str) (errors : Option Str) : _codecs.encodeRoad id self x (Str.ofString "ascii") errors = (do mkBytes (← _codecs.encodeNarrow id _codecs.asciiCodec errors self x)) := by
 kernel_rfl
theorem enc_narrow (id : String) (self : Value) (x : Str) (h : x.cps.findIdx? (fun y => decide (y ≥ 128)) = none) (h0 : x.cps[0]? = some (x.cps[0]?.getD 0)) (hb : decide (x.cps[0]?.getD 0 ≥ 128) = false) (n : Nat) (hl : x.cps.size = n + 2) (hs : ¬ (ascA x.cps).size > sizeLine) : _codecs.encodeNarrow id _codecs.asciiCodec none self x = pure (ascA x.cps) := by
 unfold _codecs.encodeNarrow
 have hlen : x.length = n + 2 := hl
 simp only [Std.Legacy.Range.forIn_eq_forIn_range', Std.Legacy.Range.size, hlen, Nat.sub_zero, Nat.add_sub_cancel, Nat.div_one, List.range'_succ, List.forIn_cons]
 have e1 : x.cps.extract 0 x.cps.size = x.cps := by simp
 have e2 : x.cps[0 + x.cps.size]? = none := by simp
 rw [h0]
 simp only [_codecs.asciiCodec, hb, e1, h, Option.getD_none, e2, pure_bind, Array.size_empty, Bool.not_false, if_true]
 have s0 : ¬ (0 > sizeLine) := by decide
 have hs' : ¬ (Array.foldl (fun acc y => acc ++ #[Nat.toUInt8 y]) #[] x.cps).size > sizeLine := hs
 simp only [if_neg s0, pure_bind, if_neg hs', e2]
 rfl
end Mine
namespace Mine
open PySem PySem.W PyProof.Rows PySem.Calls PySem.Spec PySem.Builtin
theorem slot_upper : Slot "bytes" "upper" "bytes.upper" :=
 .of (owner := "bytes") (n := "upper") (by rw [typeLookup_type, builtinLookup_eq_fast]; kernel_rfl) (by decide +kernel) (by decide +kernel) (by decide +kernel)
  (by first | exact .inl (by decide +kernel) | exact .inr (by decide +kernel)) (by rw [isSubtype_type]; kernel_rfl)
theorem type_upper : typeOf (.builtin "bytes.upper") = pure (.type "method_descriptor") := by show builtinType _ = _; rw [builtinType_eq_fast]; kernel_rfl
theorem entry_upper : entryFor table "bytes.upper" = some Builtin.«bytes.upper» := entryFor_of_tree (by kernel_rfl)
theorem args_upper (a : Value) : argsOk "bytes.upper" ⟨[a], []⟩ := by unfold argsOk; kernel_rfl
theorem enc_gives (x : Str) (t u : Tok) (h : x.cps.findIdx? (fun y => decide (y ≥ 128)) = none) (h0 : x.cps[0]? = some (x.cps[0]?.getD 0)) (hb : decide (x.cps[0]?.getD 0 ≥ 128) = false) (n : Nat) (hl : x.cps.size = n + 2) (hs : ¬ (ascA x.cps).size > sizeLine) :
 PySem.Gives (Builtin.«str.encode» ⟨[.str x t, .str "ascii" u], []⟩) (.bytes (ascA x.cps)) := by
 refine .of_eq ?_
 rw [enc_tree, enc_road, enc_narrow _ _ x h h0 hb n hl hs]
 rfl
section
variable {prog : Program} {w : World} {A : Around} {s : Shared} {env : Env} {E : Value → Shared → Prop}
theorem M_hex {b : Array UInt8} {t : Tok} {pos : Pos} {Q : Value → Shared → Prop} (hsz : (Str.mk (hexA b)).length ≤ 16777216) (h : ∀ t' k, Q (.str ⟨hexA b⟩ t') { s with toks := k }) : MethodOnS prog w A E "hex" (.bytes b t) pos [] Q s :=
 ⟨"bytes", _, FB.plainAttrs_bytes, FB.slot_bytes_hex, FB.type_bytes_hex, typeIs_bytes _ _ _, (fun _ e => nomatch e), method0_gives FB.slot_bytes_hex FB.entry_bytes_hex (typeIs_bytes _ _ _) (FB.args_bytes_hex_1 _) (gives_hex b t) ⟨hsz, h _ _⟩⟩
theorem M_upper {b : Array UInt8} {t : Tok} {pos : Pos} {Q : Value → Shared → Prop} (hsz : b.size ≤ 16777216) (h : ∀ t' k, Q (.bytes (b.toList.map Bytes.toUpper).toArray t') { s with toks := k }) : MethodOnS prog w A E "upper" (.bytes b t) pos [] Q s :=
 ⟨"bytes", _, FB.plainAttrs_bytes, slot_upper, type_upper, typeIs_bytes _ _ _, (fun _ e => nomatch e), method0_gives slot_upper entry_upper (typeIs_bytes _ _ _) (args_upper _) (gives_upper b t) ⟨by show _ ≤ 16777216; simpa using hsz, h _ _⟩⟩
end
def upA (b : Array UInt8) : Array UInt8 := ((ascA (hexA b)).toList.map Bytes.toUpper).toArray
structure Fine (b : Array UInt8) : Prop where
 none : (hexA b).findIdx? (fun y => decide (y ≥ 128)) = none
 first : (hexA b)[0]? = some ((hexA b)[0]?.getD 0)
 low : decide ((hexA b)[0]?.getD 0 ≥ 128) = false
 size : ∃ n, (hexA b).size = n + 2
 le : (hexA b).size ≤ 1000
 asc : (ascA (hexA b)).size ≤ 1000
section
variable {w : World} {A : Around} {s : Shared} {g : Heap} {n : Nat}
theorem buffer_gives (X : Stat g) (kg : Le g s.heap) (hA : Ok A (n + 1)) (b : Array UInt8) (t : Tok) :
 Gives pw w A (.call (.ref 253) ⟨[.bytes b t], []⟩) s [] g (fun _ _ v => v = .bytes b t) := by
 refine Gives.go 9 [.bytes b t] ["data"] ["t"] ["type", "bytes"] rfl X kg hA rfl (BindsTo.of_eq rfl) rfl (by decide +kernel) fun h₁ env A' t' hA' C F => ?_
 refine wpAny_execs_cons (wpAny_Assign_Name ?_)
 refine C1 (N_type C X F.keep (.head _) (ld0 C F ⟨trivial, ?_⟩))
 refine call_type_of (Tx := "bytes") rfl (by decide +kernel) ?_
 refine st1 C F fun h' F => ?_
 refine wpAny_execs_cons (wpAny_If (wpAny_isTrue_Compare1 (ld1 C F (N_bytes C X F.keep (.tail _ (.head _)) (wpAny_is_self rfl (wpAny_truthy_bool ?_))))))
 refine wpAny_execs_cons (wpAny_Return_some (ld0 C F ?_))
 exact ends F rfl
theorem hex_gives (X : Stat g) (kg : Le g s.heap) (hA : Ok A (n + 2)) (b : Array UInt8) (t : Tok) (hb : Fine b) :
 Gives pw w A (.call (.ref 262) ⟨[.bytes b t], []⟩) s [] g (fun _ _ v => ∃ t', v = .bytes (ascA (hexA b)) t') := by
 refine Gives.go 10 [.bytes b t, .ref 254, .int 1 594] ["data", "sep", "bytes_per_sep"] ["t"] ["_buffer", "type", "_NO_SEP", "int"] rfl X kg hA rfl (BindsTo.of_defaults rfl (kg _ _ (X.obAt 0 rfl)) rfl rfl rfl) rfl (by decide +kernel) fun h₁ env A' t' hA' C F => ?_
 refine wpAny_execs_cons (wpAny_Assign_Name ?_)
 refine C1 (N_buffer C X F.keep (.head _) (ld0 C F ⟨⟨_, F.keep _ _ (X.fnAt 9 rfl)⟩, ?_⟩))
 refine call_c F (buffer_gives X F.keep hA' b t) fun g₂ h' t' v k2 F e => ?_
 subst e
 refine st0 C F fun h' F => ?_
 have X₂ := X.up k2
 dsimp only
 refine wpAny_execs_cons (wpAny_If (isTrue_or (wpAny_isTrue_Compare1 ?_)))
 refine C1 (N_type C X₂ F.keep (.tail _ (.head _)) (ld2 C F ⟨trivial, ?_⟩))
 refine call_type_of (Tx := "int") rfl (by decide +kernel) ?_
 refine N_int C X₂ F.keep (.tail _ (.tail _ (.tail _ (.head _)))) (wpAny_isNot_self rfl (wpAny_truthy_bool ?_))
 refine isTrue_or (wpAny_isTrue_Compare1 (ld2 C F (UnaryOp_ (wpAny_Constant_int ?_))))
 refine P.neg_int ?_
 refine P.lt_int (wpAny_truthy_bool ?_)
 refine isTrue_or (wpAny_isTrue_Compare1 (ld2 C F (wpAny_Constant_int ?_)))
 refine P.gt_int (wpAny_truthy_bool ?_)
 refine isTrue_or_nil ?_
 dsimp only
 refine wpAny_execs_nil (wpAny_execs_cons (wpAny_If (wpAny_isTrue_Compare1 (ld1 C F (N_NO_SEP C X₂ F.keep (.tail _ (.tail _ (.head _))) (wpAny_is_ref_self (wpAny_truthy_bool ?_)))))))
 refine wpAny_execs_cons (wpAny_Return_some ?_)
 obtain ⟨m, hm⟩ := hb.size
 refine Call_method1 rfl rfl rfl (Call_method0 rfl rfl (ld0 C F (M_hex (Nat.le_trans hb.le (by decide)) fun t2 k => ?_)))
 refine .str1 PySem.F.slot_str_encode PySem.F.type_str_encode PySem.F.entry_str_encode (Constant_str ⟨PySem.F.args_str_encode_2 _ _, _, enc_gives ⟨hexA b⟩ _ _ hb.none hb.first hb.low m hm (Nat.not_lt.mpr (Nat.le_trans hb.asc (by decide))), Nat.le_trans hb.asc (by decide), ?_⟩)
 exact ends F ⟨_, rfl⟩
theorem b16_gives (X : Stat g) (kg : Le g s.heap) (hA : Ok A (n + 3)) (b : Array UInt8) (t : Tok) (hb : Fine b) :
 Gives pw w A (.call (.ref 269) ⟨[.bytes b t], []⟩) s [] g (fun _ _ v => ∃ t', v = .bytes (upA b) t') := by
 refine Gives.go 11 [.bytes b t] ["s"] [] ["hexlify"] rfl X kg hA rfl (BindsTo.of_eq rfl) rfl (by decide +kernel) fun h₁ env A' t' hA' C F => ?_
 refine doc_ C fun t' => ?_
 refine wpAny_execs_cons (wpAny_Return_some ?_)
 refine Call_method0 rfl rfl ?_
 refine C1 (N_hexlify C X F.keep (.head _) (ld0 C F ⟨⟨_, F.keep _ _ (X.fnAt 10 rfl)⟩, ?_⟩))
 refine call_c F (hex_gives X F.keep hA' b t hb) fun g₂ h' t' v k2 F e => ?_
 obtain ⟨t2, rfl⟩ := e
 refine M_upper (Nat.le_trans hb.asc (by decide)) fun t3 k => ?_
 exact ends F ⟨_, rfl⟩
end
end Mine
namespace Mine
open PySem PySem.W PyProof.Rows PySem.Calls PySem.Spec
mutual
inductive Dt (g : Heap) : Value → PyData → Prop
 | int (i : Int) (t : Tok) : Dt g (.int i t) (.int i)
 | str (x : Str) (t : Tok) : Dt g (.str x t) (.str x)
 | list {l : Addr} {vs : List Value} {k : Nat} {ds : List PyData} : g.get? l = some (lstObj vs k) → Dts g vs ds → Dt g (.ref l) (.list ds)
 | tuple {l : Addr} {vs : List Value} {ds : List PyData} : g.get? l = some (tupObj vs) → Dts g vs ds → Dt g (.ref l) (.tuple ds)
inductive Dts (g : Heap) : List Value → List PyData → Prop
 | nil : Dts g [] []
 | cons {v : Value} {vs : List Value} {d : PyData} {ds : List PyData} : Dt g v d → Dts g vs ds → Dts g (v :: vs) (d :: ds)
end
variable {g g' : Heap} {v : Value} {d : PyData} {vs : List Value} {ds : List PyData}
mutual
theorem Dt.up (k : Le g g') : ∀ {v : Value} {d : PyData}, Dt g v d → Dt g' v d
 | _, _, .int i t => .int i t
 | _, _, .str x t => .str x t
 | _, _, .list e x => .list (k _ _ e) (Dts.up k x)
 | _, _, .tuple e x => .tuple (k _ _ e) (Dts.up k x)
theorem Dts.up (k : Le g g') : ∀ {vs : List Value} {ds : List PyData}, Dts g vs ds → Dts g' vs ds
 | _, _, .nil => .nil
 | _, _, .cons a b => .cons (Dt.up k a) (Dts.up k b)
end
mutual
theorem Dt.reads : ∀ {v : Value} {d : PyData}, Dt g v d → ∃ as, Reads g v d as
 | _, _, .int i t => ⟨_, .int i t⟩
 | _, _, .str x t => ⟨_, .str x t⟩
 | _, _, .list e x => let ⟨as, r⟩ := Dts.reads x; ⟨_, .list e rfl rfl (by simpa using r)⟩
 | _, _, .tuple e x => let ⟨as, r⟩ := Dts.reads x; ⟨_, .tuple e rfl rfl (by simpa using r)⟩
theorem Dts.reads : ∀ {vs : List Value} {ds : List PyData}, Dts g vs ds → ∃ as, ReadsAll g vs ds as
 | _, _, .nil => ⟨_, .nil⟩
 | _, _, .cons a b => let ⟨as, r⟩ := Dt.reads a; let ⟨bs, q⟩ := Dts.reads b; ⟨_, .cons r q⟩
end
theorem Dt.listInv (x : Dt g v (.list ds)) : ∃ l vs k, v = .ref l ∧ g.get? l = some (lstObj vs k) ∧ Dts g vs ds := by
 cases x with
 | list e y => exact ⟨_, _, _, rfl, e, y⟩
theorem Dt.tupInv (x : Dt g v (.tuple ds)) : ∃ l vs, v = .ref l ∧ g.get? l = some (tupObj vs) ∧ Dts g vs ds := by
 cases x with
 | tuple e y => exact ⟨_, _, rfl, e, y⟩
theorem Dt.strInv {x : Str} (y : Dt g v (.str x)) : ∃ t, v = .str x t := by
 cases y; exact ⟨_, rfl⟩
theorem Dt.intInv {i : Int} (y : Dt g v (.int i)) : ∃ t, v = .int i t := by
 cases y; exact ⟨_, rfl⟩
theorem Dts.len : ∀ {vs : List Value} {ds : List PyData}, Dts g vs ds → vs.length = ds.length
 | _, _, .nil => rfl
 | _, _, .cons _ b => congrArg (· + 1) (Dts.len b)
theorem Dts.get : ∀ {vs : List Value} {ds : List PyData} {i : Nat} {v : Value}, Dts g vs ds → vs[i]? = some v → ∃ d, ds[i]? = some d ∧ Dt g v d
 | _, _, _, _, .nil, h => by simp at h
 | _, _, 0, _, .cons a _, h => by simp at h; subst h; exact ⟨_, rfl, a⟩
 | _, _, i + 1, _, .cons _ b, h => by simpa using Dts.get b (by simpa using h)
theorem Dts.snoc : ∀ {vs : List Value} {ds : List PyData} {v : Value} {d : PyData}, Dts g vs ds → Dt g v d → Dts g (vs ++ [v]) (ds ++ [d])
 | _, _, _, _, .nil, x => .cons x .nil
 | _, _, _, _, .cons a b, x => .cons a (Dts.snoc b x)
theorem Dts.append : ∀ {vs ws : List Value} {ds es : List PyData}, Dts g vs ds → Dts g ws es → Dts g (vs ++ ws) (ds ++ es)
 | _, _, _, _, .nil, x => x
 | _, _, _, _, .cons a b, x => .cons a (Dts.append b x)
theorem Dts.take : ∀ {vs : List Value} {ds : List PyData} (n : Nat), Dts g vs ds → Dts g (vs.take n) (ds.take n)
 | _, _, 0, _ => by simpa using Dts.nil
 | _, _, _ + 1, .nil => by simpa using Dts.nil
 | _, _, n + 1, .cons a b => by simpa using Dts.cons a (Dts.take n b)
theorem Dts.drop : ∀ {vs : List Value} {ds : List PyData} (n : Nat), Dts g vs ds → Dts g (vs.drop n) (ds.drop n)
 | _, _, 0, x => by simpa using x
 | _, _, _ + 1, .nil => by simpa using Dts.nil
 | _, _, n + 1, .cons _ b => by simpa using Dts.drop n b
theorem Dts.of_get : ∀ {vs : List Value} {ds : List PyData}, vs.length = ds.length → (∀ (i : Nat) (v : Value) (d : PyData), vs[i]? = some v → ds[i]? = some d → Dt g v d) → Dts g vs ds
 | [], [], _, _ => .nil
 | v :: vs, d :: ds, hl, h => .cons (h 0 v d rfl rfl) (Dts.of_get (by simpa using hl) fun i v d hv hd => h (i + 1) v d (by simpa using hv) (by simpa using hd))
theorem Dts.ints : ∀ {vs : List Value} {ns : List Int}, Dts g vs (ns.map .int) → IntsAre vs ns
 | _, [], .nil => .nil
 | _, n :: ns, .cons a b => by
  obtain ⟨t, rfl⟩ := a.intInv
  exact .cons _ _ (Dts.ints b)
theorem Dts.strs : ∀ {vs : List Value} {ns : List Str}, Dts g vs (ns.map .str) → ∃ l : List (Str × Tok), vs = strValues l ∧ l.map (·.1) = ns
 | _, [], .nil => ⟨[], rfl, rfl⟩
 | _, n :: ns, .cons a b => by
  obtain ⟨t, rfl⟩ := a.strInv
  obtain ⟨l, rfl, rfl⟩ := Dts.strs b
  exact ⟨(n, t) :: l, rfl, rfl⟩
end Mine
namespace Mine
open PySem PySem.W PyProof.Rows PySem.Calls PySem.Spec
abbrev dInts (ns : List Nat) : List PyData := ns.map fun (k : Nat) => PyData.int (k : Int)
abbrev dName (ns : List Nat) : PyData := .list (dInts ns)
abbrev dPlace (p : List (List Nat)) : PyData := .list (p.map dName)
def octA (ns : List Nat) : Array UInt8 := (ns.map fun k => k.toUInt8).toArray
def hexT (ns : List Nat) : Str := Txt.join "" ((upA (octA ns)).toList.map fun c => ⟨#[c.toNat]⟩)
def pathT (p : List (List Nat)) : Str := p.foldl (fun acc n => joinS acc (hexT n)) "/"
structure NameOk (ns : List Nat) : Prop where
 fine : Fine (octA ns)
 oct : ∀ k ∈ ns, k < 256
 up : (upA (octA ns)).size ≤ 1000
 len : (hexT ns).length ≤ 100
 short : ns.length ≤ 2
 join : JoinOk "" ((upA (octA ns)).toList.map fun c => ⟨#[c.toNat]⟩) = true
theorem dts_ints {g : Heap} {vs : List Value} {ns : List Nat} (h : Dts g vs (dInts ns)) : IntsAre vs (ns.map fun (k : Nat) => (k : Int)) := Dts.ints (by rw [List.map_map]; exact h)
theorem oct_range {ns : List Nat} (h : ∀ k ∈ ns, k < 256) : ∀ n ∈ (ns.map fun (k : Nat) => (k : Int)), 0 ≤ n ∧ n < 256 := by
 intro n hn
 obtain ⟨k, hk, rfl⟩ := List.mem_map.mp hn
 have := h k hk
 omega
theorem byteArr_oct (ns : List Nat) : byteArr (ns.map fun (k : Nat) => (k : Int)) = octA ns := by simp [byteArr, octA, List.map_map, Function.comp_def]
theorem strValues_snoc (l : List (Str × Tok)) (x : Str) (t : Tok) : strValues l ++ [.str x t] = strValues (l ++ [(x, t)]) := by simp [strValues]
theorem joinS_len (a b : Str) : (joinS a b).length ≤ a.length + 1 + b.length := by
 unfold joinS
 split
 · omega
 · split
   · rw [Str.length_append]; omega
   · rw [Str.length_append, Str.length_append, slash_len]; omega
theorem pathT_snoc (p : List (List Nat)) (n : List Nat) : pathT (p ++ [n]) = joinS (pathT p) (hexT n) := by simp [pathT]
theorem path_fold : ∀ (p : List (List Nat)) (acc : Str), (∀ ns ∈ p, (hexT ns).length ≤ 100) → (p.foldl (fun acc n => joinS acc (hexT n)) acc).length ≤ acc.length + 101 * p.length
 | [], acc, _ => by simp
 | n :: p, acc, h => by
  have h1 := path_fold p (joinS acc (hexT n)) fun ns hm => h ns (.tail _ hm)
  have h2 := h n (.head _)
  have h3 := joinS_len acc (hexT n)
  rw [List.foldl_cons, List.length_cons]
  omega
theorem pathT_len (p : List (List Nat)) (h : ∀ ns ∈ p, (hexT ns).length ≤ 100) : (pathT p).length ≤ 1 + 101 * p.length := by
 have := path_fold p "/" h
 rw [slash_len] at this
 exact this
section
variable {prog : Program} {w : World} {A : Around} {s : Shared} {env : Env}
abbrev bitObj (b : Array UInt8) (t : Tok) : Obj := { cls := .type "bytes_iterator", data := .fields #[.bytes b t, .int 0 0] }
theorem It.bytes {target : Expr} {I : Addr} {b : Array UInt8} {t : Tok} {g h : Heap} (hh : A.handled = none) (hi : h.get? I = some (bitObj b t))
 (hgo : ∀ (i : Nat) (v : Value) (s : Shared) (Q : Unit → Shared → Prop), Q () s → wpAny (model prog w) A (letOwnedTupleGo target (.ref I) v) Q no s) :
 It prog w A target I b.size (fun i v => ∃ c u, b[i]? = some c ∧ v = .int (c.toNat : Int) u) g (fun i h => KBw.IsBytesIter h I b t i) ∧ KBw.IsBytesIter h I b t 0 := by
 refine ⟨⟨⟨[I], ?_, fun b hb => .inl (List.mem_singleton.mp hb)⟩, fun i h hw => let ⟨o, e, _⟩ := hw; ⟨o, e⟩, fun i v s Q hw hq => hgo i v s Q hq⟩, ⟨_, hi, rfl, rfl⟩⟩
 exact {
  sub := fun _ hb => hb
  frame := fun _ _ _ st hk => let ⟨o, ho, r⟩ := st; ⟨o, hk I (by simp) o ho, r⟩
  item := fun i s Q E hi st hQ => by
   refine KBw.next_item st (c := b[i]) (by simp [hi]) fun h' hit' hs' => ?_
   exact hQ _ h' _ ⟨_, _, by simp [hi], rfl⟩ hit' fun b o hb e => hs'.extBut b o (fun h => hb (by simp [h])) e
  done := fun s Q E st hQ => KBw.next_end hh st (by simp) fun h' he' => hQ h' s.toks fun b o hb e => he' b o (fun h => hb (by simp [h])) e
  self := fun _ _ _ _ st hQ => KBw.pyIter_self st hQ }
end
section
variable {w : World} {A : Around} {s : Shared} {g : Heap} {n : Nat}
theorem path_gives (X : Stat g) (kg : Le g s.heap) (hA : Ok A (n + 4)) (v : Value) (p : List (List Nat)) (hv : Dt g v (dPlace p)) (hp : p.length ≤ 9) (hn : ∀ ns ∈ p, NameOk ns) :
 Gives pw w A (.call (.ref 385) ⟨[v], []⟩) s [] g (fun _ _ r => ∃ t, r = .str (pathT p) t) := by
 refine Gives.go 18 [v] ["place"] ["path", "name"] ["join", "b16encode", "bytes"] rfl X kg hA rfl (BindsTo.of_eq rfl) rfl (by decide +kernel) fun h₁ env A' t' hA' C F => ?_
 refine wpAny_execs_cons (wpAny_Assign_Name (Constant_str (st1 C F fun h' F => ?_)))
 obtain ⟨l, items, k, rfl, hl, hds⟩ := hv.listInv
 have hlen : items.length = p.length := by simpa using hds.len
 refine wpAny_execs_cons (For_ (ld0 C F ?_))
 refine each_list (fun i g' vs' mu' => mu' = [] ∧ Stat g' ∧ ∃ t u, vs' = [some (.ref l), some (.str (pathT (p.take i)) t), u]) hA'.handled F hl ⟨rfl, X, _, _, rfl⟩ ?_ ?_
 · rintro i v g' vs' mu' I oI h tk hi kg' ⟨rfl, X', t1, u, rfl⟩ F
   obtain ⟨d, hd, hdt⟩ := hds.get hi
   obtain ⟨ns, hns, rfl⟩ : ∃ ns, p[i]? = some ns ∧ dName ns = d := by simpa using hd
   have ok := hn ns (List.mem_of_getElem? hns)
   obtain ⟨l2, its, k2, rfl, hl2, hds2⟩ := hdt.listInv
   dsimp only
   refine st2 C F fun h' F => ?_
   refine wpAny_execs_cons (wpAny_Assign_Name ?_)
   refine C2 (N_join C X' F.keep (.head _) (ld1 C F ?_))
   refine Call_method1 rfl rfl rfl (Constant_str (SB.join ?_))
   refine evComp ["sign"] ["chr"] (by decide +kernel) rfl ?_
   refine C1 (N_b16encode C X' F.keep (.tail _ (.head _)) ?_)
   refine C1 (N_bytes C X' F.keep (.tail _ (.tail _ (.head _))) (ld2 C F ⟨trivial, ?_⟩))
   refine call_bytes_ints ⟨_, F.keep _ _ (kg' _ _ hl2), rfl, _, rfl⟩ (dts_ints hds2) (oct_range ok.oct) (Nat.le_trans (Nat.le_of_eq (by simpa using hds2.len)) (Nat.le_trans ok.short (by decide))) hA'.handled fun h' t3 k3 kk => ?_
   rw [byteArr_oct]
   replace F := F.more kk
   dsimp only at F ⊢
   refine ⟨⟨_, F.keep _ _ (X'.fnAt 11 rfl)⟩, ?_⟩
   refine call_c F (b16_gives X' F.keep hA' (octA ns) t3 ok.fine) fun g₂ h' t' v k2 F e => ?_
   obtain ⟨t4, rfl⟩ := e
   have X₂ := X'.up k2
   refine KBw.pyIter_bytes ?_
   have F₁ := F.own (bitObj (upA (octA ns)) t4)
   obtain ⟨hI, h0⟩ := It.bytes (prog := pw) (w := w) (A := A') (target := .Name "sign" _) (g := g₂) hA'.handled (F₁.mt _ (.head _)).1 fun i v s Q h => go_name h
   refine cmpE (fun i g' ys => ∃ l, ys = strValues l ∧ l.map (·.1) = ((upA (octA ns)).toList.take i).map fun c => ⟨#[c.toNat]⟩) (Nn := ["sign"]) (Gl := ["chr"]) (by decide +kernel) C F₁ hI h0 ⟨[], rfl, rfl⟩ (Nat.le_trans ok.up (by decide)) (cturn ?_) ?_
   · rintro i v s g' us ys I oI C' D h tk ⟨c, u, hc, rfl⟩ kg2 ⟨l, rfl, hl⟩ hus Cc F
     obtain ⟨u0, rfl⟩ := List.length_eq_one_iff.mp hus
     refine st0 Cc F fun h' F => tests0 ?_
     rw [if_pos rfl]
     have hcl := c.toNat_lt
     refine C1 (N_chr Cc (X₂.up kg2) F.keep (.head _) (ld0 Cc F ⟨trivial, P.chr_of_int (by simp; omega) ?_⟩))
     refine cEnd Le.rfl' F ⟨l ++ [(⟨#[c.toNat]⟩, _)], strValues_snoc _ _ _, ?_⟩
     have hc' : (upA (octA ns)).toList[i]? = some c := by simpa using hc
     rw [List.map_append, hl, List.take_add_one, hc']
     simp
   · rintro g₁ g' D h' tk ys k3 k4 ⟨l, rfl, hl⟩ eD F
     have hl' : l.map (·.1) = (upA (octA ns)).toList.map fun c => ⟨#[c.toNat]⟩ := by rw [hl, List.take_of_length_le (by simp)]
     refine ⟨D, l, rfl, ⟨_, F.keep _ _ eD, rfl, _, rfl⟩, _, hl', ok.join, fun t5 k5 => ?_⟩
     have X₃ := X₂.up k3
     dsimp only
     have hlt : i < p.length := by
      rcases Nat.lt_or_ge i p.length with q | q
      · exact q
      · rw [List.getElem?_eq_none q] at hns; cases hns
     have hpl := pathT_len (p.take i) fun ns hm => (hn ns (List.mem_of_mem_take hm)).len
     rw [List.length_take] at hpl
     refine ⟨⟨_, F.keep _ _ (X₃.fnAt 14 rfl)⟩, ?_⟩
     refine call_c F (join_gives X₃ F.keep hA' (pathT (p.take i)) (hexT ns) t1 t5 (by omega) (Nat.le_trans ok.len (by decide))) fun g₃ h' t' v k6 F e => ?_
     obtain ⟨t6, rfl⟩ := e
     refine st1 C F fun h' F => ?_
     refine wpAny_execs_nil (turn_next (k2.tr (k3.tr k6)) F ⟨rfl, X₃.up k6, t6, some (.ref l2), ?_⟩)
     rw [List.take_add_one, hns]
     rw [show p.take i ++ (some ns).toList = p.take i ++ [ns] from rfl, pathT_snoc]
 · rintro g' vs' mu' h tk kg' ⟨rfl, X', t1, u, rfl⟩ F
   refine wpAny_execs_cons (wpAny_Return_some (ld1 C F ?_))
   rw [hlen, List.take_length]
   exact ends F ⟨_, rfl⟩
end
theorem pick_take (vs : List Value) (j : Nat) : slicePick vs.toArray none (some (j : Int)) none = (vs.take j).toArray := by
 have e : sliceBounds none (some (j : Int)) none vs.toArray.size = (((0 : Nat) : Int), ((min j vs.toArray.size : Nat) : Int), 1) := by
  simp only [sliceBounds, Option.getD_none, show (1 : Int) > 0 by decide, if_true, if_neg (show ¬ ((j : Int) < 0) by omega)]
  congr 1
  congr 1
  omega
 rw [kmk_pick_nat _ e, List.drop_zero, Nat.sub_zero, List.size_toArray, kmk_take_min]
theorem pick_drop (vs : List Value) (j : Nat) : slicePick vs.toArray (some (j : Int)) none none = (vs.drop j).toArray := by
 have e : sliceBounds (some (j : Int)) none none vs.toArray.size = (((min j vs.toArray.size : Nat) : Int), ((vs.toArray.size : Nat) : Int), 1) := by
  simp only [sliceBounds, Option.getD_none, show (1 : Int) > 0 by decide, if_true, if_neg (show ¬ ((j : Int) < 0) by omega)]
  congr 1
  omega
 rw [kmk_pick_nat _ e]
 show ((vs.drop (min j vs.toArray.size)).take (vs.toArray.size - min j vs.toArray.size)).toArray = _
 rw [List.size_toArray, kmk_drop_min, List.take_of_length_le (by rw [List.length_drop]; omega)]
section
variable {prog : Program} {w : World} {A : Around} {s : Shared} {env : Env} {E : Value → Shared → Prop}
variable {h₀ g₀ g : Heap} {xt : List Addr} {L : Addr} {N Gl : List Str} {vs : List (Option Value)} {mu : List (Addr × Obj)}
theorem lsl_take {o e : Expr} {p pos : Pos} {Q : Value → Shared → Prop}
 (h : wpAny (model prog w) A (eval o env) (fun ov s₁ => wpAny (model prog w) A (eval e env) (fun ev s₂ => ∃ l items k j u g₁ mu₁ vs₁, ov = .ref l ∧ ev = .int ((j : Nat) : Int) u ∧ items.length ≤ 16777216 ∧ g₁.get? l = some (lstObj items k) ∧ St h₀ xt g₀ g₁ L N vs₁ mu₁ s₂.heap ∧
  ∀ D g' h', Le g₁ g' → g'.get? D = some (lstObj (items.take j) 0) → St h₀ xt g₀ g' L N vs₁ mu₁ h' → Q (.ref D) { s₂ with heap := h' }) E s₁) E s) (ht : ∀ o' r, letTemporaryGo o o' r = pure () := by intro _ _; rfl) :
 wpAny (model prog w) A (eval (.Subscript o (.Slice none (some e) none p) pos) env) Q E s := by
 refine wpAny_Subscript_list_slice (wpAny_mono h (fun ov s₁ h₁ => ?_) fun _ _ e => e) ht
 rw [evalPart_none, evalPart_some]
 refine wpAny_pure (wpAny_mono h₁ (fun ev s₂ h₂ => ?_) fun _ _ e => e)
 obtain ⟨l, items, k, j, u, g₁, mu₁, vs₁, rfl, rfl, hsz, hl, F, hq⟩ := h₂
 refine ⟨l, items.toArray, none, some (j : Int), rfl, ⟨_, F.keep _ _ hl, rfl, _, rfl⟩, by show _ ≤ 16777216; simpa using hsz, .none, .int _ _, ?_⟩
 rw [pick_take]
 have F₁ := F.more (le_push s₂.heap { cls := .type "slice", data := .fields #[.none, .int ((j : Nat) : Int) u, .none] })
 obtain ⟨g', k', eD, F₂⟩ := F₁.made (lstObj (items.take j) 0)
 have es : (s₂.heap.push { cls := .type "slice", data := .fields #[.none, .int ((j : Nat) : Int) u, .none] }).objs.size = s₂.heap.objs.size + 1 := Heap.size_push ..
 rw [es] at eD
 exact hq _ g' _ k' eD F₂
theorem lsl_drop {o e : Expr} {p pos : Pos} {Q : Value → Shared → Prop}
 (h : wpAny (model prog w) A (eval o env) (fun ov s₁ => wpAny (model prog w) A (eval e env) (fun ev s₂ => ∃ l items k j u g₁ mu₁ vs₁, ov = .ref l ∧ ev = .int ((j : Nat) : Int) u ∧ items.length ≤ 16777216 ∧ g₁.get? l = some (lstObj items k) ∧ St h₀ xt g₀ g₁ L N vs₁ mu₁ s₂.heap ∧
  ∀ D g' h', Le g₁ g' → g'.get? D = some (lstObj (items.drop j) 0) → St h₀ xt g₀ g' L N vs₁ mu₁ h' → Q (.ref D) { s₂ with heap := h' }) E s₁) E s) (ht : ∀ o' r, letTemporaryGo o o' r = pure () := by intro _ _; rfl) :
 wpAny (model prog w) A (eval (.Subscript o (.Slice (some e) none none p) pos) env) Q E s := by
 refine wpAny_Subscript_list_slice (wpAny_mono h (fun ov s₁ h₁ => ?_) fun _ _ e => e) ht
 rw [evalPart_none, evalPart_some]
 refine wpAny_mono h₁ (fun ev s₂ h₂ => wpAny_pure ?_) fun _ _ e => e
 obtain ⟨l, items, k, j, u, g₁, mu₁, vs₁, rfl, rfl, hsz, hl, F, hq⟩ := h₂
 refine ⟨l, items.toArray, some (j : Int), none, rfl, ⟨_, F.keep _ _ hl, rfl, _, rfl⟩, by show _ ≤ 16777216; simpa using hsz, .int _ _, .none, ?_⟩
 rw [pick_drop]
 have F₁ := F.more (le_push s₂.heap { cls := .type "slice", data := .fields #[.int ((j : Nat) : Int) u, .none, .none] })
 obtain ⟨g', k', eD, F₂⟩ := F₁.made (lstObj (items.drop j) 0)
 have es : (s₂.heap.push { cls := .type "slice", data := .fields #[.int ((j : Nat) : Int) u, .none, .none] }).objs.size = s₂.heap.objs.size + 1 := Heap.size_push ..
 rw [es] at eD
 exact hq _ g' _ k' eD F₂
theorem addL {a b : Addr} {xs ys : List Value} {i j : Nat} {Q : Value → Shared → Prop} (F : St h₀ xt g₀ g L N vs mu s.heap) (ha : g.get? a = some (lstObj xs i)) (hb : g.get? b = some (lstObj ys j)) (hz : xs.length + ys.length ≤ 16777216)
 (h : ∀ D g' h', Le g g' → g'.get? D = some (lstObj (xs ++ ys) 0) → St h₀ xt g₀ g' L N vs mu h' → Q (.ref D) { s with heap := h' }) : wpAny (model prog w) A (binaryOp .Add (.ref a) (.ref b)) Q E s := by
 refine P.add_list (n := i) (n2 := j) (F.keep _ _ ha) (F.keep _ _ hb) ?_ (by show _ ≤ 16777216; simpa using hz)
 obtain ⟨g', k', eD, F₂⟩ := F.made (lstObj (xs ++ ys) 0)
 have e : xs.toArray ++ ys.toArray = (xs ++ ys).toArray := by simp
 rw [e]
 exact h _ g' _ k' eD F₂
theorem lenL {a : Addr} {xs : List Value} {i : Nat} {Q : Value → Shared → Prop} (k : Le g s.heap) (ha : g.get? a = some (lstObj xs i)) (hz : xs.length ≤ 16777216)
 (h : ∀ t t', Q (.int (xs.length : Int) t) { s with toks := t' }) : wpAny (model prog w) A (call (.builtin "len") [.ref a]) Q E s :=
 call_len_list ⟨_, k _ _ ha, rfl, _, rfl⟩ (by simp; omega) (by simpa using h _ _)
theorem eqD {a b : Value} {da db : PyData} {Q : Value → Shared → Prop} (k : Le g s.heap) (ha : Dt g a da) (hb : Dt g b db) (sa : SeqAt.shaped da = true) (sb : SeqAt.shaped db = true) (hu : A.units + 65 < cLine) (h : Q (.bool (PyData.eqv da db)) s) :
 wpAny (model prog w) A (compareOp .Eq a b) Q E s := by
 obtain ⟨as, ra⟩ := (ha.up k).reads
 obtain ⟨bs, rb⟩ := (hb.up k).reads
 exact eq_dataH ra rb sa sb (by omega) h
theorem neD {a b : Value} {da db : PyData} {Q : Value → Shared → Prop} (k : Le g s.heap) (ha : Dt g a da) (hb : Dt g b db) (sa : SeqAt.shaped da = true) (sb : SeqAt.shaped db = true) (hu : A.units + 65 < cLine) (h : Q (.bool (!PyData.eqv da db)) s) :
 wpAny (model prog w) A (compareOp .NotEq a b) Q E s := by
 obtain ⟨as, ra⟩ := (ha.up k).reads
 obtain ⟨bs, rb⟩ := (hb.up k).reads
 exact ne_dataH ra rb sa sb (by omega) h
theorem appS {o e : Expr} {apos pos : Pos} {a : Addr} {xs : List Value} {j : Nat} {pre post : List (Addr × Obj)} {Q : Value → Shared → Prop} (hz : xs.length ≤ 16777216)
 (h : wpAny (model prog w) A (eval o env) (fun ov s₁ => ov = .ref a ∧ (∃ ob, s₁.heap.get? a = some ob ∧ ob.dict = none ∧ ob.cls = .type "list") ∧ wpAny (model prog w) A (eval e env) (fun v s₂ => ∃ g₁ vs₁, St h₀ xt g₀ g₁ L N vs₁ (pre ++ (a, lstObj xs j) :: post) s₂.heap ∧
  ∀ h', St h₀ xt g₀ g₁ L N vs₁ (pre ++ (a, lstObj (xs ++ [v]) (j + 1)) :: post) h' → Q .none { s₂ with heap := h' }) E s₁) E s)
 (hbase : attributeBase o ("append" : Str) env (eval o env) = eval o env := by rfl) (hs : starEach [e] env = [(false, eval e env)] := by rfl) (hline : (apos.endLine == pos.line) = true := by rfl) :
 wpAny (model prog w) A (eval (.Call (.Attribute o "append" apos) [e] [] pos) env) Q E s := by
 refine Call_method1 hbase hs hline (wpAny_mono h (fun ov s₁ h₁ => ?_) fun _ _ e => e)
 obtain ⟨rfl, ⟨ob, hob, hd, hc⟩, h₂⟩ := h₁
 refine ⟨"list", "list.append", F.plainAttrs_list, F.slot_list_append, F.type_list_append, ⟨ob, hob, hc⟩, fun b e => by cases e; exact ⟨ob, hob, hd⟩, ?_⟩
 refine callWith_any rfl (evalArgs_plain (spliced_cons (wpAny_mono h₂ (fun v s₂ h₃ => spliced_nil ?_) fun _ _ e => e)))
 obtain ⟨g₁, vs₁, F, hq⟩ := h₃
 refine ⟨trivial, append_at (F.mt (a, lstObj xs j) (by simp)).1 (fun h' hsb hD => ?_) (by show _ ≤ 16777216; simpa using hz)⟩
 refine hq h' (F.turn rfl hsb (hD.trans ?_))
 rw [List.push_toArray]
end
theorem eqvAll_map {α : Type} [DecidableEq α] {f : α → PyData} (h : ∀ a b, PyData.eqv (f a) (f b) = decide (a = b)) : ∀ xs ys : List α, PyData.eqvAll (xs.map f) (ys.map f) = decide (xs = ys)
 | [], [] => rfl
 | [], _ :: _ => rfl
 | _ :: _, [] => rfl
 | x :: xs, y :: ys => by
  simp only [List.map_cons, PyData.eqvAll, h, eqvAll_map h xs ys]
  by_cases e : x = y <;> by_cases e2 : xs = ys <;> simp [e, e2]
theorem eqv_int (a b : Nat) : PyData.eqv (.int (a : Int)) (.int (b : Int)) = decide (a = b) := by
 simp only [PyData.eqv]
 by_cases h : a = b
 · simp [h]
 · have : ¬ (a : Int) = b := by omega
   simp [h, this]
theorem eqv_name (a b : List Nat) : PyData.eqv (dName a) (dName b) = decide (a = b) := by
 simp only [dName, dInts, PyData.eqv]
 exact eqvAll_map eqv_int a b
theorem eqv_place (a b : List (List Nat)) : PyData.eqv (dPlace a) (dPlace b) = decide (a = b) := by
 simp only [dPlace, PyData.eqv]
 exact eqvAll_map eqv_name a b
theorem canLay_map {α : Type} {f : α → PyData} (h : ∀ a, (f a).canLay0 = true) : ∀ xs : List α, PyData.canLayAll0 (xs.map f) = true
 | [] => rfl
 | x :: xs => by simp only [List.map_cons, PyData.canLayAll0, h, canLay_map h xs, Bool.and_self]
theorem canLay_place (p : List (List Nat)) : (dPlace p).canLay0 = true := by
 simp only [dPlace, PyData.canLay0]
 exact canLay_map (fun n => by simp only [dName, dInts, PyData.canLay0]; exact canLay_map (fun k => rfl) n) p
theorem depth_map {α : Type} {f : α → PyData} {n : Nat} (h : ∀ a, (f a).depth ≤ n) : ∀ xs : List α, PyData.depthAll (xs.map f) ≤ n
 | [] => Nat.zero_le _
 | x :: xs => by simp only [List.map_cons, PyData.depthAll]; exact Nat.max_le.mpr ⟨h x, depth_map h xs⟩
theorem depth_place (p : List (List Nat)) : (dPlace p).depth ≤ 2 := by
 simp only [dPlace, PyData.depth]
 have := depth_map (f := dName) (n := 1) (fun n => by
  simp only [dName, dInts, PyData.depth]
  have := depth_map (f := fun (k : Nat) => PyData.int (k : Int)) (n := 0) (fun k => Nat.le_refl _) n
  omega) p
 omega
theorem shaped_place (p : List (List Nat)) : SeqAt.shaped (dPlace p) = true := by
 have := depth_place p
 simp only [SeqAt.shaped, canLay_place, Bool.true_and, decide_eq_true_eq]
 omega
abbrev dRows (r : List (List (List Nat))) : PyData := .list (r.map dPlace)
theorem shaped_rows (r : List (List (List Nat))) : SeqAt.shaped (dRows r) = true := by
 have h1 : (dRows r).canLay0 = true := by simp only [dRows, PyData.canLay0]; exact canLay_map canLay_place r
 have h2 : (dRows r).depth ≤ 3 := by
  simp only [dRows, PyData.depth]
  have := depth_map depth_place r
  omega
 simp only [SeqAt.shaped, h1, Bool.true_and, decide_eq_true_eq]
 omega
end Mine
namespace Mine
set_option maxHeartbeats 1000000
open PySem PySem.W PyProof.Rows PySem.Calls PySem.Spec
abbrev Pl := List (List Nat)
def done1 (d : Int) (o nw p : Pl) : List Pl := (if (!decide (p.take o.length = o)) || d == 2 then [p] else []) ++ (if decide (p.take o.length = o) && decide (d > 0) then [nw ++ p.drop o.length] else [])
def doneR (d : Int) (o nw : Pl) (r : List Pl) : List Pl := r.flatMap (done1 d o nw)
theorem ifJ {prog : Program} {w : World} {A : Around} {env : Env} {E : Value → Shared → Prop} {s : Shared} {test : Expr} {body : List Stmt} {pos : Pos} {Q : Flow → Shared → Prop} (P : Shared → Prop)
 (h : wpAny (model prog w) A (isTrue test env (eval test env)) (fun c s₁ => if c = true then wpAny (model prog w) A (execs body env) (fun f s₂ => f = .next ∧ P s₂) E s₁ else P s₁) E s)
 (hq : ∀ s₂, P s₂ → Q .next s₂) : wpAny (model prog w) A (exec (.If test body [] pos) env) Q E s := by
 refine wpAny_If (wpAny_mono h (fun c s₁ h₁ => ?_) fun _ _ e => e)
 cases c with
 | true => exact wpAny_mono h₁ (fun f s₂ h₂ => by obtain ⟨rfl, hp⟩ := h₂; exact hq s₂ hp) fun _ _ e => e
 | false => exact wpAny_execs_nil (hq s₁ h₁)
section
variable {w : World} {A : Around} {s : Shared} {g : Heap} {n : Nat}
theorem done_gives (X : Stat g) (kg : Le g s.heap) (hA : Ok A (n + 2)) (v vo vn : Value) (d : Int) (td : Tok) (r : List Pl) (o nw : Pl) (hv : Dt g v (dRows r)) (ho : Dt g vo (dPlace o)) (hn : Dt g vn (dPlace nw))
 (hr : r.length ≤ 1000) (hrp : ∀ p ∈ r, p.length ≤ 1000) (hol : o.length ≤ 1000) (hnl : nw.length ≤ 1000) :
 Gives pw w A (.call (.ref 397) ⟨[v, .int d td, vo, vn], []⟩) s [] g (fun g' _ x => Dt g' x (dRows (doneR d o nw r))) := by
 refine Gives.go 20 [v, .int d td, vo, vn] ["places", "deed", "old", "new"] ["rows", "place", "under"] ["len"] rfl X kg hA rfl (BindsTo.of_eq rfl) rfl (by decide +kernel) fun h₁ env A' t' hA' C F => ?_
 obtain ⟨l, items, k, rfl, hl, hds⟩ := hv.listInv
 obtain ⟨lo, oi, ko, rfl, hlo, hdo⟩ := ho.listInv
 obtain ⟨ln, ni, kn, rfl, hln, hdn⟩ := hn.listInv
 have hlen : items.length = r.length := by simpa using hds.len
 have holen : oi.length = o.length := by simpa using hdo.len
 have hnlen : ni.length = nw.length := by simpa using hdn.len
 refine wpAny_execs_cons (wpAny_Assign_Name (lstE (sp0 (newOwn F fun a h' F ha => ?_))))
 refine st4 C F fun h' F => ?_
 dsimp only
 refine wpAny_execs_cons (For_ (ld0 C F ?_))
 refine each_list (fun i g' vs' mu' => ∃ xs j u1 u2, mu' = [(a, lstObj xs j)] ∧ Stat g' ∧ Dts g' xs ((doneR d o nw (r.take i)).map dPlace) ∧ xs.length ≤ 2 * i ∧ vs' = [some (.ref l), some (.int d td), some (.ref lo), some (.ref ln), some (.ref a), u1, u2]) hA'.handled F hl ⟨[], 0, _, _, rfl, X, .nil, Nat.le_refl _, rfl⟩ ?_ ?_
 · rintro i v g' vs' mu' I oI h tk hi kg' ⟨xs, j, u1, u2, rfl, X', hxs, hxl, rfl⟩ F
   obtain ⟨dd, hd, hdt⟩ := hds.get hi
   obtain ⟨p, hp, rfl⟩ : ∃ p, r[i]? = some p ∧ dPlace p = dd := by simpa using hd
   have hpl := hrp p (List.mem_of_getElem? hp)
   have hdt' := hdt.up kg'
   obtain ⟨lp, its, kp, rfl, hlp, hdp⟩ := hdt'.listInv
   have hpits : its.length = p.length := by simpa using hdp.len
   have hir : i < r.length := by
    rcases Nat.lt_or_ge i r.length with q | q
    · exact q
    · rw [List.getElem?_eq_none q] at hp; cases hp
   refine st5 C F fun h' F => ?_
   refine wpAny_execs_cons (wpAny_Assign_Name (wpAny_Compare1 ?_))
   refine lsl_take (h₀ := s.heap) (xt := []) (g₀ := g) (L := env.locals) (N := ["places", "deed", "old", "new", "rows", "place", "under"]) (ld5 C F (C1 (N_len C X' F.keep (.head _) (ld2 C F ⟨trivial, lenL F.keep (kg' _ _ hlo) (by omega) fun t1 t2 => ?_⟩))))
   refine ⟨lp, its, kp, oi.length, t1, g', _, _, rfl, rfl, by omega, hlp, F, fun D g₂ h' k2 eD F => ?_⟩
   refine ld2 C F ?_
   have hT : Dt g₂ (.ref D) (dPlace (p.take o.length)) := by
    refine .list eD ?_
    rw [holen]
    have := (hdp.up k2).take o.length
    simpa [dPlace, List.map_take] using this
   refine eqD F.keep hT (ho.up (kg'.tr k2)) (shaped_place _) (shaped_place _) hA'.c ?_
   rw [eqv_place]
   refine st6 C F fun h' F => ?_
   have X₂ := X'.up k2
   dsimp only
   refine wpAny_execs_cons (ifJ (fun s₂ => ∃ xs' j' h' t', s₂ = { s with heap := h', toks := t' } ∧ Dts g₂ xs' ((doneR d o nw (r.take i) ++ (if (!decide (p.take o.length = o)) || d == 2 then [p] else [])).map dPlace) ∧ xs'.length ≤ 2 * i + 1 ∧
    St s.heap [] g g₂ env.locals ["places", "deed", "old", "new", "rows", "place", "under"] [some (.ref l), some (.int d td), some (.ref lo), some (.ref ln), some (.ref a), some (.ref lp), some (.bool (decide (p.take o.length = o)))] [(I, oI), (a, lstObj xs' j')] h') ?_ ?_)
   · cases e1 : decide (p.take o.length = o) with
     | false =>
      rw [e1] at F
      refine isTrue_or (isTrue_not (isTrue_plain (ld6 C F (wpAny_truthy_bool ?_))))
      simp only [Bool.not_false, if_true]
      refine wpAny_execs_cons (wpAny_Expr (appS (h₀ := s.heap) (xt := []) (g₀ := g) (L := env.locals) (N := ["places", "deed", "old", "new", "rows", "place", "under"]) (a := a) (xs := xs) (j := j) (pre := [(I, oI)]) (post := []) (by omega) (ld4 C F ⟨rfl, ⟨_, (F.mt _ (.tail _ (.head _))).1, rfl, rfl⟩, ld5 C F ⟨g₂, _, F, fun h' F => ?_⟩⟩)) C.inter rfl)
      refine wpAny_execs_nil ⟨rfl, xs ++ [Value.ref lp], j + 1, h', _, rfl, ?_, by simp; omega, F⟩
      rw [List.map_append]
      refine (hxs.up k2).append ?_
      simp only [Bool.not_false, Bool.true_or, if_true]
      exact .cons (hdt'.up k2) .nil
     | true =>
      rw [e1] at F
      refine isTrue_or (isTrue_not (isTrue_plain (ld6 C F (wpAny_truthy_bool ?_))))
      simp only [Bool.not_true, Bool.false_eq_true, if_false]
      refine isTrue_or (wpAny_isTrue_Compare1 (ld1 C F (wpAny_Constant_int (P.eq_int (wpAny_truthy_bool ?_)))))
      cases e2 : d == 2 with
      | true =>
       simp only [if_true]
       refine wpAny_execs_cons (wpAny_Expr (appS (h₀ := s.heap) (xt := []) (g₀ := g) (L := env.locals) (N := ["places", "deed", "old", "new", "rows", "place", "under"]) (a := a) (xs := xs) (j := j) (pre := [(I, oI)]) (post := []) (by omega) (ld4 C F ⟨rfl, ⟨_, (F.mt _ (.tail _ (.head _))).1, rfl, rfl⟩, ld5 C F ⟨g₂, _, F, fun h' F => ?_⟩⟩)) C.inter rfl)
       refine wpAny_execs_nil ⟨rfl, xs ++ [Value.ref lp], j + 1, h', _, rfl, ?_, by simp; omega, F⟩
       rw [List.map_append]
       refine (hxs.up k2).append ?_
       simp only [Bool.or_true, if_true]
       exact .cons (hdt'.up k2) .nil
      | false =>
       simp only [Bool.false_eq_true, if_false]
       refine isTrue_or_nil ?_
       simp only [Bool.false_eq_true, if_false]
       refine ⟨xs, j, _, _, rfl, ?_, by omega, F⟩
       simp only [Bool.or_self, Bool.false_eq_true, if_false, List.append_nil]
       exact hxs.up k2
   · rintro s₂ ⟨xs', j', h', t', rfl, hxs', hxl', F⟩
     refine wpAny_execs_cons (ifJ (fun s₂ => ∃ xs' j' h' t' g₃, s₂ = { s with heap := h', toks := t' } ∧ Le g₂ g₃ ∧ Dts g₃ xs' ((doneR d o nw (r.take i) ++ done1 d o nw p).map dPlace) ∧ xs'.length ≤ 2 * i + 2 ∧
      St s.heap [] g g₃ env.locals ["places", "deed", "old", "new", "rows", "place", "under"] [some (.ref l), some (.int d td), some (.ref lo), some (.ref ln), some (.ref a), some (.ref lp), some (.bool (decide (p.take o.length = o)))] [(I, oI), (a, lstObj xs' j')] h') ?_ ?_)
     · cases e1 : decide (p.take o.length = o) with
       | false =>
        rw [e1] at F hxs'
        refine isTrue_and (isTrue_plain (ld6 C F (wpAny_truthy_bool ?_)))
        simp only [Bool.false_eq_true, if_false]
        refine ⟨xs', j', _, _, g₂, rfl, Le.rfl', ?_, by omega, F⟩
        simp only [done1, e1, Bool.false_and, Bool.false_eq_true, if_false, List.append_nil]
        exact hxs'
       | true =>
        rw [e1] at F hxs'
        refine isTrue_and (isTrue_plain (ld6 C F (wpAny_truthy_bool ?_)))
        simp only [if_true]
        refine isTrue_and (wpAny_isTrue_Compare1 (ld1 C F (wpAny_Constant_int (P.gt_int (wpAny_truthy_bool ?_)))))
        cases e2 : decide (d > 0) with
        | false =>
         simp only [Bool.false_eq_true, if_false]
         refine ⟨xs', j', _, _, g₂, rfl, Le.rfl', ?_, by omega, F⟩
         simp only [done1, e1, e2, Bool.and_false, Bool.false_eq_true, if_false, List.append_nil]
         exact hxs'
        | true =>
         simp only [if_true]
         refine isTrue_and_nil ?_
         simp only [if_true]
         refine wpAny_execs_cons (wpAny_Expr (appS (h₀ := s.heap) (xt := []) (g₀ := g) (L := env.locals) (N := ["places", "deed", "old", "new", "rows", "place", "under"]) (a := a) (xs := xs') (j := j') (pre := [(I, oI)]) (post := []) (by omega) (ld4 C F ⟨rfl, ⟨_, (F.mt _ (.tail _ (.head _))).1, rfl, rfl⟩, wpAny_BinOp (ld3 C F ?_)⟩)) C.inter rfl)
         refine lsl_drop (h₀ := s.heap) (xt := []) (g₀ := g) (L := env.locals) (N := ["places", "deed", "old", "new", "rows", "place", "under"]) (ld5 C F (C1 (N_len C X₂ F.keep (.head _) (ld2 C F ⟨trivial, lenL F.keep (k2 _ _ (kg' _ _ hlo)) (by omega) fun t1 t2 => ?_⟩))))
         refine ⟨lp, its, kp, oi.length, t1, g₂, _, _, rfl, rfl, by omega, k2 _ _ hlp, F, fun D2 g₃ h' k3 eD2 F => ?_⟩
         refine addL F (k3 _ _ (k2 _ _ (kg' _ _ hln))) eD2 (by rw [List.length_drop]; omega) fun D3 g₄ h' k4 eD3 F => ?_
         refine ⟨g₄, _, F, fun h' F => ?_⟩
         refine wpAny_execs_nil ⟨rfl, xs' ++ [Value.ref D3], j' + 1, h', _, g₄, rfl, k3.tr k4, ?_, by simp; omega, F⟩
         simp only [done1, e1, e2, Bool.and_self, if_true]
         rw [← List.append_assoc, List.map_append]
         refine (hxs'.up (k3.tr k4)).append (.cons (.list eD3 ?_) .nil)
         rw [List.map_append, holen, List.map_drop]
         exact (((hdn.up kg').up k2).up (k3.tr k4)).append (((hdp.up k2).up (k3.tr k4)).drop _)
     · rintro s₃ ⟨xs', j', h', t', g₃, rfl, k3, hxs', hxl', F⟩
       refine wpAny_execs_nil (turn_next (k2.tr k3) F ⟨xs', j', _, _, rfl, X₂.up k3, ?_, hxl', rfl⟩)
       have e : r.take (i + 1) = r.take i ++ [p] := by rw [List.take_add_one, hp]; rfl
       rw [e, doneR, List.flatMap_append]
       simpa [doneR] using hxs'
 · rintro g' vs' mu' h tk kg' ⟨xs, j, u1, u2, rfl, X', hxs, hxl, rfl⟩ F
   obtain ⟨g₂, k2, eD, F₂⟩ := F.freeze (pre := []) (post := []) rfl ha
   refine wpAny_execs_cons (wpAny_Return_some (ld4 C F₂ ?_))
   refine ends F₂ (.list eD ?_)
   rw [hlen, List.take_length] at hxs
   exact hxs.up k2
end
end Mine
namespace Mine
open PySem PySem.W PyProof.Rows PySem.Calls PySem.Spec
section
variable {prog : Program} {w : World} {A : Around} {s : Shared} {env : Env} {E : Value → Shared → Prop}
variable {h₀ g₀ g : Heap} {xt : List Addr} {L : Addr} {N Gl : List Str} {vs : List (Option Value)} {mu : List (Addr × Obj)}
def WTurn (h₀ g₀ : Heap) (xt : List Addr) (L : Addr) (N : List Str) (s : Shared) (g : Heap) (n : Nat) (J : Nat → Heap → List (Option Value) → List (Addr × Obj) → Prop) (Q : Flow → Shared → Prop) (f : Flow) (s' : Shared) : Prop :=
 match f with
 | .brk => Q .next s'
 | .ret v => Q (.ret v) s'
 | _ => ∃ m g' vs' mu' h' t', m < n ∧ s' = { s with heap := h', toks := t' } ∧ Le g g' ∧ St h₀ xt g₀ g' L N vs' mu' h' ∧ J m g' vs' mu'
theorem wturn {g' h' : Heap} {t' n : Nat} {J : Nat → Heap → List (Option Value) → List (Addr × Obj) → Prop} {Q : Flow → Shared → Prop} (m : Nat) (hm : m < n) (k : Le g g') (F : St h₀ xt g₀ g' L N vs mu h') (j : J m g' vs mu) :
 WTurn h₀ g₀ xt L N s g n J Q .next { s with heap := h', toks := t' } := ⟨m, g', vs, mu, h', t', hm, rfl, k, F, j⟩
theorem While_ {test : Expr} {body : List Stmt} {pos : Pos} {Q : Flow → Shared → Prop} (J : Nat → Heap → List (Option Value) → List (Addr × Obj) → Prop) (n₀ : Nat) (F : St h₀ xt g₀ g L N vs mu s.heap) (hj : J n₀ g vs mu)
 (turn : ∀ n g' vs' mu' h tk, Le g g' → J n g' vs' mu' → St h₀ xt g₀ g' L N vs' mu' h →
  wpAny (model prog w) A (isTrue test env (eval test env)) (fun b s₂ => if b = true then wpAny (model prog w) A (execs body env) (WTurn h₀ g₀ xt L N s g' n J Q) no s₂ else Q .next s₂) no { s with heap := h, toks := tk }) :
 wpAny (model prog w) A (exec (.While test body [] pos) env) Q E s := by
 refine wpAny_While (codeAny_mono (R := fun r s' => match r with | .ok f => Q f s' | .error _ => False) ?_ fun r s' h' => ?_)
 · refine codeAny_whileLoop (fun n s' => ∃ h tk g' vs' mu', s' = { s with heap := h, toks := tk } ∧ Le g g' ∧ J n g' vs' mu' ∧ St h₀ xt g₀ g' L N vs' mu' h) ?_ n₀ ⟨s.heap, s.toks, g, vs, mu, rfl, Le.rfl', hj, F⟩
   rintro n s' ⟨h, tk, g', vs', mu', rfl, k, j, F'⟩
   refine wpAny_no (wpAny_mono (turn n g' vs' mu' h tk k j F') (fun b s₂ h₂ => ?_) fun _ _ e => e)
   cases b with
   | false => exact wpAny_execs_nil h₂
   | true =>
    refine wpAny_no (wpAny_mono h₂ (fun f s₃ h₃ => ?_) fun _ _ e => e)
    have fin : (∃ m g'' vs'' mu'' h'' t'', m < n ∧ s₃ = { s with heap := h'', toks := t'' } ∧ Le g' g'' ∧ St h₀ xt g₀ g'' L N vs'' mu'' h'' ∧ J m g'' vs'' mu'') →
     ∃ m, m < n ∧ ∃ h tk g' vs' mu', s₃ = { s with heap := h, toks := tk } ∧ Le g g' ∧ J m g' vs' mu' ∧ St h₀ xt g₀ g' L N vs' mu' h := by
     rintro ⟨m, g'', vs'', mu'', h'', t'', hm, rfl, k2, F₂, j₂⟩
     exact ⟨m, hm, h'', t'', g'', vs'', mu'', rfl, k.tr k2, j₂, F₂⟩
    cases f with
    | next => exact fin h₃
    | cont => exact fin h₃
    | brk => exact h₃
    | ret v => exact h₃
 · cases r with
   | ok f => exact h'
   | error e => exact h'.elim
theorem popS {o : Expr} {apos pos : Pos} {a : Addr} {xs : List Value} {y : Value} {j : Nat} {pre post : List (Addr × Obj)} {Q : Value → Shared → Prop} (hz : (xs ++ [y]).length ≤ 16777216)
 (h : wpAny (model prog w) A (eval o env) (fun ov s₁ => ov = .ref a ∧ ∃ g₁ vs₁, St h₀ xt g₀ g₁ L N vs₁ (pre ++ (a, lstObj (xs ++ [y]) j) :: post) s₁.heap ∧
  ∀ h' j', St h₀ xt g₀ g₁ L N vs₁ (pre ++ (a, lstObj xs j') :: post) h' → Q y { s₁ with heap := h' }) E s)
 (hbase : attributeBase o ("pop" : Str) env (eval o env) = eval o env := by rfl) (hline : (apos.endLine == pos.line) = true := by rfl) :
 wpAny (model prog w) A (eval (.Call (.Attribute o "pop" apos) [] [] pos) env) Q E s := by
 refine Call_method0 hbase hline (wpAny_mono h (fun ov s₁ h₁ => ?_) fun _ _ e => e)
 obtain ⟨rfl, g₁, vs₁, F, hq⟩ := h₁
 have ho := (F.mt (a, lstObj (xs ++ [y]) j) (by simp)).1
 refine ⟨"list", "list.pop", PySem.F.plainAttrs_list, PySem.F.slot_list_pop, PySem.F.type_list_pop, ⟨_, ho, rfl⟩, fun b e => by cases e; exact ⟨_, ho, rfl⟩, ?_⟩
 refine callWith_any rfl (args0 ⟨trivial, ?_⟩)
 refine call_meets PySem.F.slot_list_pop ⟨_, ho, rfl⟩ PySem.F.entry_list_pop (PySem.F.args_list_pop_1 _) (MeetsSeq.list_pop_last a (xs ++ [y]).toArray j y (by simp) (by show _ ≤ 16777216; simpa using hz)) ⟨ho, ?_⟩
 have e : Obj.mapSeq (fun (zs : Array Value) => zs.eraseIdxIfInBounds ((xs ++ [y]).toArray.size - 1)) (lstObj (xs ++ [y]) j) = lstObj xs (j + 1) := by
  have e1 : (xs ++ [y]).toArray.eraseIdxIfInBounds ((xs ++ [y]).toArray.size - 1) = xs.toArray := by
   rw [List.eraseIdxIfInBounds_toArray]
   simp [List.eraseIdx_append_of_length_le]
  have e2 : (xs.toArray.size == (xs ++ [y]).toArray.size) = false := by simp
  show ({ cls := .type "list", dict := none, data := .seq ((xs ++ [y]).toArray.eraseIdxIfInBounds ((xs ++ [y]).toArray.size - 1)) (if ((xs ++ [y]).toArray.eraseIdxIfInBounds ((xs ++ [y]).toArray.size - 1)).size == (xs ++ [y]).toArray.size then j else j + 1), slots := #[] } : Obj) = _
  rw [e1, e2]
  rfl
 refine hq _ (j + 1) (F.turn rfl (Heap.SameBut.update ..) ?_)
 rw [Heap.get?_update_self _ ho (by rw [e]; rfl), e]
end
end Mine
namespace Mine
set_option maxHeartbeats 1000000
open PySem PySem.W PyProof.Rows PySem.Calls PySem.Spec
section
variable {prog : Program} {w : World} {A : Around} {s : Shared} {env : Env} {E : Value → Shared → Prop} {g : Heap}
theorem neH {a b : Addr} {xs ys : List Value} {j k : Nat} {dx dy : List PyData} {Q : Value → Shared → Prop} (kk : Le g s.heap) (ha : s.heap.get? a = some (lstObj xs j)) (hb : s.heap.get? b = some (lstObj ys k)) (hx : Dts g xs dx) (hy : Dts g ys dy)
 (sa : SeqAt.shaped (.list dx) = true) (sb : SeqAt.shaped (.list dy) = true) (hu : A.units + 65 < cLine) (h : Q (.bool (!PyData.eqvAll dx dy)) s) : wpAny (model prog w) A (compareOp .NotEq (.ref a) (.ref b)) Q E s := by
 obtain ⟨as, ra⟩ := (hx.up kk).reads
 obtain ⟨bs, rb⟩ := (hy.up kk).reads
 exact ne_dataH (.list ha rfl rfl (by simpa using ra)) (.list hb rfl rfl (by simpa using rb)) sa sb (by omega) h
def isT (x : Str) : Value → Bool
 | .str a _ => a == x
 | _ => false
theorem notIn2 {l : Addr} {x a b : Str} {t t1 t2 : Tok} {j : Nat} {Q : Value → Shared → Prop} (hl : s.heap.get? l = some (lstObj [.str a t1, .str b t2] j)) (h : Q (.bool (!(a == x || b == x))) s) : wpAny (model prog w) A (compareOp .NotIn (.str x t) (.ref l)) Q E s := by
 refine SeqAt.notIn_listAt (isT x) ⟨_, hl, rfl, _, rfl⟩ (fun y hy => ?_) (by simpa [isT] using h)
 simp only [List.mem_toArray, List.mem_cons, List.not_mem_nil, or_false] at hy
 rcases hy with rfl | rfl
 · exact SeqAt.EqAt.str_str _ _ _ _
 · exact SeqAt.EqAt.str_str _ _ _ _
end
section
variable {w : World} {A : Around} {s : Shared} {g : Heap} {n : Nat}
abbrev tails (tops : Nat → Str) (m : Nat) : List PyData := (List.range m).map fun i => PyData.str (tailS (tops i))
theorem hung_gives (X : Stat g) (kg : Le g s.heap) (hA : Ok A (n + 4)) (path old new : Str) (t1 t2 t3 : Tok) (tops acc : Nat → Str) (k : Nat) (hk : k ≤ 1000) (h0 : tops 0 = path)
 (hstep : ∀ i < k, (old == tops i || "/" == tops i) = false ∧ tops (i + 1) = splitS (tops i)) (hend : (old == tops k || "/" == tops k) = true) (hl : ∀ i ≤ k, (tops i).length ≤ 1000 ∧ (acc i).length ≤ 1000 ∧ (tailS (tops i)).length ≤ 1000)
 (hacc : acc k = new) (hjoin : ∀ m < k, acc m = joinS (acc (m + 1)) (tailS (tops m))) (hsh : ∀ m, m ≤ k → SeqAt.shaped (.list (tails tops m)) = true) :
 Gives pw w A (.call (.ref 404) ⟨[.str path t1, .str old t2, .str new t3], []⟩) s [] g (fun _ _ x => ∃ t, x = .str (acc 0) t) := by
 subst h0
 refine Gives.go 21 [.str (tops 0) t1, .str old t2, .str new t3] ["path", "old", "new"] ["names", "top", "name"] ["split", "join"] rfl X kg hA rfl (BindsTo.of_eq rfl) rfl (by decide +kernel) fun h₁ env A' t' hA' C F => ?_
 refine wpAny_execs_cons (wpAny_Assign_Name (lstE (sp0 (newOwn F fun a h' F ha => ?_))))
 refine st3 C F fun h' F => ?_
 refine wpAny_execs_cons (wpAny_Assign_Name (ld0 C F (st4 C F fun h' F => ?_)))
 dsimp only
 refine wpAny_execs_cons (While_ (fun m g' vs' mu' => ∃ i xs j u t4, m = k - i ∧ i ≤ k ∧ mu' = [(a, lstObj xs j)] ∧ Stat g' ∧ Dts g' xs (tails tops i) ∧ vs' = [some (.str (tops 0) t1), some (.str old t2), some (.str new t3), some (.ref a), some (.str (tops i) t4), u]) k F ⟨0, [], 0, _, _, rfl, Nat.zero_le _, rfl, X, .nil, rfl⟩ ?_)
 rintro m g' vs' mu' h tk kg' ⟨i, xs, j, u, t4, rfl, hik, rfl, X', hxs, rfl⟩ F
 refine wpAny_isTrue_Compare1 (ld4 C F (lstE (sp1 (ld1 C F (sp1 (Constant_str (sp0 ?_)))))))
 refine newLst F fun l g₂ h' k2 eD F => ?_
 refine notIn2 (F.keep _ _ eD) (wpAny_truthy_bool ?_)
 have X₂ := X'.up k2
 rcases Nat.lt_or_ge i k with hlt | hge
 · have hs := hstep i hlt
   rw [hs.1]
   simp only [Bool.not_false, if_true]
   refine wpAny_execs_cons (Assign_Tuple ?_)
   refine C1 (N_split C X₂ F.keep (.head _) (ld4 C F ⟨⟨_, F.keep _ _ (X₂.fnAt 15 rfl)⟩, ?_⟩))
   refine call_c F (split_gives X₂ F.keep hA' (tops i) t4 (hl i hik).1) fun g₃ h' t' v k3 F e => ?_
   obtain ⟨T, u1, u2, rfl, eT⟩ := e
   refine asT hA'.handled F eT fun h' F => ?_
   refine assignInOrder_cons (assign_Name (st4 C F fun h' F => ?_))
   refine assignInOrder_cons (assign_Name (st5 C F fun h' F => assignInOrder_nil ?_))
   dsimp only
   have hxl : xs.length = i := by simpa using hxs.len
   refine wpAny_execs_cons (wpAny_Expr (appS (h₀ := s.heap) (xt := []) (g₀ := g) (L := env.locals) (N := ["path", "old", "new", "names", "top", "name"]) (a := a) (xs := xs) (j := j) (pre := []) (post := []) (by omega) (ld3 C F ⟨rfl, ⟨_, (F.mt _ (.head _)).1, rfl, rfl⟩, ld5 C F ⟨g₃, _, F, fun h' F => ?_⟩⟩)) C.inter rfl)
   refine wpAny_execs_nil (wturn (k - (i + 1)) (by omega) (k2.tr k3) F ⟨i + 1, _, _, _, u1, rfl, by omega, rfl, X₂.up k3, ?_, by rw [hs.2]⟩)
   have e : tails tops (i + 1) = tails tops i ++ [.str (tailS (tops i))] := by simp [tails, List.range_succ]
   rw [e]
   exact (hxs.up (k2.tr k3)).snoc (.str _ _)
 · have e : i = k := by omega
   subst e
   rw [hend]
   simp only [Bool.not_true, Bool.false_eq_true, if_false]
   refine wpAny_execs_cons (wpAny_Assign_Name (ld2 C F (st4 C F fun h' F => ?_)))
   refine wpAny_execs_cons (While_ (fun m g' vs' mu' => ∃ xs j t4, m ≤ i ∧ mu' = [(a, lstObj xs j)] ∧ Stat g' ∧ Dts g' xs (tails tops m) ∧ vs' = [some (.str (tops 0) t1), some (.str old t2), some (.str new t3), some (.ref a), some (.str (acc m) t4), u]) i F ⟨xs, j, t3, Nat.le_refl _, rfl, X₂, hxs.up k2, by rw [hacc]⟩ ?_)
   rintro m g' vs' mu' h tk kg' ⟨xs, j, t4, hm, rfl, X', hxs, rfl⟩ F
   refine wpAny_isTrue_Compare1 (ld3 C F (lstE (sp0 ?_)))
   refine newLst F fun l2 g₃ h' k3 eD2 F => ?_
   refine neH (g := g₃) F.keep (F.mt _ (.head _)).1 (F.keep _ _ eD2) (hxs.up k3) .nil (hsh m hm) rfl hA'.c (wpAny_truthy_bool ?_)
   have X₃ := X'.up k3
   have hxl : xs.length = m := by simpa using hxs.len
   cases m with
   | zero =>
    have e : PyData.eqvAll (tails tops 0) [] = true := rfl
    rw [e]
    simp only [Bool.not_true, Bool.false_eq_true, if_false]
    refine wpAny_execs_cons (wpAny_Return_some (ld4 C F ?_))
    exact ends F ⟨_, rfl⟩
   | succ m =>
    have e : PyData.eqvAll (tails tops (m + 1)) [] = false := by simp [tails, List.range_succ_eq_map, PyData.eqvAll]
    rw [e]
    simp only [Bool.not_false, if_true]
    obtain ⟨ys, y, rfl⟩ : ∃ ys y, xs = ys ++ [y] := by
     rcases List.eq_nil_or_concat xs with q | ⟨ys, y, q⟩
     · rw [q] at hxl; simp at hxl
     · exact ⟨ys, y, by simpa using q⟩
    have hyl : ys.length = m := by simpa using hxl
    have e2 : tails tops (m + 1) = tails tops m ++ [.str (tailS (tops m))] := by simp [tails, List.range_succ]
    rw [e2] at hxs
    obtain ⟨d, hd, hdt⟩ := hxs.get (i := m) (v := y) (by rw [List.getElem?_append_right (by omega), hyl]; simp)
    have hd' : d = .str (tailS (tops m)) := by
     rw [List.getElem?_append_right (by simp)] at hd
     simpa using hd.symm
    subst hd'
    obtain ⟨u5, rfl⟩ := hdt.strInv
    have hys : Dts g' ys (tails tops m) := by
     have := hxs.take m
     rw [List.take_append_of_le_length (by omega), List.take_of_length_le (by omega), List.take_append_of_le_length (by simp), List.take_of_length_le (by simp)] at this
     exact this
    refine wpAny_execs_cons (wpAny_Assign_Name ?_)
    refine C2 (N_join C X₃ F.keep (.tail _ (.head _)) (ld4 C F ?_))
    refine popS (h₀ := s.heap) (xt := []) (g₀ := g) (L := env.locals) (N := ["path", "old", "new", "names", "top", "name"]) (a := a) (xs := ys) (j := j) (pre := []) (post := []) (by simp; omega) (ld3 C F ⟨rfl, g₃, _, F, fun h' j' F => ?_⟩)
    refine ⟨⟨_, F.keep _ _ (X₃.fnAt 14 rfl)⟩, ?_⟩
    refine call_c F (join_gives X₃ F.keep hA' (acc (m + 1)) (tailS (tops m)) t4 u5 (hl _ hm).2.1 (hl m (by omega)).2.2) fun g₄ h' t' v k4 F e => ?_
    obtain ⟨t6, rfl⟩ := e
    refine st4 C F fun h' F => ?_
    refine wpAny_execs_nil (wturn m (by omega) (k3.tr k4) F ⟨ys, j', t6, by omega, rfl, X₃.up k4, hys.up (k3.tr k4), by rw [hjoin m (by omega)]⟩)
end
end Mine
namespace Mine
open PySem PySem.W PyProof.Rows PySem.Calls PySem.Spec
def chkK (fd : FuncData) (N Gl Cl : List Str) : Bool :=
 decide (fd.scope.kind = .function) && !fd.scope.isCoroutine && !fd.scope.isGenerator && decide N.Nodup && N.all (named fd.scope .local) && Gl.all (named fd.scope .globalImplicit) && Cl.all (named fd.scope .cell) && decide (fd.globals = mainGlobals) && decide (fd.builtins = builtinsNs) && decide (fd.closure = [])
theorem Gives.goC {w : World} {A : Around} {s : Shared} {g : Heap} {P : Heap → Heap → Value → Prop} {fa : Addr} {fd : FuncData} {body : List Stmt} {n : Nat}
 (i : Nat) (as : List Value) (ps N Gl Cl : List Str) (vs : List (Option Value)) (hi : fnList[i]? = some (fa, fd)) (X : Stat g) (kg : Le g s.heap) (hA : Ok A (n + 1))
 (hbody : fd.body = .stmts body) (hbind : bindArgs fd ⟨as, []⟩ = pure (ps.zip as)) (hc : chkK fd N Gl Cl = true)
 (hkn : ∀ n, ∀ x ∈ ps, fd.scope.names.lookup x = some .local ∨ (fd.scope.names.lookup x = some .cell ∧ ((cellsFrom n fd.scope.names []).lookup x).isSome = true))
 (hvl : vs.length = N.length) (hvs : ∀ (j : Nat) (x : Str), N[j]? = some x → bindL (fun y => fd.scope.names.lookup y) (ps.zip as) (fun _ => none) x = (vs[j]?).join)
 (h : ∀ h₁ env A' t', Ok A' n → Cx env N Gl → env.cells = cellsFrom (s.heap.objs.size + 1) fd.scope.names [] → (∀ x ∈ Cl, ∀ c, env.cells.lookup x = some c → CellAt env x c) →
  (∀ x c, env.cells.lookup x = some c → h₁.IsCell c (bindC (fun y => fd.scope.names.lookup y) (ps.zip as) (fun _ => none) x) ∧ s.heap.objs.size < c) → (env.locals = s.heap.objs.size) →
  St s.heap [] g g env.locals N vs [] h₁ → wpAny (model pw w) A' (execs body env) (Ends s [] g P) (fun _ _ => False) { s with heap := h₁, toks := t' }) :
 Gives pw w A (.call (.ref fa) ⟨as, []⟩) s [] g P := by
 simp only [chkK, Bool.and_eq_true, decide_eq_true_eq, List.all_eq_true, named, Bool.not_eq_true'] at hc
 obtain ⟨⟨⟨⟨⟨⟨⟨⟨⟨c1, c2⟩, c3⟩, c4⟩, c5⟩, c6⟩, c7⟩, c8⟩, c9⟩, c10⟩ := hc
 intro R hR
 refine codeAny_call_cells hA.room (kg _ _ (X.fnAt i hi)) rfl (X.lim.keeps kg) ((X.cdAt i hi).keeps kg) hbody hbind c10 (fun x hx => hkn _ _ (List.of_mem_zip hx).1) (fun s₁ x => ?_) c2 c3 c1
 obtain ⟨h₁, t', rfl⟩ := x.toInCall.same
 have C : Cx (callEnvC fd s.heap.objs.size fa) N Gl := ⟨c1, c4, fun j y hy => c5 y (List.mem_of_getElem? hy), fun y hy => c6 y hy, c8, c9⟩
 have F : St s.heap [] g g (callEnvC fd s.heap.objs.size fa).locals N vs [] h₁ := by
  refine ⟨hvl, ⟨_, x.toInCall.ns, fun j y hy => hvs j y hy⟩, fun b o _ e => x.toInCall.keep b o e, kg.tr fun b o e => x.toInCall.keep b o e, Nat.le_refl _, ?_, fun p hp => (nomatch hp), .nil, Le.rfl', ?_⟩
  · show g.get? s.heap.objs.size = none
    cases q : g.get? s.heap.objs.size with
    | none => rfl
    | some o => exact absurd (Heap.lt_size (kg _ _ q)) (Nat.lt_irrefl _)
  · intro b o e e0; rw [e] at e0; cases e0
 refine wpAny_mono (h h₁ (callEnvC fd s.heap.objs.size fa) _ t' hA.deeper C rfl (fun y hy c hcc => ⟨c1, (c7 y hy).1, hcc, (c7 y hy).2⟩) (fun y c hcc => ⟨x.cell y c hcc, x.above y c (mem_of_lookup hcc)⟩) rfl F) (fun fl s' e => ?_) fun _ _ e => e.elim
 obtain ⟨g', h', t', rfl, o, p⟩ := e
 exact hR g' h' t' _ o p
theorem St.cell {h₀ g₀ g h : Heap} {xt : List Addr} {L c : Addr} {N : List Str} {vs : List (Option Value)} {mu : List (Addr × Obj)} {u : Option Value} (F : St h₀ xt g₀ g L N vs mu h) (hc : h.IsCell c u) (hL : L < c) (hg : g.get? c = none) (hm : ∀ p ∈ mu, p.1 ≠ c) :
 ∃ o, o.data = .cell u ∧ St h₀ xt g₀ g L N vs ((c, o) :: mu) h := by
 obtain ⟨o, ho, hd⟩ := hc
 refine ⟨o, hd, F.len, F.ns, F.base, F.keep, F.low, F.outg, fun p hp => ?_, ?_, F.mono, F.fresh⟩
 · rcases List.mem_cons.mp hp with rfl | hp
   · exact ⟨ho, Nat.ne_of_gt hL, hg, .inr (Nat.le_trans F.low (Nat.le_of_lt hL))⟩
   · exact F.mt p hp
 · rw [List.map_cons]
   exact List.nodup_cons.mpr ⟨fun hm' => by obtain ⟨p, hp, e⟩ := List.mem_map.mp hm'; exact hm p hp e, F.nd⟩
theorem none_above {g h : Heap} (k : Le g h) {c : Addr} (hc : h.objs.size ≤ c) : g.get? c = none := by
 cases q : g.get? c with
 | none => rfl
 | some o => exact absurd (Heap.lt_size (k _ _ q)) (Nat.not_lt.mpr hc)
section
variable {prog : Program} {w : World} {A : Around} {s : Shared} {env : Env} {E : Value → Shared → Prop}
variable {h₀ g₀ g : Heap} {xt : List Addr} {L : Addr} {N Gl : List Str} {vs : List (Option Value)} {mu : List (Addr × Obj)}
theorem modN {a b : Nat} {t u : Tok} {Q : Value → Shared → Prop} (hb : 0 < b) (h : ∀ t' k, Q (.int ((a % b : Nat) : Int) t') { s with toks := k }) : wpAny (model prog w) A (binaryOp .Mod (.int (a : Int) t) (.int (b : Int) u)) Q E s := by
 refine mod_int (by omega) ?_
 have e : Int.fmod (a : Int) (b : Int) = ((a % b : Nat) : Int) := by rw [Int.fmod_eq_emod_of_nonneg _ (by omega)]; rfl
 rw [e]; exact h _ _
theorem divN {a b : Nat} {t u : Tok} {Q : Value → Shared → Prop} (hb : 0 < b) (hb2 : b < 1073741824) (h : ∀ t' k, Q (.int ((a / b : Nat) : Int) t') { s with toks := k }) : wpAny (model prog w) A (binaryOp .FloorDiv (.int (a : Int) t) (.int (b : Int) u)) Q E s := by
 refine floordiv_int (by omega) ?_ (.inl ?_)
 · have e : Int.fdiv (a : Int) (b : Int) = ((a / b : Nat) : Int) := by rw [Int.fdiv_eq_ediv_of_nonneg _ (by omega)]; rfl
   rw [e]; exact h _ _
 · exact PyProof.noPylong_small (by simpa using hb2)
theorem powN {a n : Nat} {t u : Tok} {Q : Value → Shared → Prop} (ha : a < 2 ^ 60) (hn : n ≤ 1000) (h : ∀ t' k, Q (.int ((a ^ n : Nat) : Int) t') { s with toks := k }) : wpAny (model prog w) A (binaryOp .Pow (.int (a : Int) t) (.int (n : Int) u)) Q E s := by
 refine pow_int_small (by omega) (by omega) (by simp; omega) ?_
 have e : ((a : Int) ^ (n : Int).toNat) = ((a ^ n : Nat) : Int) := by simp
 rw [e]; exact h _ _
theorem itemL {l : Addr} {xs : List Value} {k i : Nat} {t : Tok} {x : Value} {Q : Value → Shared → Prop} (kk : Le g s.heap) (hl : g.get? l = some (lstObj xs k)) (hx : xs[i]? = some x) (hi : i < 2 ^ 40) (h : Q x s) : ItemOn (model prog w) A E (.ref l) (.int (i : Int) t) Q s :=
 ⟨"list", _, list_getitem_lookup, ⟨_, kk _ _ hl, rfl⟩, wpAny_getItem_list ⟨_, kk _ _ hl, rfl, _, rfl⟩ (by omega) (by omega) (by simpa using hx) h⟩
abbrev ritObj (a n c : Int) : Obj := { cls := .type "range_iterator", data := .fields #[rawInt a, rawInt n, rawInt c] }
theorem It.range {target : Expr} {I : Addr} {a n : Nat} {g h : Heap} (hh : A.handled = none) (hi : h.get? I = some (ritObj a n 1))
 (hgo : ∀ (i : Nat) (v : Value) (s : Shared) (Q : Unit → Shared → Prop), Q () s → wpAny (model prog w) A (letOwnedTupleGo target (.ref I) v) Q no s) :
 It prog w A target I n (fun i v => ∃ t, v = .int ((a + i : Nat) : Int) t) g (fun i h => IsRangeIter h I ((a : Int) + (i : Nat) * 1) ((n : Int) - (i : Nat)) 1) ∧ IsRangeIter h I ((a : Int) + ((0 : Nat) : Int) * 1) ((n : Int) - ((0 : Nat) : Int)) 1 := by
 refine ⟨⟨⟨[I], (Walks.range (prog := prog) (w := w) (A := A) hh I (a : Int) 1 n).weaken fun i v hv => ?_, fun b hb => .inl (List.mem_singleton.mp hb)⟩, fun i h hw => ⟨_, hw⟩, fun i v s Q hw hq => hgo i v s Q hq⟩, ?_⟩
 · obtain ⟨t, rfl⟩ := hv
   exact ⟨t, by simp⟩
 · simpa [IsRangeIter] using hi
end
abbrev rngObj (a b : Int) (t u v : Tok) : Obj := { cls := .type "range", data := .fields #[.int a t, .int b u, .int 1 v] }
section
variable {prog : Program} {w : World} {A : Around} {s : Shared} {env : Env} {E : Value → Shared → Prop}
variable {h₀ g₀ g : Heap} {xt : List Addr} {L : Addr} {N Nn Gl No Go : List Str} {vs : List (Option Value)} {mu : List (Addr × Obj)}
theorem rng1 {n : Int} {t : Tok} {Q : Value → Shared → Prop} (F : St h₀ xt g₀ g L N vs mu s.heap)
 (h : ∀ r g' h' t' u v k, Le g g' → g'.get? r = some (rngObj 0 n t' u v) → St h₀ xt g₀ g' L N vs mu h' → Q (.ref r) { s with heap := h', toks := k }) : wpAny (model prog w) A (call (.type "range") [.int n t]) Q E s := by
 refine call_range_1 ?_
 obtain ⟨g', k', e, F₂⟩ := F.made (rngObj 0 n s.toks t (s.toks + 1))
 exact h _ g' _ _ _ _ _ k' e F₂
theorem rng2 {a b : Int} {t t2 : Tok} {Q : Value → Shared → Prop} (F : St h₀ xt g₀ g L N vs mu s.heap)
 (h : ∀ r g' h' t' u v k, Le g g' → g'.get? r = some (rngObj a b t' u v) → St h₀ xt g₀ g' L N vs mu h' → Q (.ref r) { s with heap := h', toks := k }) : wpAny (model prog w) A (call (.type "range") [.int a t, .int b t2]) Q E s := by
 refine call_range_2 ?_
 obtain ⟨g', k', e, F₂⟩ := F.made (rngObj a b t t2 s.toks)
 exact h _ g' _ _ _ _ _ k' e F₂
theorem rsize (a b : Nat) : Builtin.Range.rangeSize (a : Int) (b : Int) 1 = ((b - a : Nat) : Int) := by
 rw [rangeSize_one]; split <;> omega
theorem each_range {x : Str} {p : Pos} {body : List Stmt} {r : Addr} {a b : Nat} {t u v : Tok} {Q : Flow → Shared → Prop}
 (J : Nat → Heap → List (Option Value) → List (Addr × Obj) → Prop) (hh : A.handled = none) (F : St h₀ xt g₀ g L N vs mu s.heap) (hl : g.get? r = some (rngObj a b t u v)) (ha : a < 2 ^ 60) (hb : b < 2 ^ 60) (hj : J 0 g vs mu)
 (turn : ∀ i t g' vs' mu' I oI h tk, i < b - a → Le g g' → J i g' vs' mu' → St h₀ xt g₀ g' L N vs' ((I, oI) :: mu') h →
  wpAny (model prog w) A (storeName env x (.int ((a + i : Nat) : Int) t)) (fun _ s₁ => wpAny (model prog w) A (execs body env) (Turn h₀ g₀ xt L N s g' I oI (J (i + 1)) Q) no s₁) no { s with heap := h, toks := tk })
 (done : ∀ g' vs' mu' h tk, Le g g' → J (b - a) g' vs' mu' → St h₀ xt g₀ g' L N vs' mu' h → Q .next { s with heap := h, toks := tk }) :
 wpAny (model prog w) A (pyIter (.ref r)) (fun it s₂ => codeAny (model prog w) A (.forLoop (.Name x p) it body [] env) (fun r s' => match r with | .ok f => Q f s' | .error _ => False) s₂) no s := by
 refine wpAny_pyIter_range (F.keep _ _ hl) (small_one (by omega) (by omega) (by omega) (by omega)) ?_
 rw [rsize]
 have F₁ := F.own (ritObj (a : Int) ((b - a : Nat) : Int) 1)
 obtain ⟨hI, h0⟩ := It.range (prog := prog) (w := w) (A := A) (target := .Name x p) (g := g) hh (F₁.mt _ (.head _)).1 fun i v s Q h => go_name h
 exact forLoop_ J hI h0 F₁ hj (fun i v g' vs' mu' oI h tk hi hP hg hJ F' => by
  obtain ⟨t, rfl⟩ := hP
  exact wpAny_assign_Name (turn i t g' vs' mu' _ oI h tk hi hg hJ F')) done
theorem It.lt {target : Expr} {I : Addr} {n : Nat} {P : Nat → Value → Prop} {Wst : Nat → Heap → Prop} (hI : It prog w A target I n P g Wst) : It prog w A target I n (fun i v => i < n ∧ P i v) g Wst := by
 obtain ⟨⟨fp, W, hfp⟩, alive, go⟩ := hI
 exact ⟨⟨fp, { sub := W.sub, frame := W.frame, item := fun i s Q E hi st hQ => W.item i s Q E hi st fun v h' tk hP a b => hQ v h' tk ⟨hi, hP⟩ a b, done := W.done, self := W.self }, hfp⟩, alive, go⟩
theorem cellIn {sc : Scope} {cl : List (Str × Addr)} {C c : Addr} {x : Str} (h : CellAt env x c) (hf : sc.names.lookup x = some .free) (hk : sc.kind = .function) (hc : cl.lookup x = some c) : CellAt (compEnvC sc cl C env) x c :=
 ⟨hk, lookup_relabel_cell h.kind h.isC hf, hc, h.nd⟩
theorem cmpE_range {elt iter : Expr} {x : Str} {p : Pos} {ifs : List Expr} {scope : Scope} {pos : Pos} {cl : List (Str × Addr)} {r : Addr} {a b : Nat} {t u v : Tok} {Q : Value → Shared → Prop}
 (J : Nat → Heap → List Value → Prop) (hh : A.handled = none) (hc : chkC scope Nn Gl = true) (C₀ : Cx env No Go) (F : St h₀ xt g₀ g L N vs mu s.heap) (hl : g.get? r = some (rngObj a b t u v)) (ha : a < 2 ^ 60) (hb : b < 2 ^ 60) (hj : J 0 g []) (hn : b - a ≤ sizeLine)
 (turn : CTurn prog w A env scope cl elt (.Name x p) ifs Nn Gl g (fun i v => i < b - a ∧ ∃ t, v = .int ((a + i : Nat) : Int) t) J)
 (done : ∀ g₁ g' D h' tk ys, Le g g' → Le g₁ g' → J (b - a) g₁ ys → g'.get? D = some (lst ys) → St h₀ xt g₀ g' L N vs mu h' → Q (.ref D) { s with heap := h', toks := tk }) :
 wpAny (model prog w) A (pyIter (.ref r)) (CompAt prog w A env scope cl (.ListComp elt [⟨.Name x p, iter, ifs, 0⟩] scope pos) none Q) no s := by
 refine wpAny_pyIter_range (F.keep _ _ hl) (small_one (by omega) (by omega) (by omega) (by omega)) ?_
 rw [rsize]
 have F₁ := F.own (ritObj (a : Int) ((b - a : Nat) : Int) 1)
 obtain ⟨hI, h0⟩ := It.range (prog := prog) (w := w) (A := A) (target := .Name x p) (g := g) hh (F₁.mt _ (.head _)).1 fun i v s Q h => go_name h
 exact cmpE J hc C₀ F₁ hI.lt h0 hj hn turn done
end
end Mine
namespace Mine
set_option maxHeartbeats 1000000
open PySem PySem.W PyProof.Rows PySem.Calls PySem.Spec
def kindsN (n : Nat) : Pl := [[0], [0, 0], [10], [153], [160, n / 500 % 256]]
def placeN (n : Nat) : Pl := (List.range (n % 4)).map fun i => (kindsN n).getD (n / 4 / 5 ^ i % 5) []
section
variable {w : World} {A : Around} {s : Shared} {g : Heap} {n : Nat}
theorem place_gives (X : Stat g) (kg : Le g s.heap) (hA : Ok A (n + 1)) (m : Nat) (t : Tok) (hm : m < 100000) :
 Gives pw w A (.call (.ref 380) ⟨[.int (m : Int) t], []⟩) s [] g (fun g' _ x => Dt g' x (dPlace (placeN m))) := by
 refine Gives.goC 17 [.int (m : Int) t] ["number"] [] ["range"] ["number", "kinds"] [] rfl X kg hA rfl rfl (by decide +kernel) (fun n x hx => ?_) rfl (fun j x hx => by simp at hx) fun h₁ env A' t' hA' C hcl hC hIs hL F => ?_
 · simp only [List.mem_cons, List.not_mem_nil, or_false] at hx
   subst hx
   exact .inr ⟨by decide +kernel, rfl⟩
 have c1 : env.cells.lookup ("number" : Str) = some (s.heap.objs.size + 1) := by rw [hcl]; rfl
 have c2 : env.cells.lookup ("kinds" : Str) = some (s.heap.objs.size + 1 + 1) := by rw [hcl]; rfl
 have K1 := hC _ (.head _) _ c1
 have K2 := hC _ (.tail _ (.head _)) _ c2
 obtain ⟨o1, hd1, F⟩ := F.cell (hIs _ _ c1).1 (by rw [hL]; exact (hIs _ _ c1).2) (none_above kg (by omega)) (fun p hp => nomatch hp)
 obtain ⟨o2, hd2, F⟩ := F.cell (hIs _ _ c2).1 (by rw [hL]; exact (hIs _ _ c2).2) (none_above kg (by omega)) (fun p hp => by
  rw [List.mem_singleton.mp hp]; show s.heap.objs.size + 1 ≠ s.heap.objs.size + 1 + 1; omega)
 obtain ⟨g₁, k1, e1, F⟩ := F.freeze (pre := [(_, o2)]) (post := []) rfl (by omega)
 have hd1' : o1.data = .cell (some (.int (m : Int) t)) := hd1
 have X₁ := X.up k1
 refine wpAny_execs_cons ?_
 refine wpAny_Assign_Name ?_
 refine lstE ?_
 refine sp1 ?_
 refine lstE ?_
 refine sp1 ?_
 refine wpAny_Constant_int ?_
 refine sp0 ?_
 refine newLst F fun a1 g₂ h' k2 ea1 F => ?_
 refine sp1 ?_
 refine lstE ?_
 refine sp1 ?_
 refine wpAny_Constant_int ?_
 refine sp1 ?_
 refine wpAny_Constant_int ?_
 refine sp0 ?_
 refine newLst F fun a2 g₃ h' k3 ea2 F => ?_
 refine sp1 ?_
 refine lstE ?_
 refine sp1 ?_
 refine wpAny_Constant_int ?_
 refine sp0 ?_
 refine newLst F fun a3 g₄ h' k4 ea3 F => ?_
 refine sp1 ?_
 refine lstE ?_
 refine sp1 ?_
 refine wpAny_Constant_int ?_
 refine sp0 ?_
 refine newLst F fun a4 g₅ h' k5 ea4 F => ?_
 refine sp1 ?_
 refine lstE ?_
 refine sp1 ?_
 refine wpAny_Constant_int ?_
 dsimp only
 have kc := ((k2.tr k3).tr k4).tr k5
 refine sp1 ?_
 refine wpAny_BinOp ?_
 refine wpAny_BinOp ?_
 refine ldC K1 F.keep (kc _ _ e1) hd1' ?_
 refine wpAny_Constant_int ?_
 refine divN (b := 500) (by omega) (by omega) fun u1 u2 => wpAny_Constant_int (modN (b := 256) (by omega) fun u3 u4 => sp0 ?_)
 refine newLst F fun a5 g₆ h' k6 ea5 F => sp0 ?_
 refine newLst F fun a6 g₇ h' k7 ea6 F => ?_
 dsimp only
 refine stC (pre := []) (post := []) K2 F rfl hd2 fun h' o' hd' F => ?_
 obtain ⟨g₈, k8, e2, F⟩ := F.freeze (pre := []) (post := []) rfl (by omega)
 have l7 : Le g₂ g₈ := ((((k3.tr k4).tr k5).tr k6).tr k7).tr k8
 have nat1 : ∀ (i : Nat) (t : Tok), Dt g₈ (.int (i : Int) t) (.int (i : Int)) := fun i t => .int _ _
 have hk : Dt g₈ (.ref a6) (dPlace (kindsN m)) := by
  refine .list (k8 _ _ ea6) ?_
  refine .cons (.list (l7 _ _ ea1) (.cons (.int _ _) .nil)) ?_
  refine .cons (.list ((((((k4.tr k5).tr k6).tr k7).tr k8)) _ _ ea2) (.cons (.int _ _) (.cons (.int _ _) .nil))) ?_
  refine .cons (.list ((((k5.tr k6).tr k7).tr k8) _ _ ea3) (.cons (.int _ _) .nil)) ?_
  refine .cons (.list (((k6.tr k7).tr k8) _ _ ea4) (.cons (.int _ _) .nil)) ?_
  exact .cons (.list ((k7.tr k8) _ _ ea5) (.cons (.int _ _) (.cons (.int _ _) .nil))) .nil
 dsimp only
 have X₈ := X₁.up ((k2.tr l7))
 have e1' := l7 _ _ (k2 _ _ e1)
 refine wpAny_execs_cons ?_
 refine wpAny_Return_some ?_
 refine evComp (cl := [("number", s.heap.objs.size + 1), ("kinds", s.heap.objs.size + 1 + 1)]) ["at"] [] (by decide +kernel) (by rw [hcl]; rfl) ?_
 refine C1 (N_range C X₈ F.keep (.head _) ?_)
 refine wpAny_BinOp ?_
 refine ldC K1 F.keep e1' hd1' ?_
 refine wpAny_Constant_int ?_
 refine modN (b := 4) (by omega) fun u5 u6 => ?_
 refine ⟨trivial, ?_⟩
 refine rng1 F fun r g₉ h' t1 t2 t3 t4 k9 er F => ?_
 have hm4 : m % 4 < 4 := Nat.mod_lt _ (by omega)
 refine cmpE_range (a := 0) (fun i g' ys => Dts g' ys (((List.range i).map fun i => (kindsN m).getD (m / 4 / 5 ^ i % 5) []).map dName)) (Nn := ["at"]) (Gl := []) hA'.handled (by decide +kernel) C F er (by omega) (by omega) .nil (by show _ ≤ 16777216; omega) (cturn ?_) ?_
 · rintro i v s1 g' us ys I oI C' D h tk ⟨hi, t5, rfl⟩ kg' hys hus Cc F
   obtain ⟨u0, rfl⟩ := List.length_eq_one_iff.mp hus
   refine st0 Cc F fun h' F => tests0 ?_
   rw [if_pos rfl]
   have K1' := cellIn (C := C') K1 (sc := ⟨.function, [(".0", .local), ("at", .local), ("kinds", .free), ("number", .free)], false, false, []⟩) (cl := [("number", s.heap.objs.size + 1), ("kinds", s.heap.objs.size + 1 + 1)]) rfl rfl rfl
   have K2' := cellIn (C := C') K2 (sc := ⟨.function, [(".0", .local), ("at", .local), ("kinds", .free), ("number", .free)], false, false, []⟩) (cl := [("number", s.heap.objs.size + 1), ("kinds", s.heap.objs.size + 1 + 1)]) rfl rfl rfl
   refine Subscript_BinOp ?_
   refine ldC K2' F.keep (kg' _ _ (k9 _ _ e2)) hd' ?_
   refine wpAny_BinOp ?_
   refine wpAny_BinOp ?_
   refine wpAny_BinOp ?_
   refine ldC K1' F.keep (kg' _ _ (k9 _ _ e1')) hd1' ?_
   refine wpAny_Constant_int ?_
   refine divN (b := 4) (by omega) (by omega) fun u7 u8 => ?_
   refine wpAny_BinOp ?_
   refine wpAny_Constant_int ?_
   refine ld0 Cc F ?_
   rw [Nat.zero_add]
   refine powN (a := 5) (by omega) (by omega) fun u9 u10 => ?_
   have h5 : 0 < 5 ^ i ∧ 5 ^ i ≤ 125 := by
    rcases (by omega : i = 0 ∨ i = 1 ∨ i = 2) with rfl | rfl | rfl <;> decide
   refine divN h5.1 (by omega) fun u11 u12 => ?_
   refine wpAny_Constant_int ?_
   refine modN (b := 5) (by omega) fun u13 u14 => ?_
   obtain ⟨lk, its, kk, elk, hlk, hdk⟩ := hk.listInv
   have hj5 : m / 4 / 5 ^ i % 5 < 5 := Nat.mod_lt _ (by omega)
   have hil : its.length = 5 := by simpa [kindsN] using hdk.len
   cases elk
   obtain ⟨d, hd, hdt⟩ := hdk.get (i := m / 4 / 5 ^ i % 5) (v := its[m / 4 / 5 ^ i % 5]'(by omega)) (by simp)
   refine itemL (i := m / 4 / 5 ^ i % 5) (x := its[m / 4 / 5 ^ i % 5]'(by omega)) F.keep (kg' _ _ (k9 _ _ hlk)) (by simp) (by omega) ?_
   refine cEnd Le.rfl' F ?_
   rw [List.range_succ, List.map_append, List.map_append]
   refine hys.snoc ?_
   have ed : d = dName ((kindsN m).getD (m / 4 / 5 ^ i % 5) []) := by
    rw [List.getElem?_map] at hd
    rw [List.getD_eq_getElem?_getD]
    cases q : (kindsN m)[m / 4 / 5 ^ i % 5]? with
    | none => rw [q] at hd; simp at hd
    | some y => rw [q] at hd; simpa using hd.symm
   rw [← ed]
   exact hdt.up (k9.tr kg')
 · intro g₁ g' D h' tk ys k10 k11 hys eD F
   refine ends F (.list eD ?_)
   exact hys.up k11
end
end Mine
namespace Mine
set_option maxHeartbeats 1000000
open PySem PySem.W PyProof.Rows PySem.Calls PySem.Spec
def figs : Str := "0123456789ABCDEF"
def octT (k : Nat) : Str := Txt.item figs ((k / 16 : Nat) : Int) ++ Txt.item figs ((k % 16 : Nat) : Int)
def hexW (ns : List Nat) : Str := Txt.join "" (ns.map octT)
def writtenT (p : Pl) : Str := ("/" : Str) ++ Txt.join "/" (p.map hexW)
theorem fig_at : ∀ k < 16, (Txt.charAt figs ((k : Nat) : Int)).isSome = true ∧ (Txt.item figs ((k : Nat) : Int)).length = 1 := by decide +kernel
theorem octT_len (k : Nat) (h : k < 256) : (octT k).length = 2 := by
 rw [octT, Str.length_append, (fig_at _ (by omega)).2, (fig_at _ (by omega)).2]
theorem sum_le {α : Type} {f : α → Nat} {m : Nat} : ∀ {l : List α}, (∀ x ∈ l, f x ≤ m) → (l.map f).sum ≤ m * l.length
 | [], _ => by simp
 | x :: l, h => by
  have h1 := sum_le (l := l) fun y hy => h y (.tail _ hy)
  have h2 := h x (.head _)
  rw [List.map_cons, List.sum_cons, List.length_cons, Nat.mul_succ]
  omega
structure OctOk (ns : List Nat) : Prop where
 short : ns.length ≤ 2
 oct : ∀ k ∈ ns, k < 256
theorem JoinOk_octs {ns : List Nat} (h : OctOk ns) : JoinOk "" (ns.map octT) = true := by
 refine joinOk_of ?_
 have h1 := sum_le (f := fun x : Str => x.length) (m := 2) (l := ns.map octT) fun x hx => by
  obtain ⟨k, hk, rfl⟩ := List.mem_map.mp hx
  exact Nat.le_of_eq (octT_len k (h.oct k hk))
 have h2 := h.short
 rw [List.length_map] at *
 have h3 : ("" : Str).length = 0 := by decide +kernel
 rw [h3]
 omega
theorem joinT_len (sep : Str) (ys : List Str) : (Txt.join sep ys).length ≤ (ys.map (·.length)).sum + ys.length * sep.length := by
 have := StrLaws.join_length_le sep ys
 unfold Txt.join; rw [StrLaws.glued_eq_join]; exact this
theorem hexW_len {ns : List Nat} (h : OctOk ns) : (hexW ns).length ≤ 4 := by
 have h1 := joinT_len "" (ns.map octT)
 have h2 := sum_le (f := fun x : Str => x.length) (m := 2) (l := ns.map octT) fun x hx => by
  obtain ⟨k, hk, rfl⟩ := List.mem_map.mp hx
  exact Nat.le_of_eq (octT_len k (h.oct k hk))
 have h3 : ("" : Str).length = 0 := by decide +kernel
 have h4 := h.short
 rw [List.length_map] at *
 rw [h3] at h1
 show (Txt.join "" (ns.map octT)).length ≤ 4
 omega
section
variable {w : World} {A : Around} {s : Shared} {g : Heap} {n : Nat}
theorem written_gives (X : Stat g) (kg : Le g s.heap) (hA : Ok A (n + 1)) (v : Value) (p : Pl) (hv : Dt g v (dPlace p)) (hp : p.length ≤ 9) (hn : ∀ ns ∈ p, OctOk ns) :
 Gives pw w A (.call (.ref 390) ⟨[v], []⟩) s [] g (fun g' _ r => ∃ t, r = .str (writtenT p) t) := by
 refine Gives.goC 19 [v] ["place"] ["place", "words", "name"] [] ["figures"] [some v, none, none] rfl X kg hA rfl rfl (by decide +kernel) (fun n x hx => ?_) rfl (fun j x hx => ?_) fun h₁ env A' t' hA' C hcl hC hIs hL F => ?_
 · simp only [List.mem_cons, List.not_mem_nil, or_false] at hx
   subst hx
   exact .inl (by decide +kernel)
 · rcases j with _ | _ | _ | j
   · simp only [List.getElem?_cons_zero, Option.some.injEq] at hx; subst hx; rfl
   · simp only [List.getElem?_cons_succ, List.getElem?_cons_zero, Option.some.injEq] at hx; subst hx; rfl
   · simp only [List.getElem?_cons_succ, List.getElem?_cons_zero, Option.some.injEq] at hx; subst hx; rfl
   · simp at hx
 have c1 : env.cells.lookup ("figures" : Str) = some (s.heap.objs.size + 1) := by rw [hcl]; rfl
 have K1 := hC _ (.head _) _ c1
 obtain ⟨o1, hd1, F⟩ := F.cell (hIs _ _ c1).1 (by rw [hL]; exact (hIs _ _ c1).2) (none_above kg (by omega)) (fun p hp => nomatch hp)
 obtain ⟨l, items, k, rfl, hl, hds⟩ := hv.listInv
 have hlen : items.length = p.length := by simpa using hds.len
 refine wpAny_execs_cons ?_
 refine wpAny_Assign_Name ?_
 refine Constant_str ?_
 refine stC (pre := []) (post := []) K1 F rfl hd1 fun h' o1' hd1' F => ?_
 obtain ⟨g₁, k1, e1, F⟩ := F.freeze (pre := []) (post := []) rfl (by omega)
 have X₁ := X.up k1
 dsimp only
 refine wpAny_execs_cons ?_
 refine wpAny_Assign_Name ?_
 refine lstE (sp0 ?_)
 refine newOwn F fun a h' F ha => ?_
 refine st1 C F fun h' F => ?_
 dsimp only
 refine wpAny_execs_cons (For_ (ld0 C F ?_))
 refine each_list (fun i g' vs' mu' => ∃ xs j u, mu' = [(a, lstObj xs j)] ∧ Stat g' ∧ xs.length = i ∧ Dts g' xs (((p.take i).map hexW).map .str) ∧ vs' = [some (.ref l), some (.ref a), u]) hA'.handled F (k1 _ _ hl) ⟨[], 0, _, rfl, X₁, rfl, .nil, rfl⟩ ?_ ?_
 · rintro i v g' vs' mu' I oI h tk hi kg' ⟨xs, j, u, rfl, X', hxl, hxs, rfl⟩ F
   obtain ⟨d, hd, hdt⟩ := hds.get hi
   obtain ⟨ns, hns, rfl⟩ : ∃ ns, p[i]? = some ns ∧ dName ns = d := by simpa using hd
   have ok := hn ns (List.mem_of_getElem? hns)
   obtain ⟨l2, its, k2, rfl, hl2, hds2⟩ := hdt.listInv
   have hlt : i < p.length := by
    rcases Nat.lt_or_ge i p.length with q | q
    · exact q
    · rw [List.getElem?_eq_none q] at hns; cases hns
   have hits : its.length = ns.length := by simpa using hds2.len
   dsimp only
   refine st2 C F fun h' F => ?_
   refine wpAny_execs_cons ?_
   refine wpAny_Expr ?_ C.inter rfl
   refine appS (h₀ := s.heap) (xt := []) (g₀ := g) (L := env.locals) (N := ["place", "words", "name"]) (a := a) (xs := xs) (j := j) (pre := [(I, oI)]) (post := []) (by omega) ?_
   refine ld1 C F ⟨rfl, ⟨_, (F.mt _ (.tail _ (.head _))).1, rfl, rfl⟩, ?_⟩
   refine Call_method1 rfl rfl rfl (Constant_str (SB.join ?_))
   refine evComp (cl := [("figures", s.heap.objs.size + 1)]) ["octet"] [] (by decide +kernel) (by rw [hcl]; rfl) ?_
   refine ld2 C F ?_
   refine cmpE_list (items := its) (fun i g' ys => ∃ l, ys = strValues l ∧ l.map (·.1) = (ns.take i).map octT) (Nn := ["octet"]) (Gl := []) hA'.handled (by decide +kernel) C F (kg' _ _ (k1 _ _ hl2)) ⟨[], rfl, rfl⟩ (by show _ ≤ 16777216; have := ok.short; omega) (cturn ?_) ?_
   · rintro i v s1 g' us ys I oI C' D h tk hi2 kg2 ⟨l, rfl, hl⟩ hus Cc F
     obtain ⟨d2, hd2, hdt2⟩ := hds2.get hi2
     obtain ⟨kk, hkk, rfl⟩ : ∃ kk : Nat, ns[i]? = some kk ∧ PyData.int (kk : Int) = d2 := by simpa using hd2
     obtain ⟨u3, rfl⟩ := hdt2.intInv
     have hk := ok.oct kk (List.mem_of_getElem? hkk)
     obtain ⟨u0, rfl⟩ := List.length_eq_one_iff.mp hus
     have K1' := cellIn (C := C') K1 (sc := ⟨.function, [(".0", .local), ("octet", .local), ("figures", .free)], false, false, []⟩) (cl := [("figures", s.heap.objs.size + 1)]) rfl rfl rfl
     refine st0 Cc F fun h' F => tests0 ?_
     rw [if_pos rfl]
     have e1' := kg2 _ _ (kg' _ _ e1)
     refine wpAny_BinOp ?_
     refine Subscript_BinOp ?_
     refine ldC K1' F.keep e1' hd1' ?_
     refine wpAny_BinOp ?_
     refine ld0 Cc F ?_
     refine wpAny_Constant_int ?_
     refine divN (b := 16) (by omega) (by omega) fun u7 u8 => ?_
     refine SB.item (by simp [fitsSsize]; omega) (fig_at _ (by omega)).1 ?_
     refine Subscript_BinOp ?_
     refine ldC K1' F.keep e1' hd1' ?_
     refine wpAny_BinOp ?_
     refine ld0 Cc F ?_
     refine wpAny_Constant_int ?_
     refine modN (b := 16) (by omega) fun u9 u10 => ?_
     refine SB.item (by simp [fitsSsize]; omega) (fig_at _ (by omega)).1 ?_
     refine SB.add (fun t'' k => ?_) (by have e := octT_len kk hk; rw [octT, Str.length_append] at e; show _ ≤ 16777216; exact Nat.le_trans (Nat.le_of_eq e) (by decide))
     refine cEnd Le.rfl' F ⟨l ++ [(octT kk, _)], strValues_snoc _ _ _, ?_⟩
     rw [List.map_append, hl, List.take_add_one, hkk]
     simp
   · rintro g₁ g' D h' tk ys k3 k4 ⟨l', rfl, hl'⟩ eD F
     have hl2' : l'.map (·.1) = ns.map octT := by rw [hl', List.take_of_length_le (by omega)]
     refine ⟨D, l', rfl, ⟨_, F.keep _ _ eD, rfl, _, rfl⟩, _, hl2', JoinOk_octs ok, fun t5 k5 => ⟨g', _, F, fun h' F => ?_⟩⟩
     refine wpAny_execs_nil (turn_next k3 F ⟨_, _, _, rfl, X'.up k3, by simp [hxl], ?_, rfl⟩)
     have e : p.take (i + 1) = p.take i ++ [ns] := by rw [List.take_add_one, hns]; rfl
     rw [e, List.map_append, List.map_append]
     exact (hxs.up k3).snoc (.str _ _)
 · rintro g' vs' mu' h tk kg' ⟨xs, j, u, rfl, X', hxl, hxs, rfl⟩ F
   rw [hlen, List.take_length] at hxs
   obtain ⟨l', rfl, hl'⟩ := hxs.strs
   obtain ⟨g₂, k2, eD, F⟩ := F.freeze (pre := []) (post := []) rfl ha
   refine wpAny_execs_cons ?_
   refine wpAny_Return_some ?_
   refine wpAny_BinOp ?_
   refine Constant_str ?_
   refine Call_method1 rfl rfl rfl (Constant_str (SB.join ?_))
   refine ld1 C F ?_
   have hw : ∀ x ∈ p.map hexW, x.length ≤ 4 := fun x hx => by
    obtain ⟨ns, hm, rfl⟩ := List.mem_map.mp hx
    exact hexW_len (hn ns hm)
   have hsum := sum_le (f := fun x : Str => x.length) hw
   rw [List.length_map] at hsum
   refine ⟨a, l', rfl, ⟨_, F.keep _ _ eD, rfl, _, rfl⟩, _, hl', joinOk_of (by rw [List.length_map, slash_len]; omega), fun t5 k5 => ?_⟩
   refine SB.add (fun t'' k => ?_) ?_
   · exact ends F ⟨_, rfl⟩
   · show _ ≤ 16777216
     have h1 := joinT_len "/" (p.map hexW)
     rw [List.length_map, slash_len] at h1
     rw [slash_len]
     omega
end
end Mine
namespace Mine
open PySem PySem.W PyProof.Rows PySem.Calls PySem.Spec
def kRun {α : Type} (lt : Nat → Nat → Bool) : KasT α → α
 | .ret a => a
 | .ask i j k => kRun lt (k (lt i j))
theorem kRun_bind {α β : Type} (lt : Nat → Nat → Bool) (f : α → KasT β) : ∀ t : KasT α, kRun lt (t.bind f) = kRun lt (f (kRun lt t))
 | .ret a => rfl
 | .ask i j k => kRun_bind lt f (k (lt i j))
structure Weak (lt : Nat → Nat → Bool) : Prop where
 refl : ∀ a, lt a a = false
 trans : ∀ a b c, lt b a = false → lt c b = false → lt c a = false
 asym : ∀ a b, lt a b = true → lt b a = false
section
variable {lt : Nat → Nat → Bool}
def Up (lt : Nat → Nat → Bool) (p : Array Nat) (m : Nat) : Prop := ∀ i j, i ≤ j → j < m → lt (p.getD j 0) (p.getD i 0) = false
def Dn (lt : Nat → Nat → Bool) (p : Array Nat) (m : Nat) : Prop := ∀ i j, i ≤ j → j < m → lt (p.getD i 0) (p.getD j 0) = false
theorem getD_of {p q : Array Nat} {i j : Nat} (h : p[i]? = q[j]?) : p.getD i 0 = q.getD j 0 := by
 rw [Array.getD_eq_getD_getElem?, Array.getD_eq_getD_getElem?, h]
theorem rev_getD {p : Array Nat} {i j : Nat} (hj : j ≤ p.size) (k : Nat) : (kas_rev p i j).getD k 0 = if i ≤ k ∧ k < j then p.getD (i + j - 1 - k) 0 else p.getD k 0 := by
 have e := getElem?_mirror_all (xs := p) (i := i) hj k
 by_cases h : i ≤ k ∧ k < j
 · rw [if_pos h] at e ⊢; exact getD_of e
 · rw [if_neg h] at e ⊢; exact getD_of e
theorem bub_getD {p : Array Nat} {src d : Nat} (hs : src < p.size) (hd : d ≤ src) (k : Nat) : (bubble p src d).getD k 0 = if k = src - d then p.getD src 0 else if src - d < k ∧ k ≤ src then p.getD (k - 1) 0 else p.getD k 0 := by
 have e := getElem?_bubble (xs := p) hs d hd k
 by_cases h1 : k = src - d
 · rw [if_pos h1] at e ⊢; exact getD_of e
 · rw [if_neg h1] at e ⊢
   by_cases h2 : src - d < k ∧ k ≤ src
   · rw [if_pos h2] at e ⊢; exact getD_of e
   · rw [if_neg h2] at e ⊢; exact getD_of e
theorem rev_perm (p : Array Nat) (i j : Nat) : (kas_rev p i j).Perm p := mirror_perm _ _ _ _
theorem rev_size (p : Array Nat) (i j : Nat) : (kas_rev p i j).size = p.size := mirror_size _ _ _ _
theorem asc_up (W : Weak lt) (p : Array Nat) : ∀ (f n : Nat), 1 ≤ n → Up lt p n → Up lt p (kRun lt (kas_asc p f n)) ∧ n ≤ kRun lt (kas_asc p f n) ∧ kRun lt (kas_asc p f n) ≤ n + f ∧ (kRun lt (kas_asc p f n) = n + f ∨ lt (p.getD (kRun lt (kas_asc p f n)) 0) (p.getD (kRun lt (kas_asc p f n) - 1) 0) = true)
 | 0, n, _, h => ⟨h, Nat.le_refl _, Nat.le_refl _, .inl rfl⟩
 | f + 1, n, hn, h => by
  unfold kas_asc
  simp only [kRun]
  cases e : lt (p.getD n 0) (p.getD (n - 1) 0) with
  | true => exact ⟨h, Nat.le_refl _, Nat.le_add_right _ _, .inr e⟩
  | false =>
   simp only [Bool.false_eq_true, if_false]
   obtain ⟨a, b, c, d⟩ := asc_up W p f (n + 1) (by omega) fun i j hij hj => by
    by_cases hjn : j < n
    · exact h i j hij hjn
    · have : j = n := by omega
      subst this
      by_cases hi : i = j
      · subst hi; exact W.refl _
      · exact W.trans _ _ _ (h i (j - 1) (by omega) (by omega)) e
   exact ⟨a, by omega, by omega, d.imp (fun x => by omega) id⟩
structure Desc (lt : Nat → Nat → Bool) (p : Array Nat) (n q : Nat) : Prop where
 dn : Dn lt p n
 le : q + 1 ≤ n
 even : ∀ i, n - (q + 1) ≤ i → i < n → lt (p.getD i 0) (p.getD (n - 1) 0) = false ∧ lt (p.getD (n - 1) 0) (p.getD i 0) = false
theorem Desc.turn (W : Weak lt) {p : Array Nat} {n q : Nat} (D : Desc lt p n q) (hn : n ≤ p.size) : Dn lt (kas_rev p (n - (q + 1)) n) n := by
 intro i j hij hj
 have hq := D.le
 rw [rev_getD hn, rev_getD hn]
 by_cases hi : n - (q + 1) ≤ i
 · rw [if_pos ⟨hi, by omega⟩, if_pos ⟨by omega, hj⟩]
   have a := D.even (n - (q + 1) + n - 1 - i) (by omega) (by omega)
   have b := D.even (n - (q + 1) + n - 1 - j) (by omega) (by omega)
   exact W.trans _ _ _ b.2 a.1
 · rw [if_neg (by omega)]
   by_cases hj2 : n - (q + 1) ≤ j
   · rw [if_pos ⟨hj2, hj⟩]; exact D.dn _ _ (by omega) (by omega)
   · rw [if_neg (by omega)]; exact D.dn _ _ hij hj
theorem desc_dn (W : Weak lt) : ∀ (f : Nat) (p : Array Nat) (n q : Nat), n + f ≤ p.size → Desc lt p n q →
 (kRun lt (kas_desc f p n q)).1.Perm p ∧ n ≤ (kRun lt (kas_desc f p n q)).2.1 ∧ (kRun lt (kas_desc f p n q)).2.1 ≤ n + f ∧ Desc lt (kRun lt (kas_desc f p n q)).1 (kRun lt (kas_desc f p n q)).2.1 (kRun lt (kas_desc f p n q)).2.2
 | 0, p, n, q, _, D => ⟨Array.Perm.refl _, Nat.le_refl _, Nat.le_refl _, D⟩
 | f + 1, p, n, q, hz, D => by
  have hq := D.le
  unfold kas_desc
  simp only [kRun]
  cases e : lt (p.getD n 0) (p.getD (n - 1) 0) with
  | true =>
   simp only [if_true]
   by_cases hq0 : q > 0
   · rw [if_pos hq0]
     have T := D.turn W (by omega)
     have step : Desc lt (kas_rev p (n - (q + 1)) n) (n + 1) 0 := by
      refine ⟨fun i j hij hj => ?_, by omega, fun i h1 h2 => ?_⟩
      · by_cases hjn : j < n
        · exact T i j hij hjn
        · have : j = n := by omega
          subst this
          by_cases hi : i = j
          · subst hi; exact W.refl _
          · refine W.trans _ _ _ ?_ (T i (j - 1) (by omega) (by omega))
            have a := D.even (j - (q + 1)) (by omega) (by omega)
            rw [rev_getD (k := j - 1) (by omega), rev_getD (k := j) (by omega), if_pos (by omega), if_neg (by omega)]
            have e1 : j - (q + 1) + j - 1 - (j - 1) = j - (q + 1) := by omega
            rw [e1]
            exact W.trans _ _ _ (W.asym _ _ e) a.1
      · have : i = n := by omega
        subst this
        have e2 : i + 1 - 1 = i := by omega
        rw [e2]
        exact ⟨W.refl _, W.refl _⟩
     obtain ⟨a, b, c, d⟩ := desc_dn W f _ (n + 1) 0 (by rw [rev_size]; omega) step
     exact ⟨a.trans (rev_perm _ _ _), by omega, by omega, d⟩
   · rw [if_neg hq0]
     have step : Desc lt p (n + 1) 0 := by
      refine ⟨fun i j hij hj => ?_, by omega, fun i h1 h2 => ?_⟩
      · by_cases hjn : j < n
        · exact D.dn i j hij hjn
        · have : j = n := by omega
          subst this
          by_cases hi : i = j
          · subst hi; exact W.refl _
          · exact W.trans _ _ _ (W.asym _ _ e) (D.dn i (j - 1) (by omega) (by omega))
      · have : i = n := by omega
        subst this
        have e2 : i + 1 - 1 = i := by omega
        rw [e2]
        exact ⟨W.refl _, W.refl _⟩
     obtain ⟨a, b, c, d⟩ := desc_dn W f _ (n + 1) 0 (by omega) step
     exact ⟨a, by omega, by omega, d⟩
  | false =>
   simp only [Bool.false_eq_true, if_false, kRun]
   cases e2 : lt (p.getD (n - 1) 0) (p.getD n 0) with
   | true =>
    simp only [if_true, kRun]
    exact ⟨Array.Perm.refl _, Nat.le_refl _, by omega, D⟩
   | false =>
    simp only [Bool.false_eq_true, if_false]
    have step : Desc lt p (n + 1) (q + 1) := by
     refine ⟨fun i j hij hj => ?_, by omega, fun i h1 h2 => ?_⟩
     · by_cases hjn : j < n
       · exact D.dn i j hij hjn
       · have : j = n := by omega
         subst this
         by_cases hi : i = j
         · subst hi; exact W.refl _
         · exact W.trans _ _ _ e2 (D.dn i (j - 1) (by omega) (by omega))
     · have e3 : n + 1 - 1 = n := by omega
       rw [e3]
       by_cases hi : i = n
       · subst hi; exact ⟨W.refl _, W.refl _⟩
       · have a := D.even i (by omega) (by omega)
         exact ⟨W.trans _ _ _ e2 a.1, W.trans _ _ _ a.2 e⟩
    obtain ⟨a, b, c, d⟩ := desc_dn W f _ (n + 1) (q + 1) (by omega) step
    exact ⟨a, by omega, by omega, d⟩
theorem tail3_up (W : Weak lt) {n nrem : Nat} {p : Array Nat} (h1 : 1 ≤ n) (hn : n ≤ nrem) (hz : nrem ≤ p.size) (D : Dn lt p n) :
 (kRun lt (kas_tail3 n nrem p)).2.Perm p ∧ 1 ≤ (kRun lt (kas_tail3 n nrem p)).1 ∧ (kRun lt (kas_tail3 n nrem p)).1 ≤ nrem ∧ Up lt (kRun lt (kas_tail3 n nrem p)).2 (kRun lt (kas_tail3 n nrem p)).1 := by
 unfold kas_tail3
 rw [kRun_bind]
 simp only [kRun]
 obtain ⟨a, b, c, _⟩ := asc_up W (kas_rev p 0 n) (nrem - n) n h1 fun i j hij hj => by
  rw [rev_getD (by omega), rev_getD (by omega), if_pos (by omega), if_pos (by omega)]
  exact D _ _ (by omega) (by omega)
 exact ⟨rev_perm _ _ _, by omega, by omega, a⟩
theorem descPart_up (W : Weak lt) {n nrem : Nat} {p : Array Nat} (h1 : 1 ≤ n) (hn : n + 1 ≤ nrem) (hz : nrem ≤ p.size) (D : Desc lt p (n + 1) 0) :
 (kRun lt (kas_descPart n nrem p)).2.Perm p ∧ 1 ≤ (kRun lt (kas_descPart n nrem p)).1 ∧ (kRun lt (kas_descPart n nrem p)).1 ≤ nrem ∧ Up lt (kRun lt (kas_descPart n nrem p)).2 (kRun lt (kas_descPart n nrem p)).1 := by
 unfold kas_descPart
 rw [kRun_bind]
 obtain ⟨a, b, c, d⟩ := desc_dn W (nrem - (n + 1)) p (n + 1) 0 (by omega) D
 have hs : (kRun lt (kas_desc (nrem - (n + 1)) p (n + 1) 0)).1.size = p.size := a.size_eq
 by_cases hq : (kRun lt (kas_desc (nrem - (n + 1)) p (n + 1) 0)).2.2 > 0
 · rw [if_pos hq]
   obtain ⟨a', b', c', d'⟩ := tail3_up W (nrem := nrem) (by omega) (by omega) (by rw [rev_size, hs]; exact hz) (d.turn W (by omega))
   exact ⟨a'.trans ((rev_perm _ _ _).trans a), b', c', d'⟩
 · rw [if_neg hq]
   obtain ⟨a', b', c', d'⟩ := tail3_up W (nrem := nrem) (by omega) (by omega) (by rw [hs]; exact hz) d.dn
   exact ⟨a'.trans a, b', c', d'⟩
theorem count_up (W : Weak lt) {nrem : Nat} {p : Array Nat} (h1 : 1 ≤ nrem) (hz : nrem ≤ p.size) :
 (kRun lt (kas_count nrem p)).2.Perm p ∧ 1 ≤ (kRun lt (kas_count nrem p)).1 ∧ (kRun lt (kas_count nrem p)).1 ≤ nrem ∧ Up lt (kRun lt (kas_count nrem p)).2 (kRun lt (kas_count nrem p)).1 := by
 unfold kas_count
 rw [kRun_bind]
 obtain ⟨a, b, c, d⟩ := asc_up W p (nrem - 1) 1 (Nat.le_refl _) fun i j hij hj => by
  have : i = j := by omega
  subst this; exact W.refl _
 generalize kRun lt (kas_asc p (nrem - 1) 1) = n at a b c d ⊢
 by_cases hn : (n == nrem) = true
 · rw [if_pos hn]
   simp only [kRun]
   exact ⟨Array.Perm.refl _, b, by omega, a⟩
 · rw [if_neg hn]
   have hne : n ≠ nrem := by simpa using hn
   have e : lt (p.getD n 0) (p.getD (n - 1) 0) = true := d.resolve_left (by omega)
   by_cases hg : n > 1
   · rw [if_pos hg]
     simp only [kRun]
     cases e2 : lt (p.getD 0 0) (p.getD (n - 1) 0) with
     | true => simp only [if_true, kRun]; exact ⟨Array.Perm.refl _, b, by omega, a⟩
     | false =>
      simp only [Bool.false_eq_true, if_false]
      have even : ∀ i, i < n → lt (p.getD i 0) (p.getD (n - 1) 0) = false ∧ lt (p.getD (n - 1) 0) (p.getD i 0) = false := fun i hi =>
       ⟨W.trans _ _ _ e2 (a 0 i (by omega) hi), a i (n - 1) (by omega) (by omega)⟩
      obtain ⟨a', b', c', d'⟩ := descPart_up W (n := n) (nrem := nrem) (p := kas_rev p 0 n) (by omega) (by omega) (by rw [rev_size]; exact hz) ⟨fun i j hij hj => by
       rw [rev_getD (k := i) (by omega), rev_getD (k := j) (by omega)]
       by_cases hjn : j < n
       · rw [if_pos (by omega), if_pos (by omega)]
         exact a _ _ (by omega) (by omega)
       · have : j = n := by omega
         subst this
         rw [if_neg (show ¬ (0 ≤ j ∧ j < j) by omega)]
         by_cases hi : i < j
         · rw [if_pos (by omega)]
           exact W.trans _ _ _ (W.asym _ _ e) (even _ (by omega)).1
         · have : i = j := by omega
           subst this
           rw [if_neg (by omega)]
           exact W.refl _, by omega, fun i h1 h2 => by
       have : i = n := by omega
       subst this
       have e3 : i + 1 - 1 = i := by omega
       rw [e3]
       exact ⟨W.refl _, W.refl _⟩⟩
      exact ⟨a'.trans (rev_perm _ _ _), b', c', d'⟩
   · rw [if_neg hg]
     have hn1 : n = 1 := by omega
     subst hn1
     exact descPart_up W (by omega) (by omega) hz ⟨fun i j hij hj => by
      rcases (by omega : i = j ∨ (i = 0 ∧ j = 1)) with rfl | ⟨rfl, rfl⟩
      · exact W.refl _
      · exact W.asym _ _ e, by omega, fun i h1 h2 => by
      have : i = 1 := by omega
      subst this
      exact ⟨W.refl _, W.refl _⟩⟩
theorem place_at (W : Weak lt) {p : Array Nat} {k : Nat} (hs : Up lt p k) : ∀ (f l r : Nat), l ≤ r → r ≤ k → r - l ≤ f → (∀ i, i < l → lt (p.getD k 0) (p.getD i 0) = false) → (∀ i, r ≤ i → i < k → lt (p.getD i 0) (p.getD k 0) = false) →
 kRun lt (kas_place p k f l r) ≤ k ∧ (∀ i, i < kRun lt (kas_place p k f l r) → lt (p.getD k 0) (p.getD i 0) = false) ∧ ∀ i, kRun lt (kas_place p k f l r) ≤ i → i < k → lt (p.getD i 0) (p.getD k 0) = false
 | 0, l, r, hlr, hrk, hf, h1, h2 => by
  have : l = r := by omega
  subst this
  exact ⟨hrk, h1, h2⟩
 | f + 1, l, r, hlr, hrk, hf, h1, h2 => by
  unfold kas_place
  by_cases hg : l ≥ r
  · rw [if_pos hg]
    have : l = r := by omega
    subst this
    exact ⟨hrk, h1, h2⟩
  · rw [if_neg hg]
    simp only [kRun]
    cases e : lt (p.getD k 0) (p.getD ((l + r) / 2) 0) with
    | true =>
     simp only [if_true]
     exact place_at W hs f l ((l + r) / 2) (by omega) (by omega) (by omega) h1 fun i hi hik => W.trans _ _ _ (W.asym _ _ e) (hs _ _ hi hik)
    | false =>
     simp only [Bool.false_eq_true, if_false]
     exact place_at W hs f ((l + r) / 2 + 1) r (by omega) hrk (by omega) (fun i hi => W.trans _ _ _ (hs i ((l + r) / 2) (by omega) (by omega)) e) h2
theorem bin_up (W : Weak lt) : ∀ (f : Nat) (p : Array Nat) (k : Nat), 1 ≤ k → k + f ≤ p.size → Up lt p k → (kRun lt (kas_bin f p k)).Perm p ∧ Up lt (kRun lt (kas_bin f p k)) (k + f)
 | 0, p, k, _, _, h => ⟨Array.Perm.refl _, h⟩
 | f + 1, p, k, hk, hz, h => by
  unfold kas_bin
  rw [kRun_bind]
  obtain ⟨a, b, c⟩ := place_at W h k 0 k (by omega) (Nat.le_refl _) (by omega) (fun i hi => absurd hi (Nat.not_lt_zero _)) (fun i h1 h2 => absurd h2 (by omega))
  generalize kRun lt (kas_place p k k 0 k) = l at a b c ⊢
  obtain ⟨a', b'⟩ := bin_up W f (bubble p k (k - l)) (k + 1) (by omega) (by rw [bubble_size]; omega) fun i j hij hj => by
   rw [bub_getD (by omega) (by omega) i, bub_getD (by omega) (by omega) j, show k - (k - l) = l by omega]
   repeat' split
   all_goals first
    | (exfalso; omega)
    | exact W.refl _
    | exact b _ (by omega)
    | exact c _ (by omega) (by omega)
    | exact h _ _ (by omega) (by omega)
  refine ⟨a'.trans (bubble_perm _ _ _), ?_⟩
  rw [show k + (f + 1) = k + 1 + f by omega]
  exact b'
theorem sort_up (W : Weak lt) {n : Nat} (hn : 1 ≤ n) : (kRun lt (kas_sort n)).Perm (List.toArray (List.range n)) ∧ Up lt (kRun lt (kas_sort n)) n := by
 unfold kas_sort
 rw [kRun_bind]
 have hs : (List.toArray (List.range n)).size = n := by simp
 obtain ⟨a, b, c, d⟩ := count_up W hn (p := List.toArray (List.range n)) (by rw [hs]; exact Nat.le_refl _)
 generalize kRun lt (kas_count n (List.toArray (List.range n))) = r at a b c d ⊢
 have hr : r.2.size = n := a.size_eq.trans hs
 by_cases hlt : r.1 < n
 · rw [if_pos hlt]
   have e : max r.1 1 = r.1 := by omega
   rw [e]
   obtain ⟨a', b'⟩ := bin_up W (n - r.1) r.2 r.1 b (by omega) d
   refine ⟨a'.trans a, ?_⟩
   rw [show r.1 + (n - r.1) = n by omega] at b'
   exact b'
 · rw [if_neg hlt]
   have : r.1 = n := by omega
   rw [this] at d
   exact ⟨a, d⟩
end
end Mine
namespace Mine
open PySem PySem.W PyProof.Rows PySem.Calls PySem.Spec
open PySem.SeqAt AutoSeq1 MeetsSeq MeetsSeq2 MeetsSeq3 SeqRoads2
def LtAt (A : Around) (s : Shared) (y x : Value) (b : Bool) : Prop :=
 ∀ (prog : Program) (w : World) (E : Value → Shared → Prop) (Q : Value → Shared → Prop), Q (.bool b) s → wpAny (model prog w) A (richCompare .Lt y x) Q E s
def lexB (e l : Nat → Bool) (m n : Nat) : Nat → Nat → Bool
 | 0, _ => decide (m < n)
 | k + 1, i => if e i then lexB e l m n k (i + 1) else l i
theorem lt_loop (l b : Addr) (items items2 : Array Value) (n n2 : Nat) (dd dd2 : Option Addr) (sl sl2 : Array (Option Value)) (e lt : Nat → Bool) (k : Nat) :
 ∀ i : Nat, min items.size items2.size - i = k → Meets (Builtin.«list.__eq__.loop» ⟨[.ref l, .ref b, rawInt i, rawInt 0], []⟩)
  (fun A R s => s.heap.get? l = some { cls := .type "list", dict := dd, data := .seq items n, slots := sl } ∧ s.heap.get? b = some { cls := .type "list", dict := dd2, data := .seq items2 n2, slots := sl2 } ∧
   (∀ j (h1 : j < items.size) (h2 : j < items2.size), EqAt A.in1 s items[j] items2[j] (e j) ∧ (e j = false → LtAt A.in1 s items[j] items2[j] (lt j))) ∧
   R (.ok (.ret (.bool (lexB e lt items.size items2.size k i)))) s) := by
 induction k with
 | zero =>
  intro i hk prog w A R s h
  obtain ⟨hp, g, d, tk, os⟩ := s; obtain ⟨hl, hb, he, h⟩ := h
  wp_walk using wpAny_loadPart' hl, wpAny_loadPart' hb
  rcases (by omega : items.size ≤ i ∨ (i < items.size ∧ items2.size ≤ i)) with h1 | ⟨h1, h2⟩
  · have hi1 : items[((i : Nat) : Int).toNat]? = none := by simp; omega
    rw [hi1]
    wp_walk using wpAny_loadPart' hl, wpAny_loadPart' hb
    exact h
  · have hi1 : items[((i : Nat) : Int).toNat]? = some items[i] := by simp [h1]
    have hi2 : items2[((i : Nat) : Int).toNat]? = none := by simp; omega
    rw [hi1, hi2]
    wp_walk using wpAny_loadPart' hl, wpAny_loadPart' hb
    exact h
 | succ k ih =>
  intro i hk prog w A R s h
  obtain ⟨hp, g, d, tk, os⟩ := s; obtain ⟨hl, hb, he, h⟩ := h
  wp_walk using wpAny_loadPart' hl, wpAny_loadPart' hb
  have hlt : i < items.size := by omega
  have hlt2 : i < items2.size := by omega
  have hi1 : items[((i : Nat) : Int).toNat]? = some items[i] := by simp [hlt]
  have hi2 : items2[((i : Nat) : Int).toNat]? = some items2[i] := by simp [hlt2]
  have hc : ((i : Int) + 1) = ((i + 1 : Nat) : Int) := by push_cast; rfl
  rw [hi1, hi2]
  obtain ⟨he1, hl1⟩ := he i hlt hlt2
  refine wpAny_bind (he1 prog w _ _ ?_)
  unfold lexB at h
  cases hb' : e i with
  | true =>
   rw [hb'] at h
   wp_walk
   rw [hc]
   exact ⟨plainId_quiet plain_eq_loop _, codeAny_builtin entry_eq_loop (by
    rw [Around.under_plainId plain_eq_loop _]
    exact ih (i + 1) (by omega) prog w A R _ ⟨hl, hb, he, by simpa using h⟩)⟩
  | false =>
   rw [hb'] at h
   wp_walk using wpAny_loadPart' hl, wpAny_loadPart' hb
   rw [hi1, hi2]
   refine wpAny_bind (hl1 hb' prog w _ _ ?_)
   wp_walk
   simpa using h
theorem list_lt (l b : Addr) (items items2 : Array Value) (n n2 : Nat) (dd dd2 : Option Addr) (sl sl2 : Array (Option Value)) (e lt : Nat → Bool) :
 Meets (Builtin.«list.__lt__» ⟨[.ref l, .ref b], []⟩)
  (fun A R s => s.heap.get? l = some { cls := .type "list", dict := dd, data := .seq items n, slots := sl } ∧ s.heap.get? b = some { cls := .type "list", dict := dd2, data := .seq items2 n2, slots := sl2 } ∧
   (∀ j (h1 : j < items.size) (h2 : j < items2.size), EqAt A.in1 s items[j] items2[j] (e j) ∧ (e j = false → LtAt A.in1 s items[j] items2[j] (lt j))) ∧
   R (.ok (.ret (.bool (lexB e lt items.size items2.size (min items.size items2.size) 0)))) s) := by
 intro prog w A R s h
 obtain ⟨hp, g, d, tk, os⟩ := s; obtain ⟨hl, hb, he, h⟩ := h
 have f3 := AutoSeq1.sub_list_list
 wp_walk using wpAny_loadPart' hl, wpAny_loadPart' hb
 exact ⟨plainId_quiet plain_eq_loop _, codeAny_builtin entry_eq_loop (by
  rw [Around.under_plainId plain_eq_loop _]
  exact lt_loop l b items items2 n n2 dd dd2 sl sl2 e lt _ 0 rfl prog w A R _ ⟨hl, hb, he, by simpa using h⟩)⟩
theorem tuple_lt (l b : Addr) (items items2 : Array Value) (n n2 : Nat) (dd dd2 : Option Addr) (sl sl2 : Array (Option Value)) (e lt : Nat → Bool) :
 Meets (Builtin.«tuple.__lt__» ⟨[.ref l, .ref b], []⟩)
  (fun A R s => s.heap.get? l = some { cls := .type "tuple", dict := dd, data := .seq items n, slots := sl } ∧ s.heap.get? b = some { cls := .type "tuple", dict := dd2, data := .seq items2 n2, slots := sl2 } ∧
   (∀ j (h1 : j < items.size) (h2 : j < items2.size), EqAt A.in1 s items[j] items2[j] (e j) ∧ (e j = false → LtAt A.in1 s items[j] items2[j] (lt j))) ∧
   R (.ok (.ret (.bool (lexB e lt items.size items2.size (min items.size items2.size) 0)))) s) :=
 .of_wp fun prog w A R s h => by
  obtain ⟨hp, g, d, tk, os⟩ := s; obtain ⟨hl, hb, he, h⟩ := h
  have f2 := AutoSeq1.sub_tuple_tuple
  have hZ : (items.toList.zip items2.toList).length = min items.size items2.size := by simp
  wp_walk using wpAny_loadPart' hl, wpAny_loadPart' hb, wpAny_forIn_list _ (fun rest b s' => b.1 = none ∧ s' = ⟨hp, g, d, tk, os⟩ ∧ ∃ i k, rest = (items.toList.zip items2.toList).drop i ∧ i + k = min items.size items2.size ∧
   R (.ok (.ret (.bool (lexB e lt items.size items2.size k i)))) ⟨hp, g, d, tk, os⟩) _
  case turn =>
   rintro ⟨y, x⟩ rest b s' ⟨hb', rfl, i, k, hz, hk, hR⟩
   have hlt : i < (items.toList.zip items2.toList).length := by
    rcases Nat.lt_or_ge i (items.toList.zip items2.toList).length with h' | h'
    · exact h'
    · rw [List.drop_of_length_le h'] at hz; cases hz
   have hm : i < min items.size items2.size := hZ ▸ hlt
   have h1 : i < items.size := Nat.lt_of_lt_of_le hm (Nat.min_le_left _ _)
   have h2 : i < items2.size := Nat.lt_of_lt_of_le hm (Nat.min_le_right _ _)
   rw [List.drop_eq_getElem_cons hlt] at hz
   injection hz with hyx hrest
   have hy : y = items[i] := by have := congrArg Prod.fst hyx; simpa using this
   have hx : x = items2[i] := by have := congrArg Prod.snd hyx; simpa using this
   subst hy hx
   obtain ⟨k, rfl⟩ : ∃ k', k = k' + 1 := ⟨k - 1, by omega⟩
   unfold lexB at hR
   obtain ⟨he1, hl1⟩ := he i h1 h2
   refine wpAny_bind (he1 prog w _ _ ?_)
   cases hy : e i with
   | true =>
    rw [hy] at hR
    wp_walk
    exact ⟨rfl, rfl, i + 1, k, hrest, by omega, by simpa using hR⟩
   | false =>
    rw [hy] at hR
    repeat (first | (refine wpAny_bind (hl1 hy prog w _ _ ?_)) | wp_step)
    exact ⟨_, rfl, by simpa using hR⟩
  case fin =>
   rintro ⟨b1, b2⟩ s' ⟨hb', rfl, i, k, hz, hk, hR⟩
   simp only at hb'
   subst hb'
   have hge : min items.size items2.size ≤ i := by
    rcases Nat.lt_or_ge i (items.toList.zip items2.toList).length with h' | h'
    · rw [List.drop_eq_getElem_cons h'] at hz; cases hz
    · exact hZ ▸ h'
   have hk0 : k = 0 := by omega
   subst hk0
   unfold lexB at hR
   wp_walk
   exact ⟨_, rfl, by simpa [Builtin.Tuple.tupleCompareSizes] using hR⟩
  case h =>
   exact ⟨rfl, rfl, 0, _, rfl, by omega, h⟩
end Mine
namespace Mine
open PySem PySem.W PyProof.Rows PySem.Calls PySem.Spec
open PySem.SeqAt AutoSeq1 MeetsSeq MeetsSeq2 MeetsSeq3 SeqRoads2
mutual
def ltP : PyData → PyData → Bool
 | .int a, .int b => decide (a < b)
 | .str a, .str b => decide (a.cps.toList < b.cps.toList)
 | .list xs, .list ys => ltAllP xs ys
 | .tuple xs, .tuple ys => ltAllP xs ys
 | _, _ => false
def ltAllP : List PyData → List PyData → Bool
 | [], [] => false
 | [], _ :: _ => true
 | _ :: _, [] => false
 | x :: xs, y :: ys => if PyData.eqv x y then ltAllP xs ys else ltP x y
end
mutual
def cmpP : PyData → PyData → Bool
 | .int _, .int _ => true
 | .str _, .str _ => true
 | .list xs, .list ys => cmpAllP xs ys
 | .tuple xs, .tuple ys => cmpAllP xs ys
 | _, _ => false
def cmpAllP : List PyData → List PyData → Bool
 | x :: xs, y :: ys => cmpP x y && cmpAllP xs ys
 | _, _ => true
end
theorem cmpAllP_get : ∀ {xs ys : List PyData}, cmpAllP xs ys = true → ∀ (j : Nat) (x y : PyData), xs[j]? = some x → ys[j]? = some y → cmpP x y = true
 | x :: xs, y :: ys, h, 0, _, _, hx, hy => by
  simp only [cmpAllP, Bool.and_eq_true] at h
  simp at hx hy; subst hx; subst hy; exact h.1
 | x :: xs, y :: ys, h, j + 1, _, _, hx, hy => by
  simp only [cmpAllP, Bool.and_eq_true] at h
  exact cmpAllP_get h.2 j _ _ (by simpa using hx) (by simpa using hy)
 | [], _, _, j, _, _, hx, _ => by simp at hx
 | _ :: _, [], _, j, _, _, _, hy => by simp at hy
theorem canLay_get : ∀ {xs : List PyData}, PyData.canLayAll0 xs = true → ∀ (j : Nat) (x : PyData), xs[j]? = some x → x.canLay0 = true
 | x :: xs, h, 0, _, hx => by
  simp only [PyData.canLayAll0, Bool.and_eq_true] at h
  simp at hx; subst hx; exact h.1
 | x :: xs, h, j + 1, _, hx => by
  simp only [PyData.canLayAll0, Bool.and_eq_true] at h
  exact canLay_get h.2 j _ (by simpa using hx)
 | [], _, j, _, hx => by simp at hx
theorem depth_get : ∀ {xs : List PyData} {n : Nat}, PyData.depthAll xs ≤ n → ∀ (j : Nat) (x : PyData), xs[j]? = some x → x.depth ≤ n
 | x :: xs, n, h, 0, _, hx => by
  simp only [PyData.depthAll] at h
  simp at hx; subst hx; omega
 | x :: xs, n, h, j + 1, _, hx => by
  simp only [PyData.depthAll] at h
  exact depth_get (by omega : PyData.depthAll xs ≤ n) j _ (by simpa using hx)
 | [], _, _, j, _, hx => by simp at hx
def eB (xs ys : List PyData) (j : Nat) : Bool := PyData.eqv (xs.getD j .none) (ys.getD j .none)
def lB (xs ys : List PyData) (j : Nat) : Bool := ltP (xs.getD j .none) (ys.getD j .none)
theorem lexB_eq (xs ys : List PyData) : ∀ (k i : Nat), min xs.length ys.length - i = k → i ≤ min xs.length ys.length → lexB (eB xs ys) (lB xs ys) xs.length ys.length k i = ltAllP (xs.drop i) (ys.drop i)
 | 0, i, hk, hi => by
  unfold lexB
  rcases (by omega : i = xs.length ∧ i = ys.length ∨ i = xs.length ∧ i < ys.length ∨ i < xs.length ∧ i = ys.length) with ⟨h1, h2⟩ | ⟨h1, h2⟩ | ⟨h1, h2⟩
  · have e1 : xs.drop i = [] := List.drop_of_length_le (by omega)
    have e2 : ys.drop i = [] := List.drop_of_length_le (by omega)
    rw [e1, e2]
    simp only [ltAllP]; simp; omega
  · have e1 : xs.drop i = [] := List.drop_of_length_le (by omega)
    rw [e1, List.drop_eq_getElem_cons h2]
    simp only [ltAllP]; simp; omega
  · have e2 : ys.drop i = [] := List.drop_of_length_le (by omega)
    rw [List.drop_eq_getElem_cons h1, e2]
    simp only [ltAllP]; simp; omega
 | k + 1, i, hk, hi => by
  have h1 : i < xs.length := by omega
  have h2 : i < ys.length := by omega
  rw [List.drop_eq_getElem_cons h1, List.drop_eq_getElem_cons h2]
  unfold lexB
  simp only [ltAllP]
  rw [lexB_eq xs ys k (i + 1) (by omega) (by omega)]
  simp [eB, lB, h1, h2]
theorem elems {g : Heap} (n : Nat) (ih : ∀ (da db : PyData) (A : Around) (s : Shared) (a b : Value), Dt g a da → Dt g b db → Le g s.heap → da.depth ≤ n → da.canLay0 = true → db.canLay0 = true → cmpP da db = true → A.units + 2 * n + 1 < cLine → LtAt A s a b (ltP da db))
 {A : Around} {s : Shared} {vs vs' : List Value} {xs ys : List PyData} (x : Dts g vs xs) (x' : Dts g vs' ys) (kg : Le g s.heap) (hd : PyData.depthAll xs ≤ n) (la : PyData.canLayAll0 xs = true) (lb : PyData.canLayAll0 ys = true) (hc : cmpAllP xs ys = true)
 (hu : A.in1.units + 2 * n + 1 < cLine) (j : Nat) (j1 : j < vs.toArray.size) (j2 : j < vs'.toArray.size) :
 EqAt A.in1 s vs.toArray[j] vs'.toArray[j] (eB xs ys j) ∧ (eB xs ys j = false → LtAt A.in1 s vs.toArray[j] vs'.toArray[j] (lB xs ys j)) := by
 have k1 : j < vs.length := by simpa using j1
 have k2 : j < vs'.length := by simpa using j2
 have e1 : vs[j]? = some vs.toArray[j] := by simp [k1]
 have e2 : vs'[j]? = some vs'.toArray[j] := by simp [k2]
 obtain ⟨d1, hd1, dt1⟩ := x.get e1
 obtain ⟨d2, hd2, dt2⟩ := x'.get e2
 have g1 : xs.getD j .none = d1 := by rw [List.getD_eq_getElem?_getD, hd1]; rfl
 have g2 : ys.getD j .none = d2 := by rw [List.getD_eq_getElem?_getD, hd2]; rfl
 obtain ⟨as, r1⟩ := (dt1.up kg).reads
 obtain ⟨bs, r2⟩ := (dt2.up kg).reads
 have dn := depth_get hd j d1 hd1
 constructor
 · have := eqAt_reads d1 d2 A.in1 s _ _ as bs r1 r2 (canLay_get la j d1 hd1) (canLay_get lb j d2 hd2) (by omega)
   rw [eB, g1, g2]
   exact this
 · intro _
   rw [lB, g1, g2]
   exact ih d1 d2 A.in1 s _ _ dt1 dt2 kg dn (canLay_get la j d1 hd1) (canLay_get lb j d2 hd2) (cmpAllP_get hc j d1 d2 hd1 hd2) hu
theorem ltAt_dt {g : Heap} : ∀ (n : Nat) (da db : PyData) (A : Around) (s : Shared) (a b : Value), Dt g a da → Dt g b db → Le g s.heap → da.depth ≤ n → da.canLay0 = true → db.canLay0 = true → cmpP da db = true → A.units + 2 * n + 1 < cLine → LtAt A s a b (ltP da db) := by
 intro n
 induction n with
 | zero =>
  intro da db A s a b ha hb kg hd la lb hc hu prog w E Q hq
  cases ha with
  | int x t =>
   cases hb with
   | int y u => exact P.lt_int hq
   | _ => simp [cmpP] at hc
  | str x t =>
   cases hb with
   | str y u => exact P.lt_str hq
   | _ => simp [cmpP] at hc
  | list e x => simp [PyData.depth] at hd
  | tuple e x => simp [PyData.depth] at hd
 | succ n ih =>
  intro da db A s a b ha hb kg hd la lb hc hu prog w E Q hq
  cases ha with
  | int x t =>
   cases hb with
   | int y u => exact P.lt_int hq
   | _ => simp [cmpP] at hc
  | str x t =>
   cases hb with
   | str y u => exact P.lt_str hq
   | _ => simp [cmpP] at hc
  | @list l vs k xs e x =>
   cases hb with
   | @list l' vs' k' ys e' x' =>
    have n1 : vs.length = xs.length := x.len
    have n2 : vs'.length = ys.length := x'.len
    have hl : s.TypeIs (.ref l) "list" := ⟨_, kg _ _ e, rfl⟩
    have hl' : s.TypeIs (.ref l') "list" := ⟨_, kg _ _ e', rfl⟩
    refine richCompare_meets_room hl hl' PySem.F.slot_list_lt PySem.F.entry_list_lt (PySem.F.args_list_lt_2 _ _) (list_lt l l' vs.toArray vs'.toArray k k' none none #[] #[] (eB xs ys) (lB xs ys)) ⟨kg _ _ e, kg _ _ e', fun j j1 j2 => ?_, ?_⟩ (by omega)
    · exact elems n ih x x' kg (by simp only [PyData.depth] at hd; omega) (by simpa only [PyData.canLay0] using la) (by simpa only [PyData.canLay0] using lb) (by simpa only [cmpP] using hc) (by show A.units + 1 + 2 * n + 1 < cLine; omega) j j1 j2
    · have := lexB_eq xs ys _ 0 rfl (Nat.zero_le _)
      simp only [List.size_toArray, n1, n2]
      rw [show min xs.length ys.length = min xs.length ys.length - 0 from rfl, this]
      exact ⟨by simp, hq⟩
   | _ => simp [cmpP] at hc
  | @tuple l vs xs e x =>
   cases hb with
   | @tuple l' vs' ys e' x' =>
    have n1 : vs.length = xs.length := x.len
    have n2 : vs'.length = ys.length := x'.len
    have hl : s.TypeIs (.ref l) "tuple" := ⟨_, kg _ _ e, rfl⟩
    have hl' : s.TypeIs (.ref l') "tuple" := ⟨_, kg _ _ e', rfl⟩
    refine richCompare_meets_room hl hl' PySem.F.slot_tuple_lt PySem.F.entry_tuple_lt (PySem.F.args_tuple_lt_2 _ _) (tuple_lt l l' vs.toArray vs'.toArray 0 0 none none #[] #[] (eB xs ys) (lB xs ys)) ⟨kg _ _ e, kg _ _ e', fun j j1 j2 => ?_, ?_⟩ (by omega)
    · exact elems n ih x x' kg (by simp only [PyData.depth] at hd; omega) (by simpa only [PyData.canLay0] using la) (by simpa only [PyData.canLay0] using lb) (by simpa only [cmpP] using hc) (by show A.units + 1 + 2 * n + 1 < cLine; omega) j j1 j2
    · have := lexB_eq xs ys _ 0 rfl (Nat.zero_le _)
      simp only [List.size_toArray, n1, n2]
      rw [show min xs.length ys.length = min xs.length ys.length - 0 from rfl, this]
      exact ⟨by simp, hq⟩
   | _ => simp [cmpP] at hc
end Mine
namespace Mine
open PySem PySem.W PyProof.Rows PySem.Calls PySem.Spec
open PySem.SeqAt
def kIn {α : Type} (n : Nat) : KasT α → (α → Prop) → Prop
 | .ret a, P => P a
 | .ask i j k, P => i < n ∧ j < n ∧ ∀ b, kIn n (k b) P
theorem kIn_bind {α β : Type} {n : Nat} {f : α → KasT β} {P : β → Prop} : ∀ (t : KasT α), kIn n t (fun a => kIn n (f a) P) → kIn n (t.bind f) P
 | .ret a, h => h
 | .ask i j k, h => ⟨h.1, h.2.1, fun b => kIn_bind (k b) (h.2.2 b)⟩
def Small (n : Nat) (p : Array Nat) : Prop := ∀ x ∈ p, x < n
theorem Small.at {n : Nat} {p : Array Nat} (h : Small n p) (hn : 0 < n) (k : Nat) : p.getD k 0 < n := by
 rw [Array.getD_eq_getD_getElem?]
 cases q : p[k]? with
 | none => exact hn
 | some x => exact h x (Array.mem_of_getElem? q)
theorem Small.perm {n : Nat} {p q : Array Nat} (h : Small n p) (e : q.Perm p) : Small n q := fun x hx => h x (by
 have := (Array.perm_iff_toList_perm.mp e).mem_iff (a := x)
 simpa using this.mp (by simpa using hx))
theorem asc_in {n : Nat} {p : Array Nat} (h : Small n p) (hn : 0 < n) {P : Nat → Prop} (hP : ∀ m, P m) : ∀ f m : Nat, kIn n (kas_asc p f m) P
 | 0, m => hP m
 | f + 1, m => ⟨h.at hn _, h.at hn _, fun b => by cases b with | true => exact hP m | false => exact asc_in h hn hP f (m + 1)⟩
theorem desc_in {n : Nat} (hn : 0 < n) {P : Array Nat × Nat × Nat → Prop} (hP : ∀ r, Small n r.1 → P r) : ∀ (f : Nat) (p : Array Nat) (m q : Nat), Small n p → kIn n (kas_desc f p m q) P
 | 0, p, m, q, h => hP _ h
 | f + 1, p, m, q, h => ⟨h.at hn _, h.at hn _, fun b => by
  cases b with
  | true =>
   simp only [if_true]
   split
   · exact desc_in hn hP f _ _ _ (h.perm (rev_perm _ _ _))
   · exact desc_in hn hP f _ _ _ h
  | false =>
   simp only [Bool.false_eq_true, if_false]
   exact ⟨h.at hn _, h.at hn _, fun b => by
    cases b with
    | true => exact hP _ h
    | false => exact desc_in hn hP f _ _ _ h⟩⟩
theorem tail3_in {n : Nat} (hn : 0 < n) {P : Nat × Array Nat → Prop} (hP : ∀ r, Small n r.2 → P r) {m nrem : Nat} {p : Array Nat} (h : Small n p) : kIn n (kas_tail3 m nrem p) P :=
 kIn_bind _ (asc_in (h.perm (rev_perm _ _ _)) hn (fun _ => hP _ (h.perm (rev_perm _ _ _))) _ _)
theorem descPart_in {n : Nat} (hn : 0 < n) {P : Nat × Array Nat → Prop} (hP : ∀ r, Small n r.2 → P r) {m nrem : Nat} {p : Array Nat} (h : Small n p) : kIn n (kas_descPart m nrem p) P :=
 kIn_bind _ (desc_in hn (fun r hr => by
  split
  · exact tail3_in hn hP (hr.perm (rev_perm _ _ _))
  · exact tail3_in hn hP hr) _ _ _ _ h)
theorem count_in {n : Nat} (hn : 0 < n) {P : Nat × Array Nat → Prop} (hP : ∀ r, Small n r.2 → P r) {nrem : Nat} {p : Array Nat} (h : Small n p) : kIn n (kas_count nrem p) P :=
 kIn_bind _ (asc_in h hn (fun m => by
  split
  · exact hP _ h
  · split
    · exact ⟨h.at hn _, h.at hn _, fun b => by
       cases b with
       | true => exact hP _ h
       | false => exact descPart_in hn hP (h.perm (rev_perm _ _ _))⟩
    · exact descPart_in hn hP h) _ _)
theorem place_in {n : Nat} {p : Array Nat} (h : Small n p) (hn : 0 < n) {P : Nat → Prop} (hP : ∀ m, P m) (k : Nat) : ∀ f l r : Nat, kIn n (kas_place p k f l r) P
 | 0, l, r => hP l
 | f + 1, l, r => by
  unfold kas_place
  split
  · exact hP l
  · exact ⟨h.at hn _, h.at hn _, fun b => by
     cases b with
     | true => exact place_in h hn hP k f _ _
     | false => exact place_in h hn hP k f _ _⟩
theorem bin_in {n : Nat} (hn : 0 < n) {P : Array Nat → Prop} (hP : ∀ p, P p) : ∀ (f : Nat) (p : Array Nat) (k : Nat), Small n p → kIn n (kas_bin f p k) P
 | 0, p, k, h => hP p
 | f + 1, p, k, h => kIn_bind _ (place_in h hn (fun l => bin_in hn hP f _ _ (h.perm (bubble_perm _ _ _))) _ _ _ _)
theorem sort_in {n : Nat} (hn : 0 < n) : kIn n (kas_sort n) fun _ => True :=
 kIn_bind _ (count_in hn (fun r hr => by
  split
  · exact bin_in hn (fun _ => trivial) _ _ _ hr
  · trivial) fun x hx => by simpa using hx)
theorem kWp {α : Type} {cmp : Nat → Nat → (Bool → Shared → Prop) → Shared → Prop} {lt : Nat → Nat → Bool} {G : α → Shared → Prop} {s : Shared} {n : Nat} (hc : ∀ i j C, i < n → j < n → C (lt i j) s → cmp i j C s) :
 ∀ (t : KasT α), kIn n t (fun _ => True) → G (kRun lt t) s → t.kasWp cmp G s
 | .ret a, _, h => h
 | .ask i j k, hi, h => hc i j _ hi.1 hi.2.1 (kWp hc (k (lt i j)) (hi.2.2 _) h)
section
variable {prog : Program} {w : World} {A : Around} {E : Value → Shared → Prop} {s : Shared}
theorem srt_tree {a : Addr} {vs : List Value} {n : Nat} {P : PySem.Fin → Shared → Prop} {T : Value} (ho : s.heap.get? a = some (seqObj "list" vs.toArray n)) (h64 : vs.length < 64)
 (hT : ∀ h, (∀ b o, b ≠ a → s.heap.get? b = some o → h.get? b = some o) → ∀ v ∈ vs, Looks (model prog w) h (typeOf v) T) (hT1 : (T != Value.type "tuple") = true) (hT2 : (T == T) = true) (lt : Nat → Nat → Bool) (W : Weak lt)
 (cmp : ∀ (i j : Nat) (h : Heap) (C : Bool → Shared → Prop), i < vs.length → j < vs.length → (∀ b o, b ≠ a → s.heap.get? b = some o → h.get? b = some o) → C (lt i j) { s with heap := h } → kas_ask prog w A oneType' vs i j C { s with heap := h })
 (h : ∀ p : Array Nat, p.Perm (List.toArray (List.range vs.length)) → Up lt p vs.length → P (.done (.ret .none)) { s with heap := sortedHeap s.heap a vs (List.toArray (p.toList.map fun i => vs.getD i Value.none)) }) :
 wpAny (model prog w) A (Builtin.«list.sort» ⟨[.ref a], []⟩) P E s := by
 rw [list_sort_plain]
 have ha : a < s.heap.objs.size := Heap.lt_size ho
 refine wpAny_bind (listItems_at ho rfl ?_)
 refine wpAny_bind (listUpdate_at ho rfl ?_ (by rw [List.size_toArray, sizeLine_eq]; omega) (Nat.zero_le _))
 obtain ⟨e1, ho1⟩ : ∃ e1, (s.heap.update a (Obj.mapSeq fun _ => #[])).get? a = some (seqObj "list" #[] e1) := ⟨_, get?_update_seq ho (fun _ => #[])⟩
 refine wpAny_bind (seqEpoch_at ho1 rfl ?_)
 refine wpAny_bind (wpAny_newTuple ?_ (by show vs.length ≤ _; rw [sizeLine_eq]; omega))
 refine wpAny_bind (wpAny_newList ?_ (Nat.zero_le _))
 refine wpAny_holding ?_
 have ho6 : (((s.heap.update a (Obj.mapSeq fun _ => #[])).push (seqObj "tuple" vs.toArray 0)).push (seqObj "list" #[] 0)).get? a = some (seqObj "list" #[] e1) := by
  rw [Heap.get?_push_ne _ _ _ (by rw [size_push', Heap.size_update]; exact Nat.ne_of_lt (Nat.lt_succ_of_lt ha)), Heap.get?_push_ne _ _ _ (by rw [Heap.size_update]; exact Nat.ne_of_lt ha)]
  exact ho1
 have kp : ∀ b o, b ≠ a → s.heap.get? b = some o → (((s.heap.update a (Obj.mapSeq fun _ => #[])).push (seqObj "tuple" vs.toArray 0)).push (seqObj "list" #[] 0)).get? b = some o := fun b o hb e =>
  Heap.get?_push_of_some _ (Heap.get?_push_of_some _ ((Heap.get?_update_ne _ _ _ _ hb).trans e))
 show wpAny (model prog w) A _ P E { s with heap := ((s.heap.update a (Obj.mapSeq fun _ => #[])).push (seqObj "tuple" vs.toArray 0)).push (seqObj "list" #[] 0) }
 dsimp only
 have hsz : vs.toArray.size = vs.length := by simp
 by_cases h2 : vs.toArray.size < 2
 · rw [if_pos h2, if_pos h2]
   refine wpAny_bind (wpAny_pure ?_)
   rw [StateT.run_pure]
   refine wpAny_bind (wpAny_pure ?_)
   dsimp only
   refine wpAny_bind (seqEpoch_at ho6 rfl ?_)
   refine wpAny_bind (listUpdate_at ho6 rfl ?_ (Nat.zero_le _) (by rw [Array.size_map]; show (pairsOf vs).size ≤ _; rw [pairsOf_size, sizeLine_eq]; omega))
   simp only [bne_self_eq_false, Bool.false_eq_true, if_false]
   refine wpAny_pure ?_
   have fin := h (List.toArray (List.range vs.length)) (Array.Perm.refl _) fun i j hij hj => by
    have : i = j := by omega
    subst this; exact W.refl _
   have eo : (arrOf (SortSt.mk' general' (vs.toArray.zip vs.toArray) #[] 7 none)).map (·.2) = List.toArray ((List.toArray (List.range vs.length)).toList.map fun i => vs.getD i Value.none) := by
    have e := kas_range (pairsOf vs)
    rw [pairsOf_size] at e
    show (pairsOf vs).map (·.2) = _
    apply Array.toList_inj.mp
    rw [← e, Array.map_map, Array.toList_map]
    exact List.map_congr_left fun i _ => by show (kas_item (pairsOf vs) i).2 = _; rw [kas_item_eq]
   rw [← eo] at fin
   exact fin
 · rw [if_neg h2, if_neg h2]
   refine wpAny_bind (kas_kind (by omega) (hT _ kp) hT1 hT2 ?_)
   have est : SortSt.mk' oneType' (vs.toArray.zip vs.toArray) #[] 7 none = kas_st oneType' (pairsOf vs) (List.toArray (List.range vs.length)) := by
    have e := kas_range (pairsOf vs)
    rw [pairsOf_size] at e
    show SortSt.mk' oneType' (pairsOf vs) #[] 7 none = SortSt.mk' oneType' ((List.toArray (List.range vs.length)).map (kas_item (pairsOf vs))) #[] 7 none
    rw [e]
   have S := sort_up W (n := vs.length) (by omega)
   have run := kas_runs (prog := prog) (w := w) (A := A) (E := E) (κ := oneType') (it := pairsOf vs) (n := vs.length) (s := { s with heap := (((s.heap.update a (Obj.mapSeq fun _ => #[])).push (seqObj "tuple" vs.toArray 0)).push (seqObj "list" #[] 0)) })
    (Q := fun _ st' s' => s' = { s with heap := (((s.heap.update a (Obj.mapSeq fun _ => #[])).push (seqObj "tuple" vs.toArray 0)).push (seqObj "list" #[] 0)) } ∧ arrOf st' = (kRun lt (kas_sort vs.length)).map (kas_item (pairsOf vs)) ∧ failedOf st' = none)
    (G := fun p s' => s' = { s with heap := (((s.heap.update a (Obj.mapSeq fun _ => #[])).push (seqObj "tuple" vs.toArray 0)).push (seqObj "list" #[] 0)) } ∧ p = kRun lt (kas_sort vs.length))
    (by omega) h64 (fun p' st' s' a1 a2 a3 a4 => ⟨a4.1, by rw [a2, a4.2], a3⟩) (kWp (fun i j C hi hj hC => by
     have := cmp i j _ C hi hj kp hC
     rw [kas_ask_eq] at this
     exact this) _ (sort_in (by omega)) ⟨rfl, rfl⟩)
   rw [← est] at run
   refine wpAny_bind (wpAny_mono run ?_ fun _ _ e => e)
   rintro ⟨⟨⟩, st'⟩ s' ⟨rfl, har, hf⟩
   dsimp only
   have hout : (arrOf st').map (·.2) = List.toArray ((kRun lt (kas_sort vs.length)).toList.map fun i => vs.getD i Value.none) := by
    apply Array.toList_inj.mp
    rw [har, Array.map_map, Array.toList_map]
    exact List.map_congr_left fun i _ => by show (kas_item (pairsOf vs) i).2 = _; rw [kas_item_eq]
   have hps : (kRun lt (kas_sort vs.length)).size = vs.length := by have := S.1.size_eq; simpa using this
   rw [hout]
   refine wpAny_bind (seqEpoch_at ho6 rfl ?_)
   refine wpAny_bind (listUpdate_at ho6 rfl ?_ (Nat.zero_le _) (by simp only [List.size_toArray, List.length_map, Array.length_toList, hps]; rw [sizeLine_eq]; omega))
   rw [hf]
   simp only [bne_self_eq_false, Bool.false_eq_true, if_false]
   exact wpAny_pure (h _ S.1 S.2)
theorem sorted_tree {l : Addr} {vs : List Value} {T : Value} {Q : Value → Shared → Prop} (hl : s.heap.IsList l vs.toArray) (h64 : vs.length < 64)
 (hT : ∀ h, (∀ b o, s.heap.get? b = some o → h.get? b = some o) → ∀ v ∈ vs, Looks (model prog w) h (typeOf v) T) (hT1 : (T != Value.type "tuple") = true) (hT2 : (T == T) = true) (lt : Nat → Nat → Bool) (W : Weak lt)
 (cmp : ∀ (i j : Nat) (h : Heap) (C : Bool → Shared → Prop), i < vs.length → j < vs.length → (∀ b o, s.heap.get? b = some o → h.get? b = some o) → C (lt i j) { s with heap := h } → kas_ask prog w A.in1.in1 oneType' vs i j C { s with heap := h })
 (h : ∀ p : Array Nat, p.Perm (List.toArray (List.range vs.length)) → Up lt p vs.length → Q (.ref (s.heap.objs.size + 1)) { s with heap := sortedAll s.heap vs (List.toArray (p.toList.map fun i => vs.getD i Value.none)) }) :
 wpAny (model prog w) A (call (.builtin "sorted") [.ref l]) Q E s := by
 refine Calls.call_function_entry kind_sorted plain_sorted entry_sorted (args_sorted1 _) ?_
 unfold Builtin.«sorted»
 refine wpAny_bind (m := checkCount "sorted" 1 1 _) (wpAny_pure ?_)
 refine wpAny_bind (collect_list hl ?_ (by rw [sizeLine_eq]; omega))
 refine wpAny_bind (wpAny_newList ?_ (by rw [sizeLine_eq]; omega))
 have hsz : ((s.heap.push (seqObj "list" #[] 0)).update s.heap.objs.size (Obj.mapSeq (· ++ vs.toArray))).objs.size = s.heap.objs.size + 1 := by
  rw [Heap.size_update, size_push']
 have hoL : (((s.heap.push (seqObj "list" #[] 0)).update s.heap.objs.size (Obj.mapSeq (· ++ vs.toArray))).push (seqObj "list" vs.toArray 0)).get? (s.heap.objs.size + 1) = some (seqObj "list" vs.toArray 0) := by
  rw [← hsz]; exact Heap.get?_push_size _ rfl
 have keep : ∀ b o, s.heap.get? b = some o → (((s.heap.push (seqObj "list" #[] 0)).update s.heap.objs.size (Obj.mapSeq (· ++ vs.toArray))).push (seqObj "list" vs.toArray 0)).get? b = some o := fun b o q => by
  have hlt : b < s.heap.objs.size := Heap.lt_size q
  rw [Heap.get?_push_ne _ _ _ (by rw [hsz]; exact Nat.ne_of_lt (Nat.lt_succ_of_lt hlt)), Heap.get?_update_ne _ _ _ _ (Nat.ne_of_lt hlt), Heap.get?_push_ne _ _ _ (Nat.ne_of_lt hlt)]
  exact q
 show wpAny _ _ _ _ _ { s with heap := ((s.heap.push (seqObj "list" #[] 0)).update s.heap.objs.size (Obj.mapSeq (· ++ vs.toArray))).push (seqObj "list" vs.toArray 0) }
 rw [hsz]
 have kp : ∀ (h' : Heap), (∀ b o, b ≠ s.heap.objs.size + 1 → (((s.heap.push (seqObj "list" #[] 0)).update s.heap.objs.size (Obj.mapSeq (· ++ vs.toArray))).push (seqObj "list" vs.toArray 0)).get? b = some o → h'.get? b = some o) → ∀ b o, s.heap.get? b = some o → h'.get? b = some o :=
  fun h' k b o e => k b o (Nat.ne_of_lt (Nat.lt_succ_of_lt (Heap.lt_size e))) (keep b o e)
 refine wpAny_bind (wpAny_holding (wpAny_call_entry slot_list_sort ⟨_, hoL, rfl⟩ entry_list_sort (srt_tree (T := T) (s := { s with heap := ((s.heap.push (seqObj "list" #[] 0)).update s.heap.objs.size (Obj.mapSeq (· ++ vs.toArray))).push (seqObj "list" vs.toArray 0) }) hoL h64 (fun h' k => hT h' (kp h' k)) hT1 hT2 lt W
  (fun i j h' C hi hj k hC => cmp i j h' C hi hj (kp h' k) hC) fun p a1 a2 => ⟨_, rfl, ?_⟩) (args_list_sort _)))
 exact wpAny_pure ⟨_, rfl, h p a1 a2⟩
end
section
variable {prog : Program} {w : World} {A : Around} {E : Value → Shared → Prop} {s : Shared} {g : Heap}
theorem keyLt_list {l l' : Addr} {vs vs' : List Value} {k k' : Nat} {xs ys : List PyData} {Q : Bool → Shared → Prop} (e : g.get? l = some (lstObj vs k)) (e' : g.get? l' = some (lstObj vs' k')) (x : Dts g vs xs) (x' : Dts g vs' ys) (kg : Le g s.heap)
 (hd : PyData.depthAll xs ≤ 9) (la : PyData.canLayAll0 xs = true) (lb : PyData.canLayAll0 ys = true) (hc : cmpAllP xs ys = true) (hu : A.units + 30 < cLine) (h : Q (ltAllP xs ys) s) :
 wpAny (model prog w) A (keyLt' oneType' (.ref l) (.ref l')) Q E s := by
 rw [keyLt'_oneType, oneLt'_eq]
 simp only [if_true]
 have n1 : vs.length = xs.length := x.len
 have n2 : vs'.length = ys.length := x'.len
 have hl : s.TypeIs (.ref l) "list" := ⟨_, kg _ _ e, rfl⟩
 refine wpAny_bind (wpAny_cRoomFor (by omega) ?_)
 refine wpAny_bind (wpAny_callSpecialIfBound?_slot hl PySem.F.slot_list_lt (call_meets PySem.F.slot_list_lt hl PySem.F.entry_list_lt (PySem.F.args_list_lt_2 _ _) (list_lt l l' vs.toArray vs'.toArray k k' none none #[] #[] (eB xs ys) (lB xs ys)) ⟨kg _ _ e, kg _ _ e', fun j j1 j2 => ?_, ?_⟩))
 · exact elems 9 (ltAt_dt 9) x x' kg hd la lb hc (by show A.units + 1 + 18 + 1 < cLine; omega) j j1 j2
 · have := lexB_eq xs ys _ 0 rfl (Nat.zero_le _)
   simp only [List.size_toArray, n1, n2]
   rw [show min xs.length ys.length = min xs.length ys.length - 0 from rfl, this]
   exact wpAny_truthy_bool h
end
end Mine
namespace Mine
open PySem PySem.W PyProof.Rows PySem.Calls PySem.Spec
open PySem.SeqAt
theorem map_getD_range {α : Type} (d : α) : ∀ (r : List α), (List.range r.length).map (fun i => r.getD i d) = r := by
 intro r
 apply List.ext_getElem
 · simp
 · intro i h1 h2; simp [h2]
theorem perm_list {p : Array Nat} {n : Nat} (hp : p.Perm (List.toArray (List.range n))) : p.toList.Perm (List.range n) := by
 have := Array.perm_iff_toList_perm.mp hp
 simpa using this
section
variable {α : Type} {f : α → PyData} {g : Heap}
theorem sort_out (d : α) {p : Array Nat} {vs : List Value} {r : List α} (hp : p.Perm (List.toArray (List.range vs.length))) (h : Dts g vs (r.map f)) :
 Dts g (p.toList.map fun i => vs.getD i Value.none) ((p.toList.map fun i => r.getD i d).map f) ∧ (p.toList.map fun i => r.getD i d).Perm r := by
 have hl : vs.length = r.length := by simpa using h.len
 have hpl := perm_list hp
 constructor
 · refine Dts.of_get (by simp) fun i v y hv hy => ?_
   rw [List.map_map] at hy
   rw [List.getElem?_map] at hv hy
   cases q : p.toList[i]? with
   | none => rw [q] at hv; cases hv
   | some j =>
    rw [q] at hv hy
    simp only [Option.map_some, Option.some.injEq] at hv hy
    have hj : j < vs.length := by
     have := hpl.mem_iff.mp (List.mem_of_getElem? q)
     simpa using this
    have hj2 : j < r.length := by omega
    obtain ⟨d', hd', dt⟩ := h.get (i := j) (v := vs[j]) (by simp [hj])
    have e1 : vs.getD j Value.none = vs[j] := by simp [hj]
    have e2 : r.getD j d = r[j] := by simp [hj2]
    rw [← hv, ← hy]
    simp only [Function.comp]
    rw [e1, e2]
    have : d' = f r[j] := by
     rw [List.getElem?_map, List.getElem?_eq_getElem hj2] at hd'
     simpa using hd'.symm
    rw [← this]; exact dt
 · have := hpl.map fun i => r.getD i d
   rw [hl, map_getD_range] at this
   exact this
theorem sort_pair (d : α) {p : Array Nat} {n : Nat} {r : List α} {blt : α → α → Bool} (hs : p.size = n) (h : Up (fun i j => blt (r.getD i d) (r.getD j d)) p n) : (p.toList.map fun i => r.getD i d).Pairwise fun a b => blt b a = false := by
 rw [List.pairwise_iff_getElem]
 intro i j hi hj hij
 simp only [List.getElem_map, Array.getElem_toList]
 have hi' : i < p.size := by simpa using hi
 have hj' : j < p.size := by simpa using hj
 have := h i j (Nat.le_of_lt hij) (by omega)
 have e1 : p.getD i 0 = p[i] := by simp [Array.getD, hi']
 have e2 : p.getD j 0 = p[j] := by simp [Array.getD, hj']
 rw [e1, e2] at this
 exact this
end
def Sorts {α : Type} (f : α → PyData) (blt : α → α → Bool) : Prop :=
 ∀ {w : World} {A : Around} {E : Value → Shared → Prop} {s : Shared} {h₀ g₀ g : Heap} {xt : List Addr} {L : Addr} {N : List Str} {vs : List (Option Value)} {mu : List (Addr × Obj)} {n : Nat} {Q : Value → Shared → Prop} {l : Addr} {items : List Value} {k : Nat} {r : List α},
  Ok A n → St h₀ xt g₀ g L N vs mu s.heap → g.get? l = some (lstObj items k) → Dts g items (r.map f) → r.length < 64 →
  (∀ D g' h' out e (r' : List α), Le g g' → r'.Perm r → r'.Pairwise (fun a b => blt b a = false) → g'.get? D = some (lstObj out e) → Dts g' out (r'.map f) → St h₀ xt g₀ g' L N vs mu h' → Q (.ref D) { s with heap := h' }) →
  wpAny (model pw w) A (call (.builtin "sorted") [.ref l]) Q E s
structure WeakB {α : Type} (blt : α → α → Bool) : Prop where
 refl : ∀ a, blt a a = false
 trans : ∀ a b c, blt b a = false → blt c b = false → blt c a = false
 asym : ∀ a b, blt a b = true → blt b a = false
theorem sorts_of {α : Type} (d : α) {f : α → PyData} {blt : α → α → Bool} (T : Value) (W : WeakB blt)
 (hT : ∀ (w : World) (g : Heap) (v : Value) (a : α), Dt g v (f a) → Looks (model pw w) g (typeOf v) T) (hT1 : (T != Value.type "tuple") = true) (hT2 : (T == T) = true)
 (cmp : ∀ (w : World) (A : Around) (s : Shared) (g : Heap) (v v' : Value) (a b : α) (C : Bool → Shared → Prop), A.units + 40 < cLine → Dt g v (f a) → Dt g v' (f b) → Le g s.heap → C (blt a b) s → wpAny (model pw w) A (keyLt' oneType' v v') C no s) : Sorts f blt := by
 intro w A E s h₀ g₀ g xt L N vs mu n Q l items k r hA F hl hds h64 h
 have hlen : items.length = r.length := by simpa using hds.len
 have getd : ∀ i, i < items.length → Dt g (items.getD i Value.none) (f (r.getD i d)) := fun i hi => by
  obtain ⟨d', hd', dt⟩ := hds.get (i := i) (v := items[i]) (by simp [hi])
  have hi2 : i < r.length := by omega
  have e1 : items.getD i Value.none = items[i] := by simp [hi]
  have e2 : r.getD i d = r[i] := by simp [hi2]
  rw [e1, e2]
  have : d' = f r[i] := by
   rw [List.getElem?_map, List.getElem?_eq_getElem hi2] at hd'
   simpa using hd'.symm
  rw [← this]; exact dt
 refine sorted_tree (T := T) ⟨_, F.keep _ _ hl, rfl, _, rfl⟩ (by omega) (fun h' kp v hv => ?_) hT1 hT2 (fun i j => blt (r.getD i d) (r.getD j d)) ⟨fun a => W.refl _, fun a b c => W.trans _ _ _, fun a b => W.asym _ _⟩ (fun i j h' C hi hj kp hC => ?_) fun p hp hu => ?_
 · obtain ⟨i, hi⟩ := List.getElem?_of_mem hv
   obtain ⟨d', hd', dt⟩ := hds.get hi
   obtain ⟨a, -, rfl⟩ := List.mem_map.mp (List.mem_of_getElem? hd')
   exact (hT w g v a dt).keeps (F.keep.tr kp)
 · exact cmp w _ _ g _ _ _ _ C (by have := hA.c; show A.units + 1 + 1 + 40 < cLine; omega) (getd i hi) (getd j hj) (F.keep.tr kp) hC
 · obtain ⟨e, he⟩ := sortedAll_at s.heap items (List.toArray (p.toList.map fun i => items.getD i Value.none))
   have k1 : Le s.heap (sortedAll s.heap items (List.toArray (p.toList.map fun i => items.getD i Value.none))) := fun b o q => sortedAll_old q
   have O := out_of F.keep k1 (Nat.le_trans (Nat.le_succ _) (Nat.le_of_lt (Heap.lt_size he)))
   obtain ⟨o1, o2⟩ := sort_out (f := f) d hp hds
   refine h _ _ _ _ e _ O.mono o2 (sort_pair d (by have := hp.size_eq; simpa using this) hu) ?_ (o1.up O.mono) (F.call O)
   rw [only_get, if_pos (by simp), he]
theorem weakB_lt {α : Type} [LT α] [DecidableLT α] (r : ∀ a : α, ¬ a < a) (t : ∀ a b c : α, a < b → b < c → a < c) (n : ∀ a b c : α, a < c → a < b ∨ b < c) : WeakB (fun a b : α => decide (a < b)) where
 refl a := by simpa using r a
 trans a b c h1 h2 := by
  simp only [decide_eq_false_iff_not] at *
  intro h3
  rcases n c b a h3 with q | q
  · exact h2 q
  · exact h1 q
 asym a b h := by
  simp only [decide_eq_true_eq, decide_eq_false_iff_not] at *
  intro h2
  exact r _ (t _ _ _ h h2)
theorem weakB_map {α β : Type} {blt : β → β → Bool} (f : α → β) (W : WeakB blt) : WeakB (fun a b => blt (f a) (f b)) := ⟨fun a => W.refl _, fun a b c => W.trans _ _ _, fun a b => W.asym _ _⟩
theorem list_neg {α : Type} [LT α] [DecidableLT α] [DecidableEq α] (n : ∀ a b c : α, a < c → a < b ∨ b < c) (tri : ∀ a b : α, ¬ a < b → ¬ b < a → a = b) (t : ∀ a b c : α, a < b → b < c → a < c) : ∀ a b c : List α, a < c → a < b ∨ b < c
 | _, [], [], h => absurd h (List.not_lt_nil _)
 | [], _ :: _, _, _ => .inl (List.nil_lt_cons _ _)
 | _, [], _ :: _, _ => .inr (List.nil_lt_cons _ _)
 | _, _ :: _, [], h => absurd h (List.not_lt_nil _)
 | x :: xs, y :: ys, z :: zs, h => by
  rw [List.cons_lt_cons_iff] at h ⊢
  rw [List.cons_lt_cons_iff]
  rcases h with h | ⟨rfl, h⟩
  · rcases n x y z h with q | q
    · exact .inl (.inl q)
    · exact .inr (.inl q)
  · by_cases q1 : x < y
    · exact .inl (.inl q1)
    · by_cases q2 : y < x
      · exact .inr (.inl q2)
      · have := tri _ _ q1 q2
        subst this
        rcases list_neg n tri t xs ys zs h with q | q
        · exact .inl (.inr ⟨rfl, q⟩)
        · exact .inr (.inr ⟨rfl, q⟩)
theorem list_tri {α : Type} [LT α] (tri : ∀ a b : α, ¬ a < b → ¬ b < a → a = b) : ∀ a b : List α, ¬ a < b → ¬ b < a → a = b
 | [], [], _, _ => rfl
 | [], _ :: _, h, _ => absurd (List.nil_lt_cons _ _) h
 | _ :: _, [], _, h => absurd (List.nil_lt_cons _ _) h
 | x :: xs, y :: ys, h1, h2 => by
  rw [List.cons_lt_cons_iff] at h1 h2
  have e : x = y := tri _ _ (fun q => h1 (.inl q)) (fun q => h2 (.inl q))
  subst e
  rw [list_tri tri xs ys (fun q => h1 (.inr ⟨rfl, q⟩)) (fun q => h2 (.inr ⟨rfl, q⟩))]
theorem list_irr {α : Type} [LT α] (r : ∀ a : α, ¬ a < a) : ∀ a : List α, ¬ a < a
 | [], h => List.not_lt_nil _ h
 | x :: xs, h => by
  rw [List.cons_lt_cons_iff] at h
  rcases h with h | ⟨_, h⟩
  · exact r _ h
  · exact list_irr r xs h
theorem list_tra {α : Type} [LT α] (t : ∀ a b c : α, a < b → b < c → a < c) : ∀ a b c : List α, a < b → b < c → a < c
 | _, [], _, h, _ => absurd h (List.not_lt_nil _)
 | _, _ :: _, [], _, h => absurd h (List.not_lt_nil _)
 | [], _ :: _, _ :: _, _, _ => List.nil_lt_cons _ _
 | x :: xs, y :: ys, z :: zs, h1, h2 => by
  rw [List.cons_lt_cons_iff] at *
  rcases h1 with h1 | ⟨rfl, h1⟩
  · rcases h2 with h2 | ⟨rfl, h2⟩
    · exact .inl (t _ _ _ h1 h2)
    · exact .inl h1
  · rcases h2 with h2 | ⟨rfl, h2⟩
    · exact .inl h2
    · exact .inr ⟨rfl, list_tra t _ _ _ h1 h2⟩
theorem nat_neg (a b c : Nat) (h : a < c) : a < b ∨ b < c := by omega
theorem nat_tri (a b : Nat) (h1 : ¬ a < b) (h2 : ¬ b < a) : a = b := by omega
theorem weak_places : WeakB (fun a b : Pl => decide (a < b)) :=
 weakB_lt (list_irr (list_irr Nat.lt_irrefl)) (list_tra (list_tra fun _ _ _ => Nat.lt_trans)) (list_neg (list_neg nat_neg nat_tri fun _ _ _ => Nat.lt_trans) (list_tri nat_tri) (list_tra fun _ _ _ => Nat.lt_trans))
theorem ltAllP_map {α : Type} [LT α] [DecidableLT α] [DecidableEq α] {f : α → PyData} (he : ∀ a b, PyData.eqv (f a) (f b) = decide (a = b)) (hl : ∀ a b, ltP (f a) (f b) = decide (a < b)) (irr : ∀ a : α, ¬ a < a) : ∀ xs ys : List α, ltAllP (xs.map f) (ys.map f) = decide (xs < ys)
 | [], [] => by simp [ltAllP]
 | [], _ :: _ => by simp [ltAllP]
 | _ :: _, [] => by simp [ltAllP]
 | x :: xs, y :: ys => by
  simp only [List.map_cons, ltAllP, he, hl, ltAllP_map he hl irr xs ys]
  by_cases e : x = y
  · subst e; simp [List.cons_lt_cons_iff, irr]
  · simp [List.cons_lt_cons_iff, e]
theorem ltP_int (a b : Nat) : ltP (.int (a : Int)) (.int (b : Int)) = decide (a < b) := by simp [ltP]
theorem ltP_name (a b : List Nat) : ltP (dName a) (dName b) = decide (a < b) := by
 simp only [dName, dInts, ltP]; exact ltAllP_map eqv_int ltP_int Nat.lt_irrefl a b
theorem ltP_place (a b : Pl) : ltAllP (a.map dName) (b.map dName) = decide (a < b) := ltAllP_map eqv_name ltP_name (list_irr Nat.lt_irrefl) a b
theorem cmpAllP_map {α : Type} {f : α → PyData} (h : ∀ a b, cmpP (f a) (f b) = true) : ∀ xs ys : List α, cmpAllP (xs.map f) (ys.map f) = true
 | [], [] => rfl
 | [], _ :: _ => rfl
 | _ :: _, [] => rfl
 | x :: xs, y :: ys => by simp only [List.map_cons, cmpAllP, h, cmpAllP_map h xs ys, Bool.and_self]
theorem cmp_name (a b : List Nat) : cmpP (dName a) (dName b) = true := by
 simp only [dName, dInts, cmpP]; exact cmpAllP_map (fun _ _ => rfl) a b
theorem sorts_places : Sorts dPlace (fun a b => decide (a < b)) := by
 refine sorts_of (d := []) (.type "list") weak_places (fun w g v a h => ?_) rfl rfl fun w A s g v v' a b C hu h h' kg hC => ?_
 · obtain ⟨l, vs, k, rfl, e, x⟩ := h.listInv
   intro A Q E s k q
   exact wpAny_typeOf ⟨_, k _ _ e, rfl⟩ q
 · obtain ⟨l, vs, k, rfl, e, x⟩ := h.listInv
   obtain ⟨l', vs', k', rfl, e', x'⟩ := h'.listInv
   refine keyLt_list e e' x x' kg ?_ ?_ ?_ (cmpAllP_map cmp_name a b) (by omega) ?_
   · have := depth_place a
     simp only [dPlace, PyData.depth] at this
     omega
   · have := canLay_place a
     simpa only [dPlace, PyData.canLay0] using this
   · have := canLay_place b
     simpa only [dPlace, PyData.canLay0] using this
   · rw [ltP_place]; exact hC
end Mine
namespace Mine
set_option maxHeartbeats 1000000
open PySem PySem.W PyProof.Rows PySem.Calls PySem.Spec
def kp {α : Type} [DecidableEq α] (acc : List α) (x : α) : List α := if acc.getLast? = some x then acc else acc ++ [x]
def keepL {α : Type} [DecidableEq α] (r : List α) : List α := r.foldl kp []
section
variable {prog : Program} {w : World} {A : Around} {s : Shared} {env : Env} {E : Value → Shared → Prop} {g : Heap}
theorem eqH {a b : Addr} {xs ys : List Value} {j k : Nat} {dx dy : List PyData} {Q : Value → Shared → Prop} (kk : Le g s.heap) (ha : s.heap.get? a = some (lstObj xs j)) (hb : s.heap.get? b = some (lstObj ys k)) (hx : Dts g xs dx) (hy : Dts g ys dy)
 (sa : SeqAt.shaped (.list dx) = true) (sb : SeqAt.shaped (.list dy) = true) (hu : A.units + 65 < cLine) (h : Q (.bool (PyData.eqvAll dx dy)) s) : wpAny (model prog w) A (compareOp .Eq (.ref a) (.ref b)) Q E s := by
 obtain ⟨as, ra⟩ := (hx.up kk).reads
 obtain ⟨bs, rb⟩ := (hy.up kk).reads
 exact eq_dataH (.list ha rfl rfl (by simpa using ra)) (.list hb rfl rfl (by simpa using rb)) sa sb (by omega) h
theorem itemLast {l : Addr} {xs : List Value} {k : Nat} {t : Tok} {x : Value} {Q : Value → Shared → Prop} (hl : s.heap.get? l = some (lstObj (xs ++ [x]) k)) (h : Q x s) : ItemOn (model prog w) A E (.ref l) (.int (-1) t) Q s :=
 ⟨"list", _, list_getitem_lookup, ⟨_, hl, rfl⟩, wpAny_getItem_list_neg ⟨_, hl, rfl, _, rfl⟩ (by omega) (by simp; omega) (by decide) (by
  have e : (-1 + ((xs ++ [x]).toArray.size : Int)).toNat = xs.length := by simp; omega
  rw [e]; simp) h⟩
end
section
variable {w : World} {A : Around} {s : Shared} {g : Heap} {n : Nat}
theorem listing_gives {α : Type} [DecidableEq α] {f : α → PyData} {blt : α → α → Bool} (hs : Sorts f blt) (he : ∀ a b, PyData.eqv (f a) (f b) = decide (a = b)) (hsh : ∀ a, SeqAt.shaped (f a) = true) (hshl : ∀ l : List α, SeqAt.shaped (.list (l.map f)) = true)
 (X : Stat g) (kg : Le g s.heap) (hA : Ok A (n + 1)) (v : Value) (r : List α) (hv : Dt g v (.list (r.map f))) (hr : r.length < 64) :
 Gives pw w A (.call (.ref 418) ⟨[v], []⟩) s [] g (fun g' _ x => ∃ r' : List α, r'.Perm r ∧ r'.Pairwise (fun a b => blt b a = false) ∧ Dt g' x (.list ((keepL r').map f))) := by
 refine Gives.go 23 [v] ["rows"] ["kept", "row"] ["sorted"] rfl X kg hA rfl (BindsTo.of_eq rfl) rfl (by decide +kernel) fun h₁ env A' t' hA' C F => ?_
 obtain ⟨l, items, k, rfl, hl, hds⟩ := hv.listInv
 refine wpAny_execs_cons (wpAny_Assign_Name (lstE (sp0 (newOwn F fun a h' F ha => ?_))))
 refine st1 C F fun h' F => ?_
 dsimp only
 refine wpAny_execs_cons (For_ ?_)
 refine C1 (N_sorted C X F.keep (.head _) (ld0 C F ⟨trivial, ?_⟩))
 refine hs hA' F hl hds hr fun D g₁ h' out e r' k1 hperm hpw eD hout F => ?_
 have X₁ := X.up k1
 have hol : out.length = r'.length := by simpa using hout.len
 refine each_list (fun i g' vs' mu' => ∃ xs j u, mu' = [(a, lstObj xs j)] ∧ Stat g' ∧ Dts g' xs ((keepL (r'.take i)).map f) ∧ xs.length ≤ i ∧ vs' = [some (.ref l), some (.ref a), u]) hA'.handled F eD ⟨[], 0, _, rfl, X₁, .nil, Nat.le_refl _, rfl⟩ ?_ ?_
 · rintro i v g' vs' mu' I oI h tk hi kg' ⟨xs, j, u, rfl, X', hxs, hxl, rfl⟩ F
   obtain ⟨dd, hd, hdt⟩ := hout.get hi
   obtain ⟨x, hx, rfl⟩ : ∃ x, r'[i]? = some x ∧ f x = dd := by simpa using hd
   have hdt' := hdt.up kg'
   have hir : i < r'.length := by
    rcases Nat.lt_or_ge i r'.length with q | q
    · exact q
    · rw [List.getElem?_eq_none q] at hx; cases hx
   have hrl : r'.length < 64 := by rw [hperm.length_eq]; exact hr
   have ek : keepL (r'.take (i + 1)) = kp (keepL (r'.take i)) x := by
    rw [List.take_add_one, hx, keepL, Option.toList_some, List.foldl_append]; rfl
   generalize hK : keepL (r'.take i) = K at hxs ek
   have hKl : xs.length = K.length := by simpa using hxs.len
   refine st2 C F fun h' F => ?_
   dsimp only
   refine wpAny_execs_cons (ifJ (fun s₂ => ∃ g₂ xs' j' h' t', s₂ = { s with heap := h', toks := t' } ∧ Le g' g₂ ∧ Dts g₂ xs' ((kp K x).map f) ∧ xs'.length ≤ i + 1 ∧
    St s.heap [] g g₂ env.locals ["rows", "kept", "row"] [some (.ref l), some (.ref a), some v] [(I, oI), (a, lstObj xs' j')] h') ?_ ?_)
   · refine wpAny_mono (Q := fun c s₁ => c = decide (K.getLast? ≠ some x) ∧ ∃ g₂ h' t', s₁ = { s with heap := h', toks := t' } ∧ Le g' g₂ ∧ St s.heap [] g g₂ env.locals ["rows", "kept", "row"] [some (.ref l), some (.ref a), some v] [(I, oI), (a, lstObj xs j)] h') ?_ (fun c s₁ hc => ?_) fun _ _ e => e
     · refine isTrue_or (wpAny_isTrue_Compare1 (ld1 C F (lstE (sp0 ?_))))
       refine newLst F fun l2 g₂ h' k2 eD2 F => ?_
       refine eqH (g := g₂) F.keep (F.mt _ (.tail _ (.head _))).1 (F.keep _ _ eD2) (hxs.up k2) .nil (hshl K) rfl hA'.c (wpAny_truthy_bool ?_)
       rcases List.eq_nil_or_concat K with hKn | ⟨K', y, hKc⟩
       · subst hKn
         have e : PyData.eqvAll (([] : List α).map f) [] = true := rfl
         rw [e]
         exact ⟨by simp, g₂, _, _, rfl, k2, F⟩
       · have hKc' : K = K' ++ [y] := by simpa using hKc
         subst hKc'
         have e : PyData.eqvAll ((K' ++ [y]).map f) [] = false := by
          cases K' <;> simp [PyData.eqvAll]
         rw [e]
         obtain ⟨ys, z, rfl⟩ : ∃ ys z, xs = ys ++ [z] := by
          rcases List.eq_nil_or_concat xs with q | ⟨ys, z, q⟩
          · rw [q] at hKl; simp at hKl
          · exact ⟨ys, z, by simpa using q⟩
         have hz : Dt g' z (f y) := by
          have hyl : ys.length = K'.length := by simpa using hKl
          obtain ⟨d, hd2, hdz⟩ := hxs.get (i := ys.length) (v := z) (by simp)
          rw [List.map_append, List.getElem?_append_right (by simp [hyl])] at hd2
          have : d = f y := by simpa [hyl] using hd2.symm
          rw [← this]; exact hdz
         refine isTrue_or (wpAny_isTrue_Compare1 ?_)
         refine Subscript_UnaryOp ?_
         refine ld1 C F ?_
         refine UnaryOp_ (wpAny_Constant_int ?_)
         refine P.neg_int ?_
         refine itemLast (F.mt _ (.tail _ (.head _))).1 ?_
         refine ld2 C F ?_
         refine neD F.keep (hz.up k2) (hdt'.up k2) (hsh y) (hsh x) hA'.c (wpAny_truthy_bool ?_)
         rw [he]
         cases q : decide (y = x) with
         | true =>
          have : y = x := of_decide_eq_true q
          subst this
          refine isTrue_or_nil ?_
          exact ⟨by simp, g₂, _, _, rfl, k2, F⟩
         | false =>
          have : y ≠ x := of_decide_eq_false q
          rw [if_pos (show (!false) = true from rfl)]
          exact ⟨by simp [this], g₂, _, _, rfl, k2, F⟩
     · obtain ⟨rfl, g₂, h', t', rfl, k2, F⟩ := hc
       by_cases q : K.getLast? = some x
       · rw [if_neg (by simp [q])]
         refine ⟨g₂, xs, j, _, _, rfl, k2, ?_, by omega, F⟩
         rw [kp, if_pos q]; exact hxs.up k2
       · rw [if_pos (by simp [q])]
         refine wpAny_execs_cons (wpAny_Expr (appS (h₀ := s.heap) (xt := []) (g₀ := g) (L := env.locals) (N := ["rows", "kept", "row"]) (a := a) (xs := xs) (j := j) (pre := [(I, oI)]) (post := []) (by omega) (ld1 C F ⟨rfl, ⟨_, (F.mt _ (.tail _ (.head _))).1, rfl, rfl⟩, ld2 C F ⟨g₂, _, F, fun h' F => ?_⟩⟩)) C.inter rfl)
         refine wpAny_execs_nil ⟨rfl, g₂, xs ++ [v], j + 1, h', _, rfl, k2, ?_, by simp; omega, F⟩
         rw [kp, if_neg q, List.map_append]
         exact (hxs.up k2).snoc (hdt'.up k2)
   · rintro s₂ ⟨g₂, xs', j', h', t', rfl, k2, hxs', hxl', F⟩
     refine wpAny_execs_nil (turn_next k2 F ⟨xs', j', _, rfl, X'.up k2, ?_, hxl', rfl⟩)
     rw [ek]; exact hxs'
 · rintro g' vs' mu' h tk kg' ⟨xs, j, u, rfl, X', hxs, hxl, rfl⟩ F
   obtain ⟨g₂, k2, eD, F₂⟩ := F.freeze (pre := []) (post := []) rfl ha
   refine wpAny_execs_cons (wpAny_Return_some (ld1 C F₂ ?_))
   refine ends F₂ ⟨r', hperm, hpw, .list eD ?_⟩
   rw [hol, List.take_length] at hxs
   exact hxs.up k2
end
end Mine
namespace Mine
set_option maxHeartbeats 1000000
open PySem PySem.W PyProof.Rows PySem.Calls PySem.Spec
open AutoSeq1 (wpAny_loadPart')
theorem mro_map : mroOf (.type "map") = pure [.type "map", .type "object"] := by rw [mroOf_type]; kernel_rfl
theorem lookup_map_new : typeLookup (.type "map") "__new__" = pure (some (.builtin "map.__new__")) := by rw [typeLookup_type, builtinLookup_eq_fast]; kernel_rfl
theorem slot_map_next : Slot "map" "__next__" "map.__next__" :=
 .of (owner := "map") (n := "__next__") (by rw [typeLookup_type, builtinLookup_eq_fast]; kernel_rfl) (by decide +kernel) (by decide +kernel) (by decide +kernel)
  (by first | exact .inl (by decide +kernel) | exact .inr (by decide +kernel)) (by rw [isSubtype_type]; kernel_rfl)
theorem entry_map_next : entryFor table "map.__next__" = some Builtin.«map.__next__» := entryFor_of_tree (by kernel_rfl)
theorem args_map_next (a : Value) : argsOk "map.__next__" ⟨[a], []⟩ := by unfold argsOk; kernel_rfl
theorem slot_map_init : Slot "map" "__init__" "object.__init__" :=
 .of (owner := "object") (n := "__init__") (by rw [typeLookup_type, builtinLookup_eq_fast]; kernel_rfl) (by decide +kernel) (by decide +kernel) (by decide +kernel)
  (by first | exact .inl (by decide +kernel) | exact .inr (by decide +kernel)) (by rw [isSubtype_type]; kernel_rfl)
theorem called_map : TypeCalled "map" "map.__new__" "object.__init__" :=
 ⟨by decide +kernel, by decide +kernel, ⟨_, _, mro_map⟩, madeBy_type mro_map lookup_map_new (by decide +kernel), by decide +kernel, by rw [isSubtype_type]; kernel_rfl, slot_map_init⟩
theorem typeCall_map (a b : Value) : checkTypeCall "map" ⟨[a, b], []⟩ = pure () := by kernel_rfl
theorem newCall_map (a b : Value) : checkBuiltinCall "map.__new__" ⟨[.type "map", a, b], []⟩ = pure () := by kernel_rfl
theorem entry_map_new : entryFor table "map.__new__" = some Builtin.«map.__new__» := entryFor_of_tree (by kernel_rfl)
theorem sub_map : isSubtype (.type "map") (.type "map") = pure true := by rw [isSubtype_type]; kernel_rfl
abbrev mapObj (T : Addr) (f : Value) : Obj := { cls := .type "map", data := .fields #[.ref T, f] }
theorem meets_map_new (f : Value) (l : Addr) (items : Array Value) (n : Nat) :
 Meets (Builtin.«map.__new__» ⟨[.type "map", f, .ref l], []⟩) (fun _ R s => s.heap.get? l = some { cls := .type "list", dict := none, data := .seq items n, slots := #[] } ∧
  R (.ok (.ret (.ref (s.heap.objs.size + 1 + 1))))
   { s with heap := ((s.heap.push { cls := .type "list_iterator", data := .fields #[.ref l, .int 0 0] }).push (tupObj [.ref s.heap.objs.size])).push (mapObj (s.heap.objs.size + 1) f) }) :=
 .of_wp fun prog w A R s h => by
  obtain ⟨hp, g, d, tk, os⟩ := s; obtain ⟨hl, h⟩ := h
  have hsub := sub_map
  have hL : Heap.IsList (Shared.heap ⟨hp, g, d, tk, os⟩) l items := ⟨_, hl, rfl, n, rfl⟩
  wp_walk using wpAny_loadPart' hl, wpAny_pyIter_list hL
  refine ⟨_, rfl, ?_⟩
  have e1 : (Heap.push hp { cls := .type "list_iterator", data := .fields #[.ref l, .int 0 0] }).objs.size = hp.objs.size + 1 := Heap.size_push ..
  have e2 : ((Heap.push hp { cls := .type "list_iterator", data := .fields #[.ref l, .int 0 0] }).push (tupObj [.ref hp.objs.size])).objs.size = hp.objs.size + 1 + 1 := by rw [Heap.size_push, e1]
  show R (Except.ok (Flow.ret (Value.ref ((Heap.push hp { cls := .type "list_iterator", data := .fields #[.ref l, .int 0 0] }).push (tupObj [.ref hp.objs.size])).objs.size))) ⟨((Heap.push hp { cls := .type "list_iterator", data := .fields #[.ref l, .int 0 0] }).push (tupObj [.ref hp.objs.size])).push (mapObj (Heap.push hp { cls := .type "list_iterator", data := .fields #[.ref l, .int 0 0] }).objs.size f), g, d, tk, os⟩
  rw [e2, e1]
  exact h
section
variable {prog : Program} {w : World} {A : Around} {E : Value → Shared → Prop} {s : Shared}
theorem map_item {M T It l : Addr} {f x : Value} {i : Nat} {items : Array Value} {Q : Option Value → Shared → Prop} (hM : s.heap.get? M = some (mapObj T f)) (hT : s.heap.get? T = some (tupObj [.ref It])) (hit : s.heap.IsListIter It l i) (hl : s.heap.IsList l items) (hx : items[i]? = some x) (hne : M ≠ It)
 (h : ∀ h', h'.IsListIter It l (i + 1) → Heap.SameBut It s.heap h' → wpAny (model prog w) A.in1 (call f [x]) (fun v s' => Q (some v) s') no { s with heap := h' }) : wpAny (model prog w) A (pyNext (.ref M)) Q E s := by
 have hTy : s.TypeIs (.ref M) "map" := ⟨_, hM, rfl⟩
 unfold pyNext
 refine wpAny_bind (wpAny_attempt (wpAny_callSpecial?_slot (name := Str.ofString "__next__") hTy slot_map_next (wpAny_call_entry slot_map_next hTy entry_map_next ?_ (args_map_next _))))
 obtain ⟨hp, g, d, tk, os⟩ := s
 show wpAny _ _ (field (.ref M) 0 >>= _) _ _ _
 refine wpAny_bind (wpAny_field hM rfl (x := .ref T) rfl ?_)
 show wpAny _ _ (seqItems? (.ref T) >>= _) _ _ _
 refine wpAny_bind (wpAny_seqItems hT rfl ?_)
 dsimp only
 refine wpAny_bind ?_
 rw [← Array.forIn_toList]
 show wpAny _ _ (forIn [Value.ref It] (#[] : Array Value) _) _ _ _
 rw [List.forIn_cons]
 refine wpAny_bind (wpAny_bind (wpAny_holding (wpAny_nextOf_list_item hit hl hx fun h₁ hit₁ hs₁ => ?_)))
 refine wpAny_pure ?_
 dsimp only
 rw [List.forIn_nil]
 refine wpAny_pure ?_
 refine wpAny_bind (wpAny_field (x := f) ((hs₁.2 M hne).trans hM) rfl rfl ?_)
 refine wpAny_bind (wpAny_holding (wpAny_no (wpAny_mono (h h₁ hit₁ hs₁) (fun v s' hv => ?_) fun _ _ e => e)))
 refine wpAny_bind (wpAny_letGo ?_)
 exact wpAny_pure ⟨_, rfl, wpAny_pure hv⟩
theorem map_end {M T It l : Addr} {f : Value} {i : Nat} {items : Array Value} {Q : Option Value → Shared → Prop} (hh : A.handled = none) (hM : s.heap.get? M = some (mapObj T f)) (hT : s.heap.get? T = some (tupObj [.ref It])) (hit : s.heap.IsListIter It l i) (hl : s.heap.IsList l items) (hx : items[i]? = none)
 (h : ∀ h', Heap.ExtBut It s.heap h' → Q none { s with heap := h' }) : wpAny (model prog w) A (pyNext (.ref M)) Q E s := by
 have hTy : s.TypeIs (.ref M) "map" := ⟨_, hM, rfl⟩
 unfold pyNext
 refine wpAny_bind (wpAny_attempt (wpAny_callSpecial?_slot (name := Str.ofString "__next__") hTy slot_map_next (wpAny_call_entry slot_map_next hTy entry_map_next ?_ (args_map_next _))))
 obtain ⟨hp, g, d, tk, os⟩ := s
 show wpAny _ _ (field (.ref M) 0 >>= _) _ _ _
 refine wpAny_bind (wpAny_field hM rfl (x := .ref T) rfl ?_)
 show wpAny _ _ (seqItems? (.ref T) >>= _) _ _ _
 refine wpAny_bind (wpAny_seqItems hT rfl ?_)
 dsimp only
 refine wpAny_bind ?_
 rw [← Array.forIn_toList]
 show wpAny _ _ (forIn [Value.ref It] (#[] : Array Value) _) _ _ _
 rw [List.forIn_cons]
 refine wpAny_bind (wpAny_bind (wpAny_holding (wpAny_nextOf_list_end hh hit hl hx fun h' x he' hx' => ?_)))
 obtain ⟨o, ho, hc⟩ := hx'
 refine wpAny_bind (wpAny_isInstance (T := "StopIteration") (b := true) ⟨o, ho, hc⟩ isSubtype_stop ?_)
 exact wpAny_pure (h _ he')
end
theorem slot_map_iter : Slot "map" "__iter__" "map.__iter__" :=
 .of (owner := "map") (n := "__iter__") (by rw [typeLookup_type, builtinLookup_eq_fast]; kernel_rfl) (by decide +kernel) (by decide +kernel) (by decide +kernel)
  (by first | exact .inl (by decide +kernel) | exact .inr (by decide +kernel)) (by rw [isSubtype_type]; kernel_rfl)
theorem entry_map_iter : entryFor table "map.__iter__" = some Builtin.«dict_keyiterator.__iter__» :=
 entryFor_alias (id' := "dict_keyiterator.__iter__") (by kernel_rfl) (by first | rfl | decide +kernel | (unfold String.splitOn; simp +decide [String.splitOnAux])) (by decide +kernel) (by kernel_rfl)
theorem args_map_iter (a : Value) : argsOk "map.__iter__" ⟨[a], []⟩ := by unfold argsOk; kernel_rfl
theorem map_no_len : typeLookup (.type "map") "__len__" = pure none := by rw [typeLookup_type, builtinLookup_eq_fast]; kernel_rfl
theorem map_no_hint : typeLookup (.type "map") "__length_hint__" = pure none := by rw [typeLookup_type, builtinLookup_eq_fast]; kernel_rfl
section
variable {prog : Program} {w : World} {A : Around} {E : Value → Shared → Prop} {s : Shared}
theorem map_self {M : Addr} {o : Obj} {Q : Value → Shared → Prop} (hM : s.heap.get? M = some o) (hc : o.cls = .type "map") (h : Q (.ref M) s) : wpAny (model prog w) A (pyIter (.ref M)) Q E s := by
 have hT : s.TypeIs (.ref M) "map" := ⟨_, hM, hc⟩
 refine wpAny_pyIter_slot hT slot_map_iter (wpAny_call_entry slot_map_iter hT entry_map_iter ?_ (args_map_iter _))
 show wpAny _ _ (ret (.ref M)) _ _ s
 exact wpAny_pure ⟨_, rfl, "map", _, hT, slot_map_next.lookup, h⟩
variable {h₀ g₀ g : Heap} {xt : List Addr} {L : Addr} {N : List Str} {vs : List (Option Value)} {mu : List (Addr × Obj)}
theorem newMap {l : Addr} {f : Value} {items : List Value} {k : Nat} {Q : Value → Shared → Prop} (F : St h₀ xt g₀ g L N vs mu s.heap) (hl : g.get? l = some (lstObj items k))
 (h : ∀ M T It g' h', Le g g' → g'.get? M = some (mapObj T f) → g'.get? T = some (tupObj [.ref It]) → h'.IsListIter It l 0 → h₀.objs.size ≤ It → St h₀ xt g₀ g' L N vs ((It, litObj l) :: mu) h' → Q (.ref M) { s with heap := h' }) :
 wpAny (model prog w) A (call (.type "map") [f, .ref l]) Q E s := by
 refine callType_new called_map (by decide) (typeCall_map _ _) (newCall_map _ _) (fun obj => ?_) entry_map_new (meets_map_new f l items.toArray k) ⟨F.keep _ _ hl, ?_⟩
 · unfold argsOk; rw [signature?_of (id := "object.__init__") (n := ['_', '_', 't', 'i', 'n', 'i', '_', '_']) (o := ['t', 'c', 'e', 'j', 'b', 'o']) (by kernel_rfl) PySem.F.owner_object]; kernel_rfl
 · have F₁ := F.own (litObj l)
   obtain ⟨g₁, k1, e1, F₂⟩ := F₁.made (tupObj [.ref s.heap.objs.size])
   obtain ⟨g₂, k2, e2, F₃⟩ := F₂.made (mapObj (s.heap.objs.size + 1) f)
   have z1 : (s.heap.push (litObj l)).objs.size = s.heap.objs.size + 1 := Heap.size_push ..
   have z2 : ((s.heap.push (litObj l)).push (tupObj [.ref s.heap.objs.size])).objs.size = s.heap.objs.size + 1 + 1 := by rw [Heap.size_push, z1]
   rw [z1] at e1
   rw [z2] at e2
   exact ⟨⟨_, F₃.keep _ _ e2, rfl⟩, h _ _ _ g₂ _ (k1.tr k2) e2 (k2 _ _ e1) ⟨_, (F₃.mt _ (.head _)).1, rfl, rfl⟩ F.lowSz F₃⟩
theorem grow_map {w : World} {S M T It l : Addr} {f res : Value} {items : List Value} {k₀ : Nat} {R : Result → Shared → Prop} (hh : A.handled = none) (J : Nat → Heap → List Value → Prop)
 (hM : g.get? M = some (mapObj T f)) (hT : g.get? T = some (tupObj [.ref It])) (hl : g.get? l = some (lstObj items k₀)) (hn : items.length ≤ 1000)
 (turn : ∀ i x g' ys h tk oI c, items[i]? = some x → Le g g' → J i g' ys → St h₀ xt g₀ g' L N vs ((It, oI) :: (S, lstObj ys c) :: mu) h →
  wpAny (model prog w) A.in1.in1 (call f [x]) (fun v s' => ∃ g'' h'' t'', s' = { s with heap := h'', toks := t'' } ∧ Le g' g'' ∧ St h₀ xt g₀ g'' L N vs ((It, oI) :: (S, lstObj ys c) :: mu) h'' ∧ J (i + 1) g'' (ys ++ [v])) no { s with heap := h, toks := tk })
 (done : ∀ g' ys h tk c, Le g g' → J items.length g' ys → ys.length = items.length → St h₀ xt g₀ g' L N vs ((S, lstObj ys c) :: mu) h → R (.ok (.ret res)) { s with heap := h, toks := tk }) :
 ∀ (k i : Nat) (g' : Heap) (ys : List Value) (h : Heap) (tk : Nat) (oI : Obj) (c : Nat), items.length - i = k → i ≤ items.length → ys.length = i → Le g g' → J i g' ys → St h₀ xt g₀ g' L N vs ((It, oI) :: (S, lstObj ys c) :: mu) h → h.IsListIter It l i →
  codeAny (model prog w) A (.builtin "list.extend.loop" ⟨[.ref S, .ref M, res], []⟩) R { s with heap := h, toks := tk } := by
 intro k
 induction k with
 | zero =>
  intro i g' ys h tk oI c hk hi hy kg hJ F hit
  have hin : i = items.length := by omega
  subst hin
  refine codeAny_builtin PySem.F.entry_extend_loop ?_
  rw [Around.under_plainId PySem.F.plain_extend_loop _]
  show wpAny _ A.in1 (pyNext (.ref M) >>= _) _ _ _
  refine wpAny_bind (map_end (i := items.length) (items := items.toArray) hh (F.keep _ _ (kg _ _ hM)) (F.keep _ _ (kg _ _ hT)) hit ⟨_, F.keep _ _ (kg _ _ hl), rfl, _, rfl⟩ (by simp) fun h' he => ?_)
  exact wpAny_pure (done g' ys h' tk c kg hJ hy (F.but fun b o hb e => he b o (fun q => hb (by simp [q])) e))
 | succ k ih =>
  intro i g' ys h tk oI c hk hi hy kg hJ F hit
  have hlt : i < items.length := by omega
  refine codeAny_builtin PySem.F.entry_extend_loop ?_
  rw [Around.under_plainId PySem.F.plain_extend_loop _]
  show wpAny _ A.in1 (pyNext (.ref M) >>= _) _ _ _
  have hMI : M ≠ It := fun q => by
   have z := (F.mt _ (.head _)).2.2.1
   rw [← q, kg _ _ hM] at z; cases z
  refine wpAny_bind (map_item (i := i) (items := items.toArray) (x := items[i]) (F.keep _ _ (kg _ _ hM)) (F.keep _ _ (kg _ _ hT)) hit ⟨_, F.keep _ _ (kg _ _ hl), rfl, _, rfl⟩ (by simp [hlt]) hMI fun h₁ hit₁ hs₁ => ?_)
  obtain ⟨o₁, ho₁, hc₁, hd₁⟩ := hit₁
  have F₁ := F.turn (pre := []) rfl hs₁ ho₁
  refine wpAny_mono (turn i items[i] g' ys h₁ tk o₁ c (by simp [hlt]) kg hJ F₁) (fun v s' hv => ?_) fun _ _ e => e.elim
  obtain ⟨g'', h'', t'', rfl, k2, F₂, hJ₂⟩ := hv
  have hS := (F₂.mt _ (.tail _ (.head _))).1
  show wpAny _ A.in1 (updateSeq S (·.push v) >>= _) _ _ _
  refine wpAny_bind (wpAny_updateSeq hS rfl ?_ (by show ys.toArray.size ≤ _; rw [List.size_toArray, sizeLine_eq]; omega) (by simp; rw [sizeLine_eq]; omega))
  have eS : (h''.update S (Obj.mapSeq (·.push v))).get? S = some (lstObj (ys ++ [v]) (c + 1)) := by
   rw [Heap.get?_update_self _ hS rfl]
   show some ({ cls := .type "list", dict := none, data := .seq (ys.toArray.push v) (if (ys.toArray.push v).size == ys.toArray.size then c else c + 1), slots := #[] } : Obj) = _
   have e2 : ((ys.toArray.push v).size == ys.toArray.size) = false := by simp
   rw [e2, List.push_toArray]; rfl
  have F₃ := F₂.turn (pre := [(It, o₁)]) rfl (Heap.SameBut.update ..) eS
  exact wpAny_pure ⟨plainId_quiet PySem.F.plain_extend_loop _, ih (i + 1) g'' (ys ++ [v]) _ t'' o₁ (c + 1) (by omega) hlt (by simp [hy]) (kg.tr k2) hJ₂ F₃ ⟨o₁, (F₃.mt _ (.head _)).1, hc₁, hd₁⟩⟩
end
end Mine
namespace Mine
set_option maxHeartbeats 1000000
open PySem PySem.W PyProof.Rows PySem.Calls PySem.Spec
open AutoSeq1 (wpAny_loadPart')
section
variable {prog : Program} {w : World} {A : Around} {E : Value → Shared → Prop} {s : Shared}
variable {h₀ g₀ g : Heap} {xt : List Addr} {L : Addr} {N : List Str} {vs : List (Option Value)} {mu : List (Addr × Obj)}
def MapTurn (prog : Program) (w : World) (A : Around) (s : Shared) (h₀ g₀ g : Heap) (xt : List Addr) (L : Addr) (N : List Str) (vs : List (Option Value)) (mu : List (Addr × Obj)) (It S : Addr) (f : Value) (items : List Value) (J : Nat → Heap → List Value → Prop) : Prop :=
 ∀ i x g' ys h tk oI c, items[i]? = some x → Le g g' → J i g' ys → St h₀ xt g₀ g' L N vs ((It, oI) :: (S, lstObj ys c) :: mu) h →
  wpAny (model prog w) A (call f [x]) (fun v s' => ∃ g'' h'' t'', s' = { s with heap := h'', toks := t'' } ∧ Le g' g'' ∧ St h₀ xt g₀ g'' L N vs ((It, oI) :: (S, lstObj ys c) :: mu) h'' ∧ J (i + 1) g'' (ys ++ [v])) no { s with heap := h, toks := tk }
theorem St.swap {h : Heap} {p q : Addr × Obj} (F : St h₀ xt g₀ g L N vs (p :: q :: mu) h) : St h₀ xt g₀ g L N vs (q :: p :: mu) h := by
 refine ⟨F.len, F.ns, F.base, F.keep, F.low, F.outg, fun r hr => ?_, ?_, F.mono, F.fresh⟩
 · rcases List.mem_cons.mp hr with rfl | hr
   · exact F.mt _ (.tail _ (.head _))
   · rcases List.mem_cons.mp hr with rfl | hr
     · exact F.mt _ (.head _)
     · exact F.mt _ (.tail _ (.tail _ hr))
 · have nd := F.nd
   simp only [List.map_cons, List.nodup_cons, List.mem_cons, not_or] at nd ⊢
   exact ⟨⟨Ne.symm nd.1.1, nd.2.1⟩, nd.1.2, nd.2.2⟩
theorem ext_map {S M T It l : Addr} {f res : Value} {items : List Value} {k₀ c₀ : Nat} {oI₀ : Obj} {R : Result → Shared → Prop} (hh : A.handled = none) (J : Nat → Heap → List Value → Prop)
 (hM : g.get? M = some (mapObj T f)) (hT : g.get? T = some (tupObj [.ref It])) (hl : g.get? l = some (lstObj items k₀)) (hn : items.length ≤ 1000)
 (F : St h₀ xt g₀ g L N vs ((It, oI₀) :: (S, lstObj [] c₀) :: mu) s.heap) (hit : s.heap.IsListIter It l 0) (hj : J 0 g [])
 (turn : MapTurn prog w A.in1.in1 s h₀ g₀ g xt L N vs mu It S f items J)
 (done : ∀ g' ys h tk c, Le g g' → J items.length g' ys → ys.length = items.length → St h₀ xt g₀ g' L N vs ((S, lstObj ys c) :: mu) h → R (.ok (.ret res)) { s with heap := h, toks := tk }) :
 wpAny (model prog w) A.in1 (Builtin.List.listExtendWith (.ref S) (.ref M) res)
  (fun fin s' => match fin with | .done f => R (.ok f) s' | .again c' => c'.quiet = true ∧ codeAny (model prog w) A c' R s') (fun e s' => R (.error e) s') s := by
 have hTy : s.TypeIs (.ref M) "map" := ⟨_, F.keep _ _ hM, rfl⟩
 have hSM : S ≠ M := fun q => by
  have z := (F.mt _ (.tail _ (.head _))).2.2.1
  rw [q, hM] at z; cases z
 unfold Builtin.List.listExtendWith
 refine wpAny_bind (wpAny_typeOf hTy ?_)
 have h1 : Builtin.List.listSameRef (.ref S) (.ref M) = false := by simp [Builtin.List.listSameRef, hSM]
 have h2 : (Value.type "map" == Value.type "list") = false := by decide
 have h3 : (Value.type "map" == Value.type "tuple") = false := by decide
 simp only [h1, h2, h3, Bool.or_false, Bool.false_eq_true, if_false]
 refine wpAny_bind (map_self (F.keep _ _ hM) rfl ?_)
 refine wpAny_bind (wpAny_holding ?_)
 unfold Builtin.List.listLengthHint
 refine wpAny_bind (wpAny_specialOf hTy map_no_len ?_)
 show wpAny _ A.in1 (specialOf (Value.ref M) (Str.ofString "__length_hint__") >>= _) _ _ _
 refine wpAny_bind (wpAny_specialOf hTy map_no_hint ?_)
 refine wpAny_pure ?_
 show wpAny _ A.in1 (rule "list.extend.makes-room" >>= fun _ => Builtin.List.listTouch (.ref S) >>= fun _ =>
  again (.builtin "list.extend.loop" ⟨[.ref S, .ref M, res], []⟩)) _ _ _
 refine wpAny_bind (wpAny_rule ?_)
 have hS₁ := (F.mt _ (.tail _ (.head _))).1
 refine wpAny_bind ?_
 show wpAny _ A.in1 (updateSeq S (·.push .none) >>= fun _ => updateSeq S (·.pop)) _ _ _
 refine wpAny_bind (wpAny_updateSeq hS₁ rfl ?_ (by simp) (by simp [sizeLine_eq]))
 have e1 : (s.heap.update S (Obj.mapSeq (·.push Value.none))).get? S = some (lstObj [Value.none] (c₀ + 1)) := Heap.get?_update_self _ hS₁ rfl
 have F₁ := F.turn (pre := [(It, oI₀)]) rfl (Heap.SameBut.update ..) e1
 refine wpAny_updateSeq e1 rfl ?_ (by simp [sizeLine_eq]) (by simp)
 have e2 : ((s.heap.update S (Obj.mapSeq (·.push Value.none))).update S (Obj.mapSeq (·.pop))).get? S = some (lstObj [] (c₀ + 1 + 1)) := Heap.get?_update_self _ e1 rfl
 have F₂ := F₁.turn (pre := [(It, oI₀)]) rfl (Heap.SameBut.update ..) e2
 obtain ⟨o, ho, hc, hd⟩ := hit
 have eo : o = oI₀ := by
  have z := (F.mt _ (.head _)).1
  rw [ho] at z; exact Option.some.inj z
 subst eo
 refine wpAny_pure ⟨plainId_quiet PySem.F.plain_extend_loop _, grow_map (A := A) (s := s) hh J hM hT hl hn turn done _ 0 g [] _ s.toks o _ rfl (Nat.zero_le _) rfl Le.rfl' hj F₂ ⟨o, (F₂.mt _ (.head _)).1, hc, hd⟩⟩
theorem code_collect_map {M T It l : Addr} {f : Value} {items : List Value} {k₀ : Nat} {oI₀ : Obj} {R : Result → Shared → Prop} (hh : A.handled = none) (J : Nat → Heap → List Value → Prop)
 (hM : g.get? M = some (mapObj T f)) (hT : g.get? T = some (tupObj [.ref It])) (hl : g.get? l = some (lstObj items k₀)) (hn : items.length ≤ 1000)
 (F : St h₀ xt g₀ g L N vs ((It, oI₀) :: mu) s.heap) (hit : s.heap.IsListIter It l 0) (hj : J 0 g [])
 (turn : ∀ S, MapTurn prog w A.in1.in1 s h₀ g₀ g xt L N vs mu It S f items J)
 (done : ∀ D g' ys h tk c, Le g g' → J items.length g' ys → ys.length = items.length → St h₀ xt g₀ g' L N vs ((D, lstObj ys c) :: mu) h → R (.ok (.ret (.ref D))) { s with heap := h, toks := tk }) :
 codeAny (model prog w) A (.builtin "proto.collect" ⟨[.ref M], []⟩) R s := by
 refine codeAny_builtin PySem.F.entry_proto_collect ?_
 rw [Around.under_plainId PySem.F.plain_proto_collect _]
 show wpAny _ A.in1 (newList [] >>= fun l => again (.builtin "list.__iadd__" ⟨[l, .ref M], []⟩)) _ _ s
 refine wpAny_bind (wpAny_newObj_type ?_)
 refine wpAny_pure ⟨plainId_quiet PySem.F.plain_list_iadd _, codeAny_builtin PySem.F.entry_list_iadd ?_⟩
 rw [Around.under_plainId PySem.F.plain_list_iadd _]
 have F₁ := (F.own (lstObj [] 0)).swap
 obtain ⟨o, ho, hc, hd⟩ := hit
 have hit₁ : (s.heap.push (lstObj [] 0)).IsListIter It l 0 := ⟨o, Heap.get?_push_of_some _ ho, hc, hd⟩
 show wpAny _ A.in1 (Builtin.List.listExtendWith (.ref s.heap.objs.size) (.ref M) (.ref s.heap.objs.size)) _ _ _
 refine ext_map (A := A) (s := { s with heap := s.heap.push (lstObj [] 0) }) (R := R) hh J hM hT hl hn F₁ hit₁ hj ?_ ?_
 · exact fun i x g' ys h tk oI c hx kg hJ F' => turn _ i x g' ys h tk oI c hx kg hJ F'
 · exact fun g' ys h tk c kg hJ hy F' => done _ g' ys h tk c kg hJ hy F'
theorem collect_map {M T It l : Addr} {f : Value} {items : List Value} {k₀ : Nat} {oI₀ : Obj} {Q : List Value → Shared → Prop} (hh : A.handled = none) (J : Nat → Heap → List Value → Prop)
 (hM : g.get? M = some (mapObj T f)) (hT : g.get? T = some (tupObj [.ref It])) (hl : g.get? l = some (lstObj items k₀)) (hn : items.length ≤ 1000)
 (F : St h₀ xt g₀ g L N vs ((It, oI₀) :: mu) s.heap) (hit : s.heap.IsListIter It l 0) (hj : J 0 g [])
 (turn : ∀ S, MapTurn prog w A.in1.in1 s h₀ g₀ g xt L N vs mu It S f items J)
 (done : ∀ g' ys h tk, Le g g' → J items.length g' ys → ys.length = items.length → St h₀ xt g₀ g' L N vs mu h → Q ys { s with heap := h, toks := tk }) :
 wpAny (model prog w) A (collect (.ref M)) Q E s := by
 unfold collect
 refine wpAny_bind (wpAny_runValue (code_collect_map hh J hM hT hl hn F hit hj turn fun D g' ys h tk c kg hJ hy F' => ?_))
 show wpAny _ A (load D >>= _) _ _ _
 refine wpAny_bind (wpAny_load (F'.mt _ (.head _)).1 ?_)
 exact wpAny_pure (done g' ys h tk kg hJ hy (F'.sub (List.sublist_cons_self _ _)))
theorem meets_tuple_map {M T : Addr} {f : Value} {A : Around} {s : Shared} {Q : Value → Shared → Prop} (hM : s.heap.get? M = some (mapObj T f))
 (hc : wpAny (model prog w) A (collect (.ref M)) (fun xs s' => xs.length ≤ sizeLine ∧ Q (.ref s'.heap.objs.size) { s' with heap := s'.heap.push (tupObj xs) }) E s) :
 wpAny (model prog w) A (Builtin.«tuple.__new__» ⟨[.type "tuple", .ref M], []⟩) (fun fin s' => ∃ v, fin = .done (.ret v) ∧ Q v s') E s := by
 have hsub := sub_tuple_self
 have hinit := init_tuple_lookup
 have hmh := madeHere_tuple
 obtain ⟨hp, g, d, tk, os⟩ := s
 have hT : Shared.TypeIs ⟨hp, g, d, tk, os⟩ (.ref M) "map" := ⟨_, hM, rfl⟩
 have hTT : isSubtype (.type "map") (.type "tuple") = pure false := by rw [isSubtype_type]; kernel_rfl
 repeat (first | assumption | (refine wpAny_bind (wpAny_mono hc (fun xs s' hx => ?_) fun _ _ e => e)) | (refine wpAny_typeOf hT ?_) | wp_step)
 exact ⟨_, rfl, hx.2⟩
theorem tuple_map {M T It l : Addr} {f : Value} {items : List Value} {k₀ : Nat} {oI₀ : Obj} {Q : Value → Shared → Prop} (hh : A.handled = none) (J : Nat → Heap → List Value → Prop)
 (hM : g.get? M = some (mapObj T f)) (hT : g.get? T = some (tupObj [.ref It])) (hl : g.get? l = some (lstObj items k₀)) (hn : items.length ≤ 1000)
 (F : St h₀ xt g₀ g L N vs ((It, oI₀) :: mu) s.heap) (hit : s.heap.IsListIter It l 0) (hj : J 0 g [])
 (turn : ∀ S, MapTurn prog w A.in1.in1.in1.in1 s h₀ g₀ g xt L N vs mu It S f items J)
 (done : ∀ D g₁ g' ys h tk, Le g g' → Le g₁ g' → J items.length g₁ ys → g'.get? D = some (tupObj ys) → St h₀ xt g₀ g' L N vs mu h → Q (.ref D) { s with heap := h, toks := tk }) :
 wpAny (model prog w) A (call (.type "tuple") [.ref M]) Q E s := by
 refine callType_newIn PySem.F.called_tuple (by decide) (PySem.F.typeCall_tuple_1 _) (PySem.F.newCall_tuple_1 _) (fun obj => PySem.F.args_object_init_2 obj _) PySem.F.entry_tuple_new
  (S := fun A R s => s.heap.get? M = some (mapObj T f) ∧ wpAny (model prog w) A.in1 (collect (.ref M)) (fun xs s' => xs.length ≤ sizeLine ∧ R (.ok (.ret (.ref s'.heap.objs.size))) { s' with heap := s'.heap.push (tupObj xs) }) (fun e s' => R (.error e) s') s)
  (.of_wp fun A R s hs => meets_tuple_map hs.1 hs.2) ⟨F.keep _ _ hM, ?_⟩
 refine collect_map hh J hM hT hl hn F hit hj turn fun g' ys h tk kg hJ hy F' => ?_
 obtain ⟨g₂, k2, e2, F₂⟩ := F'.made (tupObj ys)
 refine ⟨by rw [sizeLine_eq]; omega, ⟨_, F₂.keep _ _ e2, rfl⟩, done _ g' g₂ ys _ _ (kg.tr k2) k2 hJ e2 F₂⟩
theorem list_map {M T It l : Addr} {f : Value} {items : List Value} {k₀ : Nat} {oI₀ : Obj} {Q : Value → Shared → Prop} (hh : A.handled = none) (J : Nat → Heap → List Value → Prop)
 (hM : g.get? M = some (mapObj T f)) (hT : g.get? T = some (tupObj [.ref It])) (hl : g.get? l = some (lstObj items k₀)) (hn : items.length ≤ 1000)
 (F : St h₀ xt g₀ g L N vs ((It, oI₀) :: mu) s.heap) (hit : s.heap.IsListIter It l 0) (hj : J 0 g [])
 (turn : ∀ S, MapTurn prog w A.in1.in1.in1 s h₀ g₀ g xt L N vs mu It S f items J)
 (done : ∀ D g₁ g' ys h tk c, Le g g' → Le g₁ g' → J items.length g₁ ys → g'.get? D = some (lstObj ys c) → St h₀ xt g₀ g' L N vs mu h → Q (.ref D) { s with heap := h, toks := tk }) :
 wpAny (model prog w) A (call (.type "list") [.ref M]) Q E s := by
 refine callType_codes (Q₁ := fun obj s₁ => obj = .ref s.heap.objs.size ∧ s₁ = { s with heap := s.heap.push { cls := .type "list", data := .seq #[] } }) PySem.F.called_list (PySem.F.typeCall_list_1 _) PySem.F.entry_list_init
  (code_list_new _ ⟨rfl, rfl⟩) fun obj s₁ h₁ => ?_
 obtain ⟨rfl, rfl⟩ := h₁
 have hS : (s.heap.push { cls := .type "list", data := .seq #[] }).get? s.heap.objs.size = some { cls := .type "list", data := .seq #[] } := Heap.get?_push_size _ rfl
 refine ⟨⟨_, hS, rfl⟩, PySem.F.args_list_init_2 _ _, ?_⟩
 show wpAny _ _ (do let old ← Builtin.List.listItems (.ref s.heap.objs.size); Builtin.List.listUpdate (.ref s.heap.objs.size) (fun _ => #[]); letGo old.toList.reverse; Builtin.List.listExtendWith (.ref s.heap.objs.size) (.ref M) .none) _ _ _
 refine wpAny_bind ?_
 unfold Builtin.List.listItems
 refine wpAny_bind (wpAny_seqItems hS rfl (wpAny_pure ?_))
 show wpAny _ _ (updateSeq s.heap.objs.size (fun _ => #[]) >>= fun _ => letGo (#[] : Array Value).toList.reverse >>= fun _ => Builtin.List.listExtendWith (.ref s.heap.objs.size) (.ref M) .none) _ _ _
 refine wpAny_bind (wpAny_updateSeq hS rfl ?_)
 have F₁ := (F.own (lstObj [] 0)).swap
 have e1 : ((s.heap.push (lstObj [] 0)).update s.heap.objs.size (Obj.mapSeq (fun _ => (#[] : Array Value)))).get? s.heap.objs.size = some (lstObj [] 0) := Heap.get?_update_self _ (Heap.get?_push_size _ rfl) rfl
 have F₂ := F₁.turn (pre := [(It, oI₀)]) rfl (Heap.SameBut.update ..) e1
 obtain ⟨o, ho, hc, hd⟩ := hit
 have eo : o = oI₀ := by
  have z := (F.mt _ (.head _)).1
  rw [ho] at z; exact Option.some.inj z
 subst eo
 refine wpAny_bind (wpAny_letGo ?_)
 refine ext_map (A := A.in1) (s := { s with heap := (s.heap.push (lstObj [] 0)).update s.heap.objs.size (Obj.mapSeq (fun _ => (#[] : Array Value))) }) hh J hM hT hl hn F₂ ⟨o, (F₂.mt _ (.head _)).1, hc, hd⟩ hj ?_ ?_
 · exact fun i x g' ys h tk oI c hx kg hJ F' => turn _ i x g' ys h tk oI c hx kg hJ F'
 · intro g' ys h tk c kg hJ hy F'
   obtain ⟨g₂, k2, eD, F₃⟩ := F'.freeze (pre := []) (post := mu) rfl F.lowSz
   exact ⟨rfl, done _ g' g₂ ys _ _ _ (kg.tr k2) k2 hJ eD F₃⟩
end
end Mine
namespace Mine
set_option maxHeartbeats 1000000
open PySem PySem.W PyProof.Rows PySem.Calls PySem.Spec
open AutoSeq1 (wpAny_loadPart')
abbrev setO0 (led : Bool) : Obj := { cls := .type "set", data := .set #[] 0 (.fresh 0 0 led) }
def setT1 (led : Bool) : SetTable := { mask := 7, place := #[1], dummies := #[], finger := 0, led := led, moves := 0, plain := true }
theorem lay1 (led : Bool) : layNew (.fresh 0 0 led) #[] 1 (.bool true) = (#[(1, .bool true)], setT1 led, false, false) := by
 cases led <;> rfl
def setO1 (led : Bool) : Obj := Obj.putSet #[(1, .bool true)] (setT1 led) (setO0 led)
theorem setO1_data (led : Bool) : ∃ e, setO1 led = { cls := .type "set", data := .set #[(1, .bool true)] e (setT1 led) } := ⟨_, rfl⟩
theorem slot_sit_next : Slot "set_iterator" "__next__" "set_iterator.__next__" :=
 .of (owner := "set_iterator") (n := "__next__") (by rw [typeLookup_type, builtinLookup_eq_fast]; kernel_rfl) (by decide +kernel) (by decide +kernel) (by decide +kernel)
  (by first | exact .inl (by decide +kernel) | exact .inr (by decide +kernel)) (by rw [isSubtype_type]; kernel_rfl)
theorem entry_sit_next : entryFor table "set_iterator.__next__" = some Builtin.«set_iterator.__next__» := entryFor_of_tree (by kernel_rfl)
theorem args_sit_next (a : Value) : argsOk "set_iterator.__next__" ⟨[a], []⟩ := by unfold argsOk; kernel_rfl
theorem entry_set_iter' : entryFor table "set.__iter__" = some Builtin.«frozenset.__iter__» :=
 entryFor_alias (id' := "frozenset.__iter__") (by kernel_rfl) (by first | rfl | decide +kernel | (unfold String.splitOn; simp +decide [String.splitOnAux])) (by decide +kernel) (by kernel_rfl)
section
variable {prog : Program} {w : World} {A : Around} {E : Value → Shared → Prop} {s : Shared}
theorem hash_true {Q : Int → Shared → Prop} (h : Q 1 { s with toks := s.toks + 1 }) : wpAny (model prog w) A (pyHash (.bool true)) Q E s := by
 unfold pyHash
 have hv : [Value.bool true].any Value.onHeap = false := rfl
 have hT : s.TypeIs (.bool true) "bool" := PySem.typeIs_bool _ _
 refine wpAny_bind ?_
 rw [cRoomFor, if_neg (by rw [hv]; exact Bool.false_ne_true)]; refine wpAny_pure ?_
 refine wpAny_bind (wpAny_specialOf hT PySem.F.slot_bool_hash.lookup ?_)
 show wpAny _ _ (if (some (Value.builtin "int.__hash__") == some Value.none) = true then _ else _) Q E s
 rw [if_neg (by rw [beq_builtin_none]; exact Bool.false_ne_true)]
 refine wpAny_bind (wpAny_specialOf hT PySem.F.slot_bool_hash.lookup ?_)
 show wpAny _ _ (callSpecialIfBoundUnlessNone? (.bool true) "__hash__" _ >>= _) Q E s
 refine wpAny_bind (wpAny_callSpecialIfBoundUnlessNone?_slot hT PySem.F.slot_bool_hash
  (wpAny_call_entry PySem.F.slot_bool_hash hT entry_int_hash ?_ (args_int_hash _)))
 obtain ⟨hp, g, d, tk, os⟩ := s
 wp_walk
 refine ⟨.int 1 tk, by rfl, ?_⟩
 show wpAny _ _ (if (decide (-(2 : Int) ^ 63 ≤ 1) && decide ((1 : Int) < 2 ^ 63)) = true then _ else _) Q E _
 rw [if_pos (by decide)]
 exact wpAny_pure h
theorem set_state {a : Addr} {led : Bool} {Q : (Array (Int × Value) × Nat × SetTable) → Shared → Prop} (ho : s.heap.get? a = some (setO0 led)) (h : Q (#[], 0, .fresh 0 0 led) s) : wpAny (model prog w) A (setState a) Q E s :=
 wpAny_setState_of ho rfl (by cases led <;> rfl) h
theorem set_state1 {a : Addr} {led : Bool} {Q : (Array (Int × Value) × Nat × SetTable) → Shared → Prop} (ho : s.heap.get? a = some (setO1 led)) (h : ∀ e, setO1 led = { cls := .type "set", data := .set #[(1, .bool true)] e (setT1 led) } → Q (#[(1, .bool true)], e, setT1 led) s) : wpAny (model prog w) A (setState a) Q E s := by
 obtain ⟨e, he⟩ := setO1_data led
 rw [he] at ho
 exact wpAny_setState_of ho rfl (by cases led <;> rfl) (h e he)
theorem add_first {a : Addr} {led : Bool} {Q : Value → Shared → Prop} (ho : s.heap.get? a = some (setO0 led))
 (h : ∀ h', Heap.SameBut a s.heap h' → h'.get? a = some (setO1 led) → Q .none { s with heap := h', toks := s.toks + 1 }) : wpAny (model prog w) A (call (.builtin "set.add") [.ref a, .bool true]) Q E s := by
 refine wpAny_call_entry PySem.F.slot_set_add ⟨_, ho, rfl⟩ PySem.F.entry_set_add ?_ (PySem.F.args_set_add_2 _ _)
 unfold Builtin.«set.add» Builtin.Frozenset.oneOther
 simp only [List.isEmpty_nil, bind_assoc]
 unfold Builtin.Frozenset.addrOf setAdd
 refine wpAny_bind (wpAny_pure ?_)
 try dsimp only
 refine wpAny_bind (wpAny_pure ?_)
 try dsimp only
 refine wpAny_bind ?_
 refine wpAny_holding ?_
 refine wpAny_bind (hash_true ?_)
 unfold setAddHashed
 refine wpAny_holding ?_
 unfold setAddHashedIn
 refine wpAny_bind (set_state ho ?_)
 dsimp only
 rw [show byScan (.bool true) #[] = true by simp [byScan, Value.scannable, scanBound]]
 simp only [if_true]
 unfold setAddByScan
 refine wpAny_bind (wpAny_bind (wpAny_rule ?_))
 refine wpAny_bind (m := setScan a (.bool true) 1 true #[]) ?_
 rw [show setScan a (.bool true) 1 true #[] = pure .absent from rfl]
 refine wpAny_pure ?_
 dsimp only
 rw [lay1]
 dsimp only
 obtain ⟨hp, g, d, tk, os⟩ := s
 wp_walk
 refine ⟨_, rfl, ?_⟩
 rw [if_pos (show (true : Bool) = true from rfl)]
 exact h _ (Heap.SameBut.update ..) (Heap.get?_update_self _ ho rfl)
theorem eqb_true {Q : Bool → Shared → Prop} (h : Q true s) : wpAny (model prog w) A (eqBool (.bool true) (.bool true)) Q E s := SeqAt.EqAt.bool_bool true true prog w E Q h
theorem add_second {a : Addr} {led : Bool} {Q : Value → Shared → Prop} (ho : s.heap.get? a = some (setO1 led))
 (h : Q .none { s with toks := s.toks + 1 }) : wpAny (model prog w) A (call (.builtin "set.add") [.ref a, .bool true]) Q E s := by
 refine wpAny_call_entry PySem.F.slot_set_add ⟨_, ho, rfl⟩ PySem.F.entry_set_add ?_ (PySem.F.args_set_add_2 _ _)
 unfold Builtin.«set.add» Builtin.Frozenset.oneOther
 simp only [List.isEmpty_nil, bind_assoc]
 unfold Builtin.Frozenset.addrOf setAdd
 refine wpAny_bind (wpAny_pure ?_)
 try dsimp only
 refine wpAny_bind (wpAny_pure ?_)
 try dsimp only
 refine wpAny_bind ?_
 refine wpAny_holding ?_
 refine wpAny_bind (hash_true ?_)
 unfold setAddHashed
 refine wpAny_holding ?_
 unfold setAddHashedIn
 refine wpAny_bind (set_state1 ho fun e he => ?_)
 dsimp only
 rw [show byScan (.bool true) #[(1, .bool true)] = true by simp [byScan, Value.scannable, scanBound]]
 simp only [if_true]
 unfold setAddByScan
 refine wpAny_bind (wpAny_bind (wpAny_rule ?_))
 refine wpAny_bind (m := setScan a (.bool true) 1 true #[(1, .bool true)]) ?_
 show wpAny _ _ (setScanFrom a (.bool true) 1 true [(1, .bool true)] 0) _ _ _
 unfold setScanFrom
 rw [if_pos (by rfl)]
 refine wpAny_bind ?_
 unfold setEpoch
 refine wpAny_bind (set_state1 ho fun e2 he2 => wpAny_pure ?_)
 refine wpAny_bind (eqb_true ?_)
 simp only [Bool.and_self, if_true]
 exact wpAny_pure (wpAny_pure (wpAny_pure (wpAny_pure ⟨_, rfl, h⟩)))
def byText (w : World) : Bool := w.params.followText "set-order"
abbrev sitObj (a : Addr) (i j e : Int) : Obj := { cls := .type "set_iterator", data := .fields #[rawInt i, rawInt j, .ref a, rawInt 1, rawInt e] }
theorem set_iter {a : Addr} {led : Bool} {Q : Value → Shared → Prop} (ho : s.heap.get? a = some (setO1 led)) (h : ∀ e : Nat, setO1 led = { cls := .type "set", data := .set #[(1, .bool true)] e (setT1 led) } → Q (.ref s.heap.objs.size) { s with heap := s.heap.push (sitObj a 0 0 e) }) : wpAny (model prog w) A (pyIter (.ref a)) Q E s := by
 obtain ⟨e, he⟩ := setO1_data led
 have hT : s.TypeIs (.ref a) "set" := ⟨_, ho, rfl⟩
 have ho' := ho
 rw [he] at ho'
 refine wpAny_pyIter_slot hT PySem.F.slot_set_iter (wpAny_call_entry PySem.F.slot_set_iter hT entry_set_iter' ?_ (PySem.F.args_set_iter_1 _))
 obtain ⟨hp, g, d, tk, os⟩ := s
 wp_walk using wpAny_loadPart' ho'
 refine wpAny_askSetting ?_
 refine wpAny_pure (wpAny_pure ?_)
 have hd : ∀ b : Bool, (!b && false) = false := fun b => by cases b <;> rfl
 split
 · rename_i hx
   exact absurd (show ((!(model prog w).w.params.followText "set-order") && false) = true from hx) (by rw [hd]; exact Bool.false_ne_true)
 · wp_walk using wpAny_loadPart' ho'
   exact ⟨_, rfl, "set_iterator", _, ⟨_, Heap.get?_push_size _ rfl, rfl⟩, slot_sit_next.lookup, h e he⟩
theorem pick_one {α : Type} (next : Nat → Nat) (x : α) : pickOrder next #[x] = #[x] := by
 simp [pickOrder, pickOrder.go, Nat.mod_one]
theorem walk_text {a : Addr} {e : Nat} {Q : Array (Int × Value) → Shared → Prop} (hb : byText w = true) (ho : s.heap.get? a = some { cls := .type "set", data := .set #[(1, .bool true)] e (setT1 (!true)) }) (h : Q #[(1, .bool true)] s) : wpAny (model prog w) A (setWalk a) Q E s := by
 unfold setWalk
 refine wpAny_bind (wpAny_setState_of ho rfl (by rfl) ?_)
 dsimp only
 unfold setsByText
 refine wpAny_bind (wpAny_bind (wpAny_askSetting (wpAny_pure ?_)))
 show wpAny _ _ (if byText w = true then _ else _) _ _ _
 rw [if_pos hb]
 refine wpAny_bind (wpAny_askSetting ?_)
 rw [pick_one]
 exact wpAny_pure h
end
end Mine
namespace Mine
set_option maxHeartbeats 1000000
open PySem PySem.W PyProof.Rows PySem.Calls PySem.Spec
open AutoSeq1 (wpAny_loadPart')
section
variable {prog : Program} {w : World} {A : Around} {E : Value → Shared → Prop} {s : Shared}
theorem sit_item {a I : Addr} {e : Nat} {Q : Option Value → Shared → Prop} (hI : s.heap.get? I = some (sitObj a 0 0 e)) (ho : s.heap.get? a = some { cls := .type "set", data := .set #[(1, .bool true)] e (setT1 (!byText w)) })
 (h : ∀ h' n, Heap.SameBut I s.heap h' → h'.get? I = some (sitObj a n 1 e) → (byText w = false → n = 2) → Q (some (.bool true)) { s with heap := h' }) : wpAny (model prog w) A (pyNext (.ref I)) Q E s := by
 have hT : s.TypeIs (.ref I) "set_iterator" := ⟨_, hI, rfl⟩
 unfold pyNext
 refine wpAny_bind (wpAny_attempt (wpAny_callSpecial?_slot (name := Str.ofString "__next__") hT slot_sit_next (wpAny_call_entry slot_sit_next hT entry_sit_next ?_ (args_sit_next _))))
 obtain ⟨hp, g, d, tk, os⟩ := s
 wp_walk using wpAny_loadPart' hI, wpAny_loadPart' ho
 refine wpAny_askSetting ?_
 refine wpAny_pure ?_
 show wpAny _ _ (if byText w = true then _ else _) _ _ _
 cases hb : byText w with
 | true =>
  rw [hb] at ho
  rw [if_pos rfl]
  show wpAny _ _ (if (e != ((e : Nat) : Int).toNat) = true then _ else (setWalk a >>= _)) _ _ _
  rw [if_neg (by simp)]
  refine wpAny_bind ?_
  refine walk_text hb ho ?_
  show wpAny _ _ (pure (some (Value.bool true, 0))) _ _ _
  refine wpAny_pure ?_
  dsimp only
  refine wpAny_bind (wpAny_setField_rec hI (by simp) fun h₂ he₂ hs₂ => ?_)
  refine wpAny_bind (wpAny_setField_rec he₂ (by simp) fun h₃ he₃ hs₃ => ?_)
  refine wpAny_pure ⟨_, rfl, wpAny_pure (h h₃ 0 ((show Heap.SameBut I hp h₂ from hs₂).trans hs₃) he₃ fun q => ?_)⟩
  rw [hb] at q; cases q
 | false =>
  rw [hb] at ho
  rw [if_neg Bool.false_ne_true]
  show wpAny _ _ (pure (some (Value.bool true, 2))) _ _ _
  refine wpAny_pure ?_
  dsimp only
  refine wpAny_bind (wpAny_setField_rec hI (by simp) fun h₂ he₂ hs₂ => ?_)
  refine wpAny_bind (wpAny_setField_rec he₂ (by simp) fun h₃ he₃ hs₃ => ?_)
  exact wpAny_pure ⟨_, rfl, wpAny_pure (h h₃ 2 ((show Heap.SameBut I hp h₂ from hs₂).trans hs₃) he₃ fun _ => rfl)⟩
theorem sit_end {a I : Addr} {e : Nat} {n : Int} {Q : Option Value → Shared → Prop} (hh : A.handled = none) (hI : s.heap.get? I = some (sitObj a n 1 e)) (hn : byText w = false → n = 2) (ho : s.heap.get? a = some { cls := .type "set", data := .set #[(1, .bool true)] e (setT1 (!byText w)) })
 (h : ∀ h', Heap.ExtBut I s.heap h' → Q none { s with heap := h' }) : wpAny (model prog w) A (pyNext (.ref I)) Q E s := by
 have hT : s.TypeIs (.ref I) "set_iterator" := ⟨_, hI, rfl⟩
 unfold pyNext
 refine wpAny_bind (wpAny_attempt (wpAny_callSpecial?_slot (name := Str.ofString "__next__") hT slot_sit_next (wpAny_call_entry slot_sit_next hT entry_sit_next ?_ (args_sit_next _))))
 obtain ⟨hp, g, d, tk, os⟩ := s
 wp_walk using wpAny_loadPart' hI, wpAny_loadPart' ho
 refine wpAny_askSetting ?_
 refine wpAny_pure ?_
 show wpAny _ _ (if byText w = true then _ else _) _ _ _
 have fin : ∀ (P : Fin → Shared → Prop), wpAny (model prog w) A.in1 (do setField (Value.ref I) 2 Value.none; let x ← newExc (Value.type "StopIteration") []; raiseNew x) P
  (fun e s' => wpAny (model prog w) A (do let b ← isInstance e (Value.type "StopIteration"); if b = true then pure none else throw e) Q E s') ⟨hp, g, d, tk, os⟩ := by
  intro P
  refine wpAny_bind (wpAny_setField_rec hI (by simp) fun h₂ he₂ hs₂ => ?_)
  refine wpAny_bind ?_
  simp only [newExc, newTuple]
  refine wpAny_bind (wpAny_newObj_type ?_ (by size_fits))
  refine wpAny_bind (m := firstArgMember _ _) (wpAny_of_eq (a := Value.none) (by first | rfl | (simp only [firstArgMember]; rfl)) ?_)
  refine wpAny_newObj_type ?_ (by size_fits)
  simp only [raiseNew]
  refine wpAny_bind (wpAny_handled ?_)
  rw [show A.in1.handled = none from hh]
  refine wpAny_bind (wpAny_pure (wpAny_throw ?_))
  refine wpAny_bind (wpAny_isInstance (T := "StopIteration") (b := true) ⟨_, Heap.get?_push_size _ rfl, rfl⟩ isSubtype_stop ?_)
  rw [if_pos rfl]
  exact wpAny_pure (h _ (((show Heap.SameBut I hp h₂ from hs₂).extBut.push _).push _))
 cases hb : byText w with
 | true =>
  rw [hb] at ho
  rw [if_pos rfl]
  show wpAny _ _ (if (e != ((e : Nat) : Int).toNat) = true then _ else (setWalk a >>= _)) _ _ _
  rw [if_neg (by simp)]
  refine wpAny_bind ?_
  refine walk_text hb ho ?_
  show wpAny _ _ (pure none) _ _ _
  refine wpAny_pure ?_
  exact fin _
 | false =>
  rw [hb] at ho
  rw [if_neg Bool.false_ne_true]
  have e2 := hn hb
  subst e2
  show wpAny _ _ (pure none) _ _ _
  refine wpAny_pure ?_
  exact fin _
end
end Mine
namespace Mine
set_option maxHeartbeats 1000000
open PySem PySem.W PyProof.Rows PySem.Calls PySem.Spec
section
variable {prog : Program} {w : World} {A : Around} {s : Shared} {env : Env} {E : Value → Shared → Prop}
variable {h₀ g₀ g : Heap} {xt : List Addr} {L : Addr} {N Nn Gl No Go : List Str} {vs : List (Option Value)} {mu : List (Addr × Obj)}
theorem asSet {e0 : Expr} {k : Nat} {tp : Pos} {a : Addr} {Q : Unit → Shared → Prop} (hh : A.handled = none) (F : St h₀ xt g₀ g L N vs mu s.heap) (ha : g.get? a = some (setO1 (!byText w)))
 (h : ∀ h', St h₀ xt g₀ g L N vs mu h' → wpAny (model prog w) A (assignInOrder ((assignEach [e0] env).map (·.2)) [.bool true]) Q E { s with heap := h' })
 (hn : (assignEach [e0] env).length = 1 := by rfl) (hs : (assignEach [e0] env).findIdx? (·.1) = none := by rfl) : wpAny (model prog w) A (assign (.Tuple [e0] k tp) env (.ref a)) Q E s := by
 rw [arm_assign_Tuple]
 refine wpAny_bind (wpAny_standAt ?_)
 unfold unpack
 rw [hn, hs]
 have hT : s.TypeIs (.ref a) "set" := ⟨_, F.keep _ _ ha, rfl⟩
 refine wpAny_bind (wpAny_holding ?_)
 unfold unpackItems
 refine wpAny_bind ?_
 unfold notIterableAtAll
 refine wpAny_bind (wpAny_specialOf hT PySem.F.slot_set_iter.lookup ?_)
 refine wpAny_pure ?_
 simp only [Bool.false_eq_true, if_false]
 refine wpAny_bind (wpAny_holding (set_iter (F.keep _ _ ha) fun e he => ?_))
 have ha' := ha
 rw [he] at ha'
 have F₁ := F.own (sitObj a 0 0 e)
 refine wpAny_bind (wpAny_holding ?_)
 unfold draw
 refine wpAny_bind (sit_item (F₁.mt _ (.head _)).1 (F₁.keep _ _ ha') fun h' n hs' hI' hn' => ?_)
 have F₂ := F₁.turn (pre := []) rfl hs' hI'
 dsimp only
 refine wpAny_bind (wpAny_holding ?_)
 unfold draw
 refine wpAny_pure (wpAny_pure ?_)
 rw [if_neg (by simp)]
 refine wpAny_bind (wpAny_holding (sit_end hh (F₂.mt _ (.head _)).1 hn' (F₂.keep _ _ ha') fun h'' he'' => ?_))
 simp only [Option.isSome_none, Bool.false_eq_true, if_false]
 exact wpAny_pure (h h'' (F₂.but fun b o hb q => he'' b o (fun z => hb (by simp [z])) q))
theorem compTurn_set (elt target iter : Expr) (ifs : List Expr) (scope : Scope) (pos : Pos) (it acc : Value) (env : Env) :
 compTurn (.SetComp elt [⟨target, iter, ifs, 0⟩] scope pos) 0 it acc env = (do
  standAt iter.pos
  match ← pyNext it with
  | none => pure (.done .next)
  | some v =>
   letOwnedTupleGo target it v
   assign target env v
   let ok ← tests ifs env
   if ok then
    (do let v ← eval elt env; standAt elt.pos; let _ ← call (.builtin "set.add") [acc, v])
   again (.compLoop (.SetComp elt [⟨target, iter, ifs, 0⟩] scope pos) 0 it acc env)) := by rfl
theorem sc_loop {elt target iter : Expr} {ifs : List Expr} {scope : Scope} {pos : Pos} {it acc : Value} {R : Result → Shared → Prop} (I : Nat → Shared → Prop)
 (turn : ∀ n s, I n s → wpAny (model prog w) A (pyNext it) (fun r s₁ => match r with
  | none => R (.ok .next) s₁
  | some v => wpAny (model prog w) A (letOwnedTupleGo target it v) (fun _ s₀ => wpAny (model prog w) A (assign target env v) (fun _ s₂ =>
   wpAny (model prog w) A (tests ifs env) (fun ok s₃ => ok = true ∧ wpAny (model prog w) A (eval elt env) (fun x s₄ =>
    wpAny (model prog w) A (call (.builtin "set.add") [acc, x]) (fun _ s₅ => ∃ m, m < n ∧ I m s₅) no s₄) no s₃) no s₂) no s₀) no s₁) no s)
 (n : Nat) (h : I n s) : codeAny (model prog w) A (.compLoop (.SetComp elt [⟨target, iter, ifs, 0⟩] scope pos) 0 it acc env) R s := by
 refine codeAny_loop rfl I (fun n s hI => ?_) n h
 show wpAny _ A ((compTurn (.SetComp elt [⟨target, iter, ifs, 0⟩] scope pos) 0 it acc env).onRaise (fun x => do noteFrame x env; theTreesLotGoes x)) _ _ s
 refine wpAny_noted ?_
 rw [compTurn_set]
 refine wpAny_bind (wpAny_standAt (wpAny_bind (wpAny_no (wpAny_mono (turn n s hI) (fun r s₁ h₁ => ?_) fun _ _ h' => h'))))
 cases r with
 | none => exact wpAny_pure h₁
 | some v =>
  refine wpAny_bind (wpAny_no (wpAny_mono h₁ (fun _ s₀ h₀' => ?_) fun _ _ h' => h'))
  refine wpAny_bind (wpAny_no (wpAny_mono h₀' (fun _ s₂ h₂ => ?_) fun _ _ h' => h'))
  refine wpAny_bind (wpAny_no (wpAny_mono h₂ (fun okb s₃ h₃ => ?_) fun _ _ h' => h'))
  obtain ⟨rfl, h₃⟩ := h₃
  exact wpAny_bind (wpAny_bind (wpAny_no (wpAny_mono h₃ (fun x s₄ h₄ => wpAny_bind (wpAny_standAt (wpAny_bind (wpAny_no (wpAny_mono h₄ (fun _ s₅ h₅ => wpAny_pure (wpAny_pure ⟨rfl, h₅⟩)) fun _ _ h' => h'))))) fun _ _ h' => h')))
theorem compStart_set {elt target iter ifs rest scope pos it acc env} {R : Result → Shared → Prop}
 (h0 : codeAny (model prog w) A (.compLoop (.SetComp elt (⟨target, iter, ifs, 0⟩ :: rest) scope pos) 0 it acc env) R s)
 (h : wpAny (model prog w) A (pyIter it) (fun it' s' => codeAny (model prog w) A (.compLoop (.SetComp elt (⟨target, iter, ifs, 0⟩ :: rest) scope pos) 0 it' acc env) R s')
  (notedBy (model prog w) A env fun x s' => R (.error x) s') s) :
 codeAny (model prog w) A (.compStart (.SetComp elt (⟨target, iter, ifs, 0⟩ :: rest) scope pos) 0 it acc env) R s := by
 refine codeAny_of_tree ?_
 show wpAny _ _ ((compStart (.SetComp elt (⟨target, iter, ifs, 0⟩ :: rest) scope pos) 0 it acc env).onRaise (fun x => do noteFrame x env; standAt theWindowsPlace)) _ _ s
 refine wpAny_notedAt ?_
 unfold compStart
 show wpAny _ _ (ask >>= _) _ _ s
 refine wpAny_bind (wpAny_askSetting (wpAny_ite ?_))
 split
 · first
    | exact wpAny_bind (wpAny_pure (wpAny_pure (And.intro rfl h0)))
    | exact wpAny_pure (And.intro rfl h0)
 · first
    | exact wpAny_bind (wpAny_rule (wpAny_bind (wpAny_standAt (wpAny_bind (wpAny_mono h (fun it' s' h' => wpAny_pure ⟨rfl, h'⟩) fun _ _ e => e)))))
theorem newSet_ {Q : Value → Shared → Prop} (h : Q (.ref s.heap.objs.size) { s with heap := s.heap.push (setO0 (!byText w)) }) : wpAny (model prog w) A (newSet (.type "set")) Q E s := by
 unfold newSet setsByText
 refine wpAny_bind (wpAny_bind (wpAny_askSetting (wpAny_pure ?_)))
 exact wpAny_newObj_type h
def SEnd (s : Shared) (g : Heap) (I C D : Addr) (oI so : Obj) (Nn : List Str) (g₁ : Heap) (y : Value) (s' : Shared) : Prop :=
 y = .bool true ∧ ∃ g' us h' t', s' = { s with heap := h', toks := t' } ∧ Le g₁ g' ∧ St s.heap [I] g g' C Nn us [(I, oI), (D, so)] h'
theorem set_block {elt target iter : Expr} {ifs : List Expr} {scope : Scope} {pos : Pos} {cl : List (Str × Addr)} {I : Addr} {oI : Obj} {n : Nat} {P : Nat → Value → Prop} {Wst : Nat → Heap → Prop} {Q : Value → Shared → Prop}
 (hc : chkC scope Nn Gl = true) (C₀ : Cx env No Go) (F : St h₀ xt g₀ g L N vs ((I, oI) :: mu) s.heap) (hI : It prog w A target I n P g Wst) (h0 : Wst 0 s.heap) (hn1 : 1 ≤ n)
 (turn : ∀ i v (s : Shared) g' us so I oI C D h tk, P i v → Le g g' → us.length = Nn.length → Cx (compEnvC scope cl C env) Nn Gl → St s.heap [I] g g' C Nn us [(I, oI), (D, so)] h →
  wpAny (model prog w) A (assign target (compEnvC scope cl C env) v) (fun _ s₁ => wpAny (model prog w) A (tests ifs (compEnvC scope cl C env)) (fun ok s₃ =>
   ok = true ∧ wpAny (model prog w) A (eval elt (compEnvC scope cl C env)) (SEnd s g I C D oI so Nn g') no s₃) no s₁) no { s with heap := h, toks := tk })
 (done : ∀ g' D h' tk, Le g g' → g'.get? D = some (setO1 (!byText w)) → St h₀ xt g₀ g' L N vs mu h' → Q (.ref D) { s with heap := h', toks := tk }) :
 wpAny (model prog w) A (newSet (.type "set")) (fun acc s₃ => wpAny (model prog w) A (newFunctionEnv scope env.globals cl [] env.qual none .none (some env)) (fun cenv s₄ =>
  codeAny (model prog w) A (.compStart (.SetComp elt [⟨target, iter, ifs, 0⟩] scope pos) 0 (.ref I) acc { cenv with scope := relabel scope env }) (compPost (model prog w) A no none Q acc cenv.locals) s₄) no s₃) no s := by
 refine newSet_ (wpAny_newFunctionEnv (chkC_cell hc) (by intro y hy; simp at hy) (fun h₁ hns₁ hsb₁ => ?_) (chkC_kind hc))
 dsimp only at hns₁ hsb₁ ⊢
 generalize hH2 : s.heap.push (setO0 (!byText w)) = H2 at hns₁ hsb₁ ⊢
 have hC : H2.objs.size = s.heap.objs.size + 1 := by rw [← hH2, Heap.size_push]
 have hDC : s.heap.objs.size ≠ H2.objs.size := by rw [hC]; exact Nat.ne_of_lt (Nat.lt_succ_self _)
 have below : ∀ b, b < s.heap.objs.size → b ≠ H2.objs.size ∧ b ≠ s.heap.objs.size := fun b hb => ⟨by rw [hC]; exact Nat.ne_of_lt (Nat.lt_succ_of_lt hb), Nat.ne_of_lt hb⟩
 have old : ∀ b o, s.heap.get? b = some o → h₁.get? b = some o := fun b o e => hsb₁.extBut b o (below b (Heap.lt_size e)).1 (Heap.get?_push_of_some _ (hH2 ▸ Heap.get?_push_of_some _ e))
 have hacc : h₁.get? s.heap.objs.size = some (setO0 (!byText w)) := hsb₁.extBut _ _ hDC (Heap.get?_push_of_some _ (hH2 ▸ Heap.get?_push_size _ rfl))
 have fresh : ∀ a, s.heap.objs.size ≤ a → s.heap.get? a = none := fun a ha => by
  cases e : s.heap.get? a with
  | none => rfl
  | some o' => exact absurd (Heap.lt_size e) (Nat.not_lt.mpr ha)
 have gno : ∀ a, s.heap.objs.size ≤ a → g.get? a = none := fun a ha => by
  cases e : g.get? a with
  | none => rfl
  | some o' => have z := F.keep a o' e; rw [fresh a ha] at z; cases z
 have mI := F.mt (I, oI) (.head _)
 have hIlt : I < s.heap.objs.size := Heap.lt_size mI.1
 have F₁ : St s.heap [I] g g H2.objs.size Nn (Nn.map fun _ => none) [(I, oI), (s.heap.objs.size, setO0 (!byText w))] h₁ := by
  refine ⟨List.length_map .., ⟨_, hns₁, fun i x hx => ?_⟩, fun b o _ e => old b o e, fun b o e => old b o (F.keep b o e), by rw [hC]; exact Nat.le_succ _, gno _ (by rw [hC]; exact Nat.le_succ _), ?_, ?_, Le.rfl', ?_⟩
  · rw [List.getElem?_map, hx]; rfl
  · intro p hp
    rcases List.mem_cons.mp hp with rfl | hp
    · exact ⟨old _ _ mI.1, (below _ hIlt).1, mI.2.2.1, .inl (.head _)⟩
    · rw [List.mem_singleton.mp hp]
      exact ⟨hacc, hDC, gno _ (Nat.le_refl _), .inr (Nat.le_refl _)⟩
  · exact List.nodup_cons.mpr ⟨fun hm => (below _ hIlt).2 (List.mem_singleton.mp hm), List.nodup_cons.mpr ⟨List.not_mem_nil, .nil⟩⟩
  · intro b o e e0; rw [e] at e0; cases e0
 obtain ⟨⟨fp, W, hfp⟩, alive, go⟩ := hI
 have hst₁ : Wst 0 h₁ := W.frame _ _ _ h0 fun b _ o e => old b o e
 have loop : ∀ s₃ : Shared, s₃ = { s with heap := h₁, toks := s.toks + ([] : List (Str × Value)).length } →
  codeAny (model prog w) A (.compLoop (.SetComp elt [⟨target, iter, ifs, 0⟩] scope pos) 0 (.ref I) (.ref s.heap.objs.size) (compEnvC scope cl H2.objs.size env)) (compPost (model prog w) A no none Q (.ref s.heap.objs.size) H2.objs.size) s₃ := by
  rintro s₃ rfl
  refine sc_loop (fun k s' => ∃ h tk i g' us so oI, s' = { s with heap := h, toks := tk } ∧ Wst i h ∧ Le g g' ∧ so = (if i = 0 then setO0 (!byText w) else setO1 (!byText w)) ∧ St s.heap [I] g g' H2.objs.size Nn us [(I, oI), (s.heap.objs.size, so)] h ∧ i ≤ n ∧ k = n + 1 - i) ?_ (n + 1)
   ⟨h₁, _, 0, g, _, _, oI, rfl, hst₁, Le.rfl', by rw [if_pos rfl], F₁, Nat.zero_le _, rfl⟩
  rintro k s' ⟨h, tk, i, g', us, so, oI', rfl, hw, hg, hso, F', hi, rfl⟩
  by_cases hlt : i < n
  · refine wpAny_no (W.item i _ _ _ hlt hw fun v h₂ tk₂ hP hw₂ hk₂ => ?_)
    obtain ⟨o₂, ho₂⟩ := alive _ _ hw₂
    have F₂ := F'.butHas hk₂ ho₂
    refine wpAny_no (go (i + 1) v _ _ hw₂ ?_)
    have fin : ∀ (s₅ : Shared), (∃ g'' us'' h'' t'', s₅ = { s with heap := h'', toks := t'' } ∧ Le g' g'' ∧ St s.heap [I] g g'' H2.objs.size Nn us'' [(I, o₂), (s.heap.objs.size, setO1 (!byText w))] h'') →
     ∃ m, m < n + 1 - i ∧ ∃ h tk i g' us so oI, s₅ = { s with heap := h, toks := tk } ∧ Wst i h ∧ Le g g' ∧ so = (if i = 0 then setO0 (!byText w) else setO1 (!byText w)) ∧ St s.heap [I] g g' H2.objs.size Nn us [(I, oI), (s.heap.objs.size, so)] h ∧ i ≤ n ∧ m = n + 1 - i := by
     rintro s₅ ⟨g'', us'', h'', t'', rfl, k2, F₃⟩
     refine ⟨n + 1 - (i + 1), by omega, h'', t'', i + 1, g'', us'', _, o₂, rfl, ?_, hg.tr k2, by rw [if_neg (Nat.succ_ne_zero i)], F₃, hlt, rfl⟩
     refine W.frame _ _ _ hw₂ fun b hb o e => ?_
     rcases hfp b hb with rfl | q
     · have z := (F₂.mt _ (.head _)).1
       rw [e] at z; cases z
       exact (F₃.mt _ (.head _)).1
     · obtain ⟨o', e'⟩ := Option.isSome_iff_exists.mp q
       have z := F₂.keep b o' (hg b o' e')
       rw [e] at z; cases z
       exact F₃.keep b o (k2 b o (hg b o e'))
    refine wpAny_mono (turn i v s g' us so I o₂ H2.objs.size s.heap.objs.size h₂ tk₂ hP hg F₂.len (chkC_cx hc C₀ cl _) F₂) (fun _ s₁ h₁' => wpAny_mono h₁' (fun ok s₃ h₃ => ⟨h₃.1, ?_⟩) fun _ _ e => e) fun _ _ e => e
    refine wpAny_mono h₃.2 (fun y s₄ h₄ => ?_) fun _ _ e => e
    obtain ⟨rfl, g'', us'', h'', t'', rfl, k2, F₃⟩ := h₄
    have hD := (F₃.mt (s.heap.objs.size, so) (.tail _ (.head _))).1
    by_cases hi0 : i = 0
    · rw [if_pos hi0] at hso
      subst hso
      refine add_first hD fun h₆ hs₆ hD₆ => fin _ ⟨g'', us'', h₆, _, rfl, k2, ?_⟩
      exact F₃.turn (pre := [(I, o₂)]) (post := []) rfl hs₆ hD₆
    · rw [if_neg hi0] at hso
      subst hso
      exact add_second hD (fin _ ⟨g'', us'', h'', _, rfl, k2, F₃⟩)
  · have hin : i = n := by omega
    subst hin
    rw [if_neg (by omega)] at hso
    subst hso
    refine wpAny_no (W.done _ _ _ hw fun h₂ tk₂ hk₂ => ?_)
    have F₂ := F'.but hk₂
    obtain ⟨g'', k2, eD, F₃⟩ := F₂.freeze (pre := []) (post := []) rfl (Nat.le_refl _)
    have O := F₃.out
    obtain ⟨m, hm, _⟩ := F₃.ns
    have hCl : s.heap.objs.size ≤ H2.objs.size := by rw [hC]; exact Nat.le_succ _
    have hO : Off h₀ g'' L H2.objs.size mu := ⟨by
     cases e : h₀.get? H2.objs.size with
     | none => rfl
     | some o => exact absurd (Nat.lt_of_lt_of_le (Heap.lt_size e) F.lowSz) (Nat.not_lt.mpr hCl), fun q => absurd F.lt (Nat.not_lt.mpr (q ▸ hCl)), F₃.outg, fun p hp q => absurd (Heap.lt_size (F.mt p (.tail _ hp)).1) (Nat.not_lt.mpr (q ▸ hCl))⟩
    exact ⟨m, hm, fun h'' hs => done g'' _ h'' tk₂ (hg.tr k2) eD ((F.callBut O).off hO hs)⟩
 exact compStart_set (loop _ rfl) (W.self 0 _ _ _ hst₁ (loop _ rfl))
theorem evSet {elt iter : Expr} {x : Str} {p : Pos} {ifs : List Expr} {scope : Scope} {pos : Pos} {cl : List (Str × Addr)} {l : Addr} {items : List Value} {Q : Value → Shared → Prop} (hh : A.handled = none) (hc : chkC scope Nn Gl = true) (hclo : clo env.cells scope.names [] = some cl)
 (C₀ : Cx env No Go) (hn1 : 1 ≤ items.length)
 (h : wpAny (model prog w) A (eval iter env) (fun xv s₁ => xv = .ref l ∧ ∃ g₁ vs₁ mu₁, St h₀ xt g₀ g₁ L N vs₁ mu₁ s₁.heap ∧ g₁.get? l = some (tupObj items) ∧
  (∀ (i : Nat) (v : Value) (s : Shared) g' us so I oI C D h tk, items[i]? = some v → Le g₁ g' → us.length = Nn.length → Cx (compEnvC scope cl C env) Nn Gl → St s.heap [I] g₁ g' C Nn us [(I, oI), (D, so)] h →
   wpAny (model prog w) A (storeName (compEnvC scope cl C env) x v) (fun _ s₁ => wpAny (model prog w) A (tests ifs (compEnvC scope cl C env)) (fun ok s₃ =>
   ok = true ∧ wpAny (model prog w) A (eval elt (compEnvC scope cl C env)) (SEnd s g₁ I C D oI so Nn g') no s₃) no s₁) no { s with heap := h, toks := tk }) ∧
  ∀ g' D h' tk, Le g₁ g' → g'.get? D = some (setO1 (!byText w)) → St h₀ xt g₀ g' L N vs₁ mu₁ h' → Q (.ref D) { s₁ with heap := h', toks := tk }) no s)
 (hs : ∀ x, foldedSetIterable iter env x = pure x := by intro _; rfl) : wpAny (model prog w) A (eval (.SetComp elt [⟨.Name x p, iter, ifs, 0⟩] scope pos) env) Q E s := by
 refine wpAny_no ?_
 rw [arm_eval_SetComp]
 refine wpAny_comprehension_free (use := none) (g := ⟨.Name x p, iter, ifs, 0⟩) (gs := []) rfl hs (closureFor_clo hclo) (chkC_kind hc) (chkC_names hc) (wpAny_mono h (fun xv s₁ h₁ => ?_) fun _ _ e => e)
 obtain ⟨rfl, g₁, vs₁, mu₁, F, hl, turn, done⟩ := h₁
 refine wpAny_pyIter_tuple ⟨_, F.keep _ _ hl, rfl, _, rfl⟩ ?_
 have F₁ := F.own (titObj l)
 obtain ⟨hI, h0⟩ := It.tuple (prog := prog) (w := w) (A := A) (target := .Name x p) hh hl (F₁.mt _ (.head _)).2.2.1 F₁.keep (F₁.mt _ (.head _)).1 fun i v s Q _ h => go_name h
 exact set_block (Q := Q) hc C₀ F₁ hI h0 hn1 (fun i v s g' us so I oI C D h tk hP hg hus Cc F' => wpAny_assign_Name (turn i v s g' us so I oI C D h tk hP hg hus Cc F')) done
end
end Mine
namespace Mine
open PySem PySem.W PyProof.Rows PySem.Calls PySem.Spec
open PySem.SeqAt
def CmpIn (prog : Program) (w : World) (A : Around) (op : CmpOp) (g : Heap) (items : List Value) (bt : Nat → Nat → Bool) : Prop :=
 ∀ (i j : Nat) (vi vj : Value) (s : Shared) (Q : Value → Shared → Prop) (E : Value → Shared → Prop), Le g s.heap → items[i]? = some vi → items[j]? = some vj → Q (.bool (bt i j)) s → wpAny (model prog w) A (richCompare op vi vj) Q E s
section
variable {prog : Program} {w : World} {A : Around} {E : Value → Shared → Prop} {s : Shared}
variable {h₀ g₀ g : Heap} {xt : List Addr} {L : Addr} {N : List Str} {vs : List (Option Value)} {mu : List (Addr × Obj)}
theorem upd_to {h : Heap} {S : Addr} {ys zs : List Value} {c : Nat} (hS : h.get? S = some (lstObj ys c)) : ∃ c', (h.update S (Obj.mapSeq fun _ => zs.toArray)).get? S = some (lstObj zs c') := by
 exact ⟨_, get?_update_seq hS fun _ => zs.toArray⟩
theorem min_loop {I S l : Addr} {items : List Value} {k₀ : Nat} {R : Result → Shared → Prop} (hh : A.handled = none) (bt : Nat → Nat → Bool) (hcmp : CmpIn prog w A.in1 .Lt g items bt) (hl : g.get? l = some (lstObj items k₀))
 (done : ∀ v h tk, items[argBest bt (items.length - 1)]? = some v → St h₀ xt g₀ g L N vs mu h → R (.ok (.ret v)) { s with heap := h, toks := tk }) :
 ∀ (k j : Nat) (vb : Value) (h : Heap) (tk : Nat) (oI : Obj) (c : Nat), items.length - (j + 1) = k → j + 1 ≤ items.length → items[argBest bt j]? = some vb → St h₀ xt g₀ g L N vs ((I, oI) :: (S, lstObj [vb, vb] c) :: mu) h → h.IsListIter I l (j + 1) →
  codeAny (model prog w) A (.builtin "min.loop" ⟨[.ref I, .none, .ref S], []⟩) R { s with heap := h, toks := tk } := by
 have hname : (toString "min" ++ toString ".loop" : String) = "min.loop" := by decide
 intro k
 induction k with
 | zero =>
  intro j vb h tk oI c hk hj hvb F hit
  have hin : j + 1 = items.length := by omega
  refine codeAny_builtin PySem.F.entry_min_loop ?_
  rw [Around.under_plainId PySem.F.plain_min_loop _]
  show wpAny _ A.in1 (seqItems? (.ref S) >>= _) _ _ _
  refine wpAny_bind (wpAny_seqItems (F.mt _ (.tail _ (.head _))).1 rfl ?_)
  show wpAny _ A.in1 (tryCatch (pyNext (.ref I)) _ >>= _) _ _ _
  refine wpAny_bind (wpAny_tryCatch (wpAny_pyNext_list_end hh hit ⟨_, F.keep _ _ hl, rfl, _, rfl⟩ (by simp; omega) fun h' he => ?_))
  have F₁ := F.but (h₁ := h') fun b o hb e => he b o (fun q => hb (by simp [q])) e
  have hS := (F₁.mt _ (.head _)).1
  show wpAny _ A.in1 (updateSeq S (fun _ => #[]) >>= _) _ _ _
  refine wpAny_bind ?_
  refine wpAny_updateSeq hS rfl (wpAny_bind (wpAny_letGo (wpAny_pure ?_))) (by simp [sizeLine_eq]) (by simp)
  obtain ⟨c', hc'⟩ := upd_to (zs := []) hS
  have F₂ := F₁.turn (pre := []) rfl (Heap.SameBut.update ..) hc'
  exact done vb _ tk (by rw [show items.length - 1 = j by omega]; exact hvb) (F₂.sub (List.sublist_cons_self _ _))
 | succ k ih =>
  intro j vb h tk oI c hk hj hvb F hit
  have hlt : j + 1 < items.length := by omega
  refine codeAny_builtin PySem.F.entry_min_loop ?_
  rw [Around.under_plainId PySem.F.plain_min_loop _]
  show wpAny _ A.in1 (seqItems? (.ref S) >>= _) _ _ _
  refine wpAny_bind (wpAny_seqItems (F.mt _ (.tail _ (.head _))).1 rfl ?_)
  show wpAny _ A.in1 (tryCatch (pyNext (.ref I)) _ >>= _) _ _ _
  refine wpAny_bind (wpAny_tryCatch (wpAny_pyNext_list_item hit ⟨_, F.keep _ _ hl, rfl, _, rfl⟩ (x := items[j + 1]) (by simp [hlt]) fun h' hit' hs' => ?_))
  obtain ⟨o₁, ho₁, hc₁, hd₁⟩ := hit'
  have F₁ := F.turn (pre := []) rfl hs' ho₁
  show wpAny _ A.in1 (tryCatch (holding [items[j + 1], items[j + 1]] (richCompare .Lt items[j + 1] vb >>= _)) _ >>= _) _ _ _
  refine wpAny_bind (wpAny_tryCatch (wpAny_holding (wpAny_bind (hcmp (j + 1) (argBest bt j) _ vb _ _ _ F₁.keep (by simp [hlt]) hvb ?_))))
  refine wpAny_bind (wpAny_holding (wpAny_truthy_bool ?_))
  refine wpAny_bind (wpAny_letGo (wpAny_pure ?_))
  have hS := (F₁.mt _ (.tail _ (.head _))).1
  cases hb : bt (j + 1) (argBest bt j) with
  | true =>
   simp only [if_true]
   refine wpAny_bind ?_
   refine wpAny_updateSeq hS rfl (wpAny_bind (wpAny_letGo ?_)) (by simp [sizeLine_eq]) (by simp [sizeLine_eq])
   rw [hname]
   obtain ⟨c', hc'⟩ := upd_to (zs := [items[j + 1], items[j + 1]]) hS
   have F₂ := F₁.turn (pre := [(I, o₁)]) rfl (Heap.SameBut.update ..) hc'
   exact wpAny_pure ⟨plainId_quiet PySem.F.plain_min_loop _, ih (j + 1) items[j + 1] _ tk o₁ c' (by omega) hlt (by simp only [argBest, hb, if_true]; simp [hlt]) F₂ ⟨o₁, (F₂.mt _ (.head _)).1, hc₁, hd₁⟩⟩
  | false =>
   simp only [Bool.false_eq_true, if_false]
   refine wpAny_bind (wpAny_letGo ?_)
   rw [hname]
   exact wpAny_pure ⟨plainId_quiet PySem.F.plain_min_loop _, ih (j + 1) vb _ tk o₁ c (by omega) hlt (by simp only [argBest, hb, Bool.false_eq_true, if_false]; exact hvb) F₁ ⟨o₁, ho₁, hc₁, hd₁⟩⟩
theorem minL {l : Addr} {items : List Value} {k₀ : Nat} {Q : Value → Shared → Prop} (hh : A.handled = none) (bt : Nat → Nat → Bool) (hcmp : CmpIn prog w A.in1.in1 .Lt g items bt) (F : St h₀ xt g₀ g L N vs mu s.heap) (hl : g.get? l = some (lstObj items k₀)) (hn : 0 < items.length)
 (done : ∀ v h tk, items[argBest bt (items.length - 1)]? = some v → St h₀ xt g₀ g L N vs mu h → Q v { s with heap := h, toks := tk }) : wpAny (model prog w) A (call (.builtin "min") [.ref l]) Q E s := by
 have hname : (toString "min" ++ toString ".loop" : String) = "min.loop" := by decide
 refine call_function_tree PySem.F.kind_min PySem.F.plain_min PySem.F.entry_min (PySem.F.args_min1 _) ?_
 show wpAny _ A.in1 (Builtin.Builtins.bindParams "min" ["key", "default"] 0 ⟨[], []⟩ >>= _) _ _ s
 refine wpAny_bind (wpAny_of_eq (show Builtin.Builtins.bindParams "min" ["key", "default"] 0 ⟨[], []⟩ = pure [none, none] from rfl) ?_)
 refine wpAny_bind (wpAny_pure ?_)
 refine wpAny_bind (wpAny_pyIter_list ⟨_, F.keep _ _ hl, rfl, _, rfl⟩ ?_)
 refine wpAny_bind (wpAny_newObj_type ?_)
 have F₁ := F.own (litObj l)
 have F₂ := (F₁.own (lstObj [] 0)).swap
 rw [hname]
 refine wpAny_pure ⟨plainId_quiet PySem.F.plain_min_loop _, ?_⟩
 have hit : ((s.heap.push (litObj l)).push (lstObj [] 0)).IsListIter s.heap.objs.size l 0 := ⟨_, (F₂.mt _ (.head _)).1, rfl, rfl⟩
 refine codeAny_builtin PySem.F.entry_min_loop ?_
 rw [Around.under_plainId PySem.F.plain_min_loop _]
 show wpAny _ A.in1 (seqItems? (.ref (s.heap.push (litObj l)).objs.size) >>= _) _ _ _
 refine wpAny_bind (wpAny_seqItems (F₂.mt _ (.tail _ (.head _))).1 rfl ?_)
 show wpAny _ A.in1 (tryCatch (pyNext (.ref s.heap.objs.size)) _ >>= _) _ _ _
 refine wpAny_bind (wpAny_tryCatch (wpAny_pyNext_list_item hit ⟨_, F₂.keep _ _ hl, rfl, _, rfl⟩ (x := items[0]) (by simp [hn]) fun h' hit' hs' => ?_))
 obtain ⟨o₁, ho₁, hc₁, hd₁⟩ := hit'
 have F₃ := F₂.turn (pre := []) rfl hs' ho₁
 have hS := (F₃.mt _ (.tail _ (.head _))).1
 show wpAny _ A.in1 (updateSeq (s.heap.push (litObj l)).objs.size (fun _ => #[items[0], items[0]]) >>= _) _ _ _
 refine wpAny_bind ?_
 refine wpAny_updateSeq hS rfl ?_ (by simp [sizeLine_eq]) (by simp [sizeLine_eq])
 rw [hname]
 obtain ⟨c', hc'⟩ := upd_to (zs := [items[0], items[0]]) hS
 have F₄ := F₃.turn (pre := [(s.heap.objs.size, o₁)]) rfl (Heap.SameBut.update ..) hc'
 refine wpAny_pure ⟨plainId_quiet PySem.F.plain_min_loop _, min_loop (A := A) (s := s) (S := (s.heap.push (litObj l)).objs.size) (items := items) hh bt (fun i j vi vj s Q E kk a b c => ?_) hl ?_ _ 0 items[0] _ s.toks o₁ c' rfl hn (by simp [argBest, hn]) F₄ ⟨o₁, (F₄.mt _ (.head _)).1, hc₁, hd₁⟩⟩
 · exact wpAny_of_in1 (hcmp i j vi vj s Q E kk a b c)
 · exact fun v h tk a b => done v h tk a b
theorem max_loop {I S l : Addr} {items : List Value} {k₀ : Nat} {R : Result → Shared → Prop} (hh : A.handled = none) (bt : Nat → Nat → Bool) (hcmp : CmpIn prog w A.in1 .Gt g items bt) (hl : g.get? l = some (lstObj items k₀))
 (done : ∀ v h tk, items[argBest bt (items.length - 1)]? = some v → St h₀ xt g₀ g L N vs mu h → R (.ok (.ret v)) { s with heap := h, toks := tk }) :
 ∀ (k j : Nat) (vb : Value) (h : Heap) (tk : Nat) (oI : Obj) (c : Nat), items.length - (j + 1) = k → j + 1 ≤ items.length → items[argBest bt j]? = some vb → St h₀ xt g₀ g L N vs ((I, oI) :: (S, lstObj [vb, vb] c) :: mu) h → h.IsListIter I l (j + 1) →
  codeAny (model prog w) A (.builtin "max.loop" ⟨[.ref I, .none, .ref S], []⟩) R { s with heap := h, toks := tk } := by
 have hname : (toString "max" ++ toString ".loop" : String) = "max.loop" := by decide
 intro k
 induction k with
 | zero =>
  intro j vb h tk oI c hk hj hvb F hit
  have hin : j + 1 = items.length := by omega
  refine codeAny_builtin PySem.F.entry_max_loop ?_
  rw [Around.under_plainId PySem.F.plain_max_loop _]
  show wpAny _ A.in1 (seqItems? (.ref S) >>= _) _ _ _
  refine wpAny_bind (wpAny_seqItems (F.mt _ (.tail _ (.head _))).1 rfl ?_)
  show wpAny _ A.in1 (tryCatch (pyNext (.ref I)) _ >>= _) _ _ _
  refine wpAny_bind (wpAny_tryCatch (wpAny_pyNext_list_end hh hit ⟨_, F.keep _ _ hl, rfl, _, rfl⟩ (by simp; omega) fun h' he => ?_))
  have F₁ := F.but (h₁ := h') fun b o hb e => he b o (fun q => hb (by simp [q])) e
  have hS := (F₁.mt _ (.head _)).1
  show wpAny _ A.in1 (updateSeq S (fun _ => #[]) >>= _) _ _ _
  refine wpAny_bind ?_
  refine wpAny_updateSeq hS rfl (wpAny_bind (wpAny_letGo (wpAny_pure ?_))) (by simp [sizeLine_eq]) (by simp)
  obtain ⟨c', hc'⟩ := upd_to (zs := []) hS
  have F₂ := F₁.turn (pre := []) rfl (Heap.SameBut.update ..) hc'
  exact done vb _ tk (by rw [show items.length - 1 = j by omega]; exact hvb) (F₂.sub (List.sublist_cons_self _ _))
 | succ k ih =>
  intro j vb h tk oI c hk hj hvb F hit
  have hlt : j + 1 < items.length := by omega
  refine codeAny_builtin PySem.F.entry_max_loop ?_
  rw [Around.under_plainId PySem.F.plain_max_loop _]
  show wpAny _ A.in1 (seqItems? (.ref S) >>= _) _ _ _
  refine wpAny_bind (wpAny_seqItems (F.mt _ (.tail _ (.head _))).1 rfl ?_)
  show wpAny _ A.in1 (tryCatch (pyNext (.ref I)) _ >>= _) _ _ _
  refine wpAny_bind (wpAny_tryCatch (wpAny_pyNext_list_item hit ⟨_, F.keep _ _ hl, rfl, _, rfl⟩ (x := items[j + 1]) (by simp [hlt]) fun h' hit' hs' => ?_))
  obtain ⟨o₁, ho₁, hc₁, hd₁⟩ := hit'
  have F₁ := F.turn (pre := []) rfl hs' ho₁
  show wpAny _ A.in1 (tryCatch (holding [items[j + 1], items[j + 1]] (richCompare .Gt items[j + 1] vb >>= _)) _ >>= _) _ _ _
  refine wpAny_bind (wpAny_tryCatch (wpAny_holding (wpAny_bind (hcmp (j + 1) (argBest bt j) _ vb _ _ _ F₁.keep (by simp [hlt]) hvb ?_))))
  refine wpAny_bind (wpAny_holding (wpAny_truthy_bool ?_))
  refine wpAny_bind (wpAny_letGo (wpAny_pure ?_))
  have hS := (F₁.mt _ (.tail _ (.head _))).1
  cases hb : bt (j + 1) (argBest bt j) with
  | true =>
   simp only [if_true]
   refine wpAny_bind ?_
   refine wpAny_updateSeq hS rfl (wpAny_bind (wpAny_letGo ?_)) (by simp [sizeLine_eq]) (by simp [sizeLine_eq])
   rw [hname]
   obtain ⟨c', hc'⟩ := upd_to (zs := [items[j + 1], items[j + 1]]) hS
   have F₂ := F₁.turn (pre := [(I, o₁)]) rfl (Heap.SameBut.update ..) hc'
   exact wpAny_pure ⟨plainId_quiet PySem.F.plain_max_loop _, ih (j + 1) items[j + 1] _ tk o₁ c' (by omega) hlt (by simp only [argBest, hb, if_true]; simp [hlt]) F₂ ⟨o₁, (F₂.mt _ (.head _)).1, hc₁, hd₁⟩⟩
  | false =>
   simp only [Bool.false_eq_true, if_false]
   refine wpAny_bind (wpAny_letGo ?_)
   rw [hname]
   exact wpAny_pure ⟨plainId_quiet PySem.F.plain_max_loop _, ih (j + 1) vb _ tk o₁ c (by omega) hlt (by simp only [argBest, hb, Bool.false_eq_true, if_false]; exact hvb) F₁ ⟨o₁, ho₁, hc₁, hd₁⟩⟩
theorem maxL {l : Addr} {items : List Value} {k₀ : Nat} {Q : Value → Shared → Prop} (hh : A.handled = none) (bt : Nat → Nat → Bool) (hcmp : CmpIn prog w A.in1.in1 .Gt g items bt) (F : St h₀ xt g₀ g L N vs mu s.heap) (hl : g.get? l = some (lstObj items k₀)) (hn : 0 < items.length)
 (done : ∀ v h tk, items[argBest bt (items.length - 1)]? = some v → St h₀ xt g₀ g L N vs mu h → Q v { s with heap := h, toks := tk }) : wpAny (model prog w) A (call (.builtin "max") [.ref l]) Q E s := by
 have hname : (toString "max" ++ toString ".loop" : String) = "max.loop" := by decide
 refine call_function_tree PySem.F.kind_max PySem.F.plain_max PySem.F.entry_max (PySem.F.args_max1 _) ?_
 show wpAny _ A.in1 (Builtin.Builtins.bindParams "max" ["key", "default"] 0 ⟨[], []⟩ >>= _) _ _ s
 refine wpAny_bind (wpAny_of_eq (show Builtin.Builtins.bindParams "max" ["key", "default"] 0 ⟨[], []⟩ = pure [none, none] from rfl) ?_)
 refine wpAny_bind (wpAny_pure ?_)
 refine wpAny_bind (wpAny_pyIter_list ⟨_, F.keep _ _ hl, rfl, _, rfl⟩ ?_)
 refine wpAny_bind (wpAny_newObj_type ?_)
 have F₁ := F.own (litObj l)
 have F₂ := (F₁.own (lstObj [] 0)).swap
 rw [hname]
 refine wpAny_pure ⟨plainId_quiet PySem.F.plain_max_loop _, ?_⟩
 have hit : ((s.heap.push (litObj l)).push (lstObj [] 0)).IsListIter s.heap.objs.size l 0 := ⟨_, (F₂.mt _ (.head _)).1, rfl, rfl⟩
 refine codeAny_builtin PySem.F.entry_max_loop ?_
 rw [Around.under_plainId PySem.F.plain_max_loop _]
 show wpAny _ A.in1 (seqItems? (.ref (s.heap.push (litObj l)).objs.size) >>= _) _ _ _
 refine wpAny_bind (wpAny_seqItems (F₂.mt _ (.tail _ (.head _))).1 rfl ?_)
 show wpAny _ A.in1 (tryCatch (pyNext (.ref s.heap.objs.size)) _ >>= _) _ _ _
 refine wpAny_bind (wpAny_tryCatch (wpAny_pyNext_list_item hit ⟨_, F₂.keep _ _ hl, rfl, _, rfl⟩ (x := items[0]) (by simp [hn]) fun h' hit' hs' => ?_))
 obtain ⟨o₁, ho₁, hc₁, hd₁⟩ := hit'
 have F₃ := F₂.turn (pre := []) rfl hs' ho₁
 have hS := (F₃.mt _ (.tail _ (.head _))).1
 show wpAny _ A.in1 (updateSeq (s.heap.push (litObj l)).objs.size (fun _ => #[items[0], items[0]]) >>= _) _ _ _
 refine wpAny_bind ?_
 refine wpAny_updateSeq hS rfl ?_ (by simp [sizeLine_eq]) (by simp [sizeLine_eq])
 rw [hname]
 obtain ⟨c', hc'⟩ := upd_to (zs := [items[0], items[0]]) hS
 have F₄ := F₃.turn (pre := [(s.heap.objs.size, o₁)]) rfl (Heap.SameBut.update ..) hc'
 refine wpAny_pure ⟨plainId_quiet PySem.F.plain_max_loop _, max_loop (A := A) (s := s) (S := (s.heap.push (litObj l)).objs.size) (items := items) hh bt (fun i j vi vj s Q E kk a b c => ?_) hl ?_ _ 0 items[0] _ s.toks o₁ c' rfl hn (by simp [argBest, hn]) F₄ ⟨o₁, (F₄.mt _ (.head _)).1, hc₁, hd₁⟩⟩
 · exact wpAny_of_in1 (hcmp i j vi vj s Q E kk a b c)
 · exact fun v h tk a b => done v h tk a b
end
end Mine
namespace Mine
open PySem PySem.W PyProof.Rows PySem.Calls PySem.Spec
open PySem.SeqAt AutoSeq1 MeetsSeq MeetsSeq2 MeetsSeq3 SeqRoads2
def GtAt (A : Around) (s : Shared) (y x : Value) (b : Bool) : Prop :=
 ∀ (prog : Program) (w : World) (E : Value → Shared → Prop) (Q : Value → Shared → Prop), Q (.bool b) s → wpAny (model prog w) A (richCompare .Gt y x) Q E s
def lexG (e l : Nat → Bool) (m n : Nat) : Nat → Nat → Bool
 | 0, _ => decide (m > n)
 | k + 1, i => if e i then lexG e l m n k (i + 1) else l i
theorem gt_loop (l b : Addr) (items items2 : Array Value) (n n2 : Nat) (dd dd2 : Option Addr) (sl sl2 : Array (Option Value)) (e lt : Nat → Bool) (k : Nat) :
 ∀ i : Nat, min items.size items2.size - i = k → Meets (Builtin.«list.__eq__.loop» ⟨[.ref l, .ref b, rawInt i, rawInt 4], []⟩)
  (fun A R s => s.heap.get? l = some { cls := .type "list", dict := dd, data := .seq items n, slots := sl } ∧ s.heap.get? b = some { cls := .type "list", dict := dd2, data := .seq items2 n2, slots := sl2 } ∧
   (∀ j (h1 : j < items.size) (h2 : j < items2.size), EqAt A.in1 s items[j] items2[j] (e j) ∧ (e j = false → GtAt A.in1 s items[j] items2[j] (lt j))) ∧
   R (.ok (.ret (.bool (lexG e lt items.size items2.size k i)))) s) := by
 induction k with
 | zero =>
  intro i hk prog w A R s h
  obtain ⟨hp, g, d, tk, os⟩ := s; obtain ⟨hl, hb, he, h⟩ := h
  wp_walk using wpAny_loadPart' hl, wpAny_loadPart' hb
  rcases (by omega : items.size ≤ i ∨ (i < items.size ∧ items2.size ≤ i)) with h1 | ⟨h1, h2⟩
  · have hi1 : items[((i : Nat) : Int).toNat]? = none := by simp; omega
    rw [hi1]
    wp_walk using wpAny_loadPart' hl, wpAny_loadPart' hb
    exact h
  · have hi1 : items[((i : Nat) : Int).toNat]? = some items[i] := by simp [h1]
    have hi2 : items2[((i : Nat) : Int).toNat]? = none := by simp; omega
    rw [hi1, hi2]
    wp_walk using wpAny_loadPart' hl, wpAny_loadPart' hb
    exact h
 | succ k ih =>
  intro i hk prog w A R s h
  obtain ⟨hp, g, d, tk, os⟩ := s; obtain ⟨hl, hb, he, h⟩ := h
  wp_walk using wpAny_loadPart' hl, wpAny_loadPart' hb
  have hlt : i < items.size := by omega
  have hlt2 : i < items2.size := by omega
  have hi1 : items[((i : Nat) : Int).toNat]? = some items[i] := by simp [hlt]
  have hi2 : items2[((i : Nat) : Int).toNat]? = some items2[i] := by simp [hlt2]
  have hc : ((i : Int) + 1) = ((i + 1 : Nat) : Int) := by push_cast; rfl
  rw [hi1, hi2]
  obtain ⟨he1, hl1⟩ := he i hlt hlt2
  refine wpAny_bind (he1 prog w _ _ ?_)
  unfold lexG at h
  cases hb' : e i with
  | true =>
   rw [hb'] at h
   wp_walk
   rw [hc]
   exact ⟨plainId_quiet plain_eq_loop _, codeAny_builtin entry_eq_loop (by
    rw [Around.under_plainId plain_eq_loop _]
    exact ih (i + 1) (by omega) prog w A R _ ⟨hl, hb, he, by simpa using h⟩)⟩
  | false =>
   rw [hb'] at h
   wp_walk using wpAny_loadPart' hl, wpAny_loadPart' hb
   rw [hi1, hi2]
   refine wpAny_bind (hl1 hb' prog w _ _ ?_)
   wp_walk
   simpa using h
theorem list_gt (l b : Addr) (items items2 : Array Value) (n n2 : Nat) (dd dd2 : Option Addr) (sl sl2 : Array (Option Value)) (e lt : Nat → Bool) :
 Meets (Builtin.«list.__gt__» ⟨[.ref l, .ref b], []⟩)
  (fun A R s => s.heap.get? l = some { cls := .type "list", dict := dd, data := .seq items n, slots := sl } ∧ s.heap.get? b = some { cls := .type "list", dict := dd2, data := .seq items2 n2, slots := sl2 } ∧
   (∀ j (h1 : j < items.size) (h2 : j < items2.size), EqAt A.in1 s items[j] items2[j] (e j) ∧ (e j = false → GtAt A.in1 s items[j] items2[j] (lt j))) ∧
   R (.ok (.ret (.bool (lexG e lt items.size items2.size (min items.size items2.size) 0)))) s) := by
 intro prog w A R s h
 obtain ⟨hp, g, d, tk, os⟩ := s; obtain ⟨hl, hb, he, h⟩ := h
 have f3 := AutoSeq1.sub_list_list
 wp_walk using wpAny_loadPart' hl, wpAny_loadPart' hb
 exact ⟨plainId_quiet plain_eq_loop _, codeAny_builtin entry_eq_loop (by
  rw [Around.under_plainId plain_eq_loop _]
  exact gt_loop l b items items2 n n2 dd dd2 sl sl2 e lt _ 0 rfl prog w A R _ ⟨hl, hb, he, by simpa using h⟩)⟩
def eS (xs ys : List Str) (j : Nat) : Bool := xs.getD j ⟨#[]⟩ == ys.getD j ⟨#[]⟩
def lS (xs ys : List Str) (j : Nat) : Bool := decide ((xs.getD j ⟨#[]⟩).cps.toList < (ys.getD j ⟨#[]⟩).cps.toList)
def gS (xs ys : List Str) (j : Nat) : Bool := decide ((ys.getD j ⟨#[]⟩).cps.toList < (xs.getD j ⟨#[]⟩).cps.toList)
def ltS (xs ys : List Str) : Bool := lexB (eS xs ys) (lS xs ys) xs.length ys.length (min xs.length ys.length) 0
def gtS (xs ys : List Str) : Bool := lexG (eS xs ys) (gS xs ys) xs.length ys.length (min xs.length ys.length) 0
theorem strV_get {tl : List (Str × Tok)} {j : Nat} (h : j < tl.length) : ∃ t, (strValues tl).toArray[j]'(by simpa [strValues] using h) = .str ((tl.map (·.1)).getD j ⟨#[]⟩) t := by
 refine ⟨tl[j].2, ?_⟩
 simp [strValues, h]
section
variable {prog : Program} {w : World} {A : Around} {E : Value → Shared → Prop} {s : Shared} {g : Heap}
theorem strs_elems {A : Around} {s : Shared} {t1 t2 : List (Str × Tok)} (j : Nat) (j1 : j < (strValues t1).toArray.size) (j2 : j < (strValues t2).toArray.size) :
 EqAt A s (strValues t1).toArray[j] (strValues t2).toArray[j] (eS (t1.map (·.1)) (t2.map (·.1)) j) ∧ LtAt A s (strValues t1).toArray[j] (strValues t2).toArray[j] (lS (t1.map (·.1)) (t2.map (·.1)) j) ∧ GtAt A s (strValues t1).toArray[j] (strValues t2).toArray[j] (gS (t1.map (·.1)) (t2.map (·.1)) j) := by
 obtain ⟨u1, e1⟩ := strV_get (tl := t1) (j := j) (by simpa [strValues] using j1)
 obtain ⟨u2, e2⟩ := strV_get (tl := t2) (j := j) (by simpa [strValues] using j2)
 rw [e1, e2]
 exact ⟨EqAt.str_str _ _ _ _, fun prog w E Q hq => P.lt_str hq, fun prog w E Q hq => P.gt_str hq⟩
theorem ltT {a b : Addr} {t1 t2 : List (Str × Tok)} {k k' : Nat} {Q : Value → Shared → Prop} (e : s.heap.get? a = some (lstObj (strValues t1) k)) (e' : s.heap.get? b = some (lstObj (strValues t2) k')) (hu : A.units < cLine) (h : Q (.bool (ltS (t1.map (·.1)) (t2.map (·.1)))) s) :
 wpAny (model prog w) A (richCompare .Lt (.ref a) (.ref b)) Q E s := by
 have hl : s.TypeIs (.ref a) "list" := ⟨_, e, rfl⟩
 have hl' : s.TypeIs (.ref b) "list" := ⟨_, e', rfl⟩
 refine richCompare_meets_room hl hl' PySem.F.slot_list_lt PySem.F.entry_list_lt (PySem.F.args_list_lt_2 _ _) (list_lt a b (strValues t1).toArray (strValues t2).toArray k k' none none #[] #[] (eS (t1.map (·.1)) (t2.map (·.1))) (lS (t1.map (·.1)) (t2.map (·.1)))) ⟨e, e', fun j j1 j2 => ⟨(strs_elems j j1 j2).1, fun _ => (strs_elems j j1 j2).2.1⟩, ?_⟩ hu
 refine ⟨by simp, ?_⟩
 simpa [ltS, strValues] using h
theorem gtT {a b : Addr} {t1 t2 : List (Str × Tok)} {k k' : Nat} {Q : Value → Shared → Prop} (e : s.heap.get? a = some (lstObj (strValues t1) k)) (e' : s.heap.get? b = some (lstObj (strValues t2) k')) (hu : A.units < cLine) (h : Q (.bool (gtS (t1.map (·.1)) (t2.map (·.1)))) s) :
 wpAny (model prog w) A (richCompare .Gt (.ref a) (.ref b)) Q E s := by
 have hl : s.TypeIs (.ref a) "list" := ⟨_, e, rfl⟩
 have hl' : s.TypeIs (.ref b) "list" := ⟨_, e', rfl⟩
 refine richCompare_meets_room hl hl' PySem.F.slot_list_gt PySem.F.entry_list_gt (PySem.F.args_list_gt_2 _ _) (list_gt a b (strValues t1).toArray (strValues t2).toArray k k' none none #[] #[] (eS (t1.map (·.1)) (t2.map (·.1))) (gS (t1.map (·.1)) (t2.map (·.1)))) ⟨e, e', fun j j1 j2 => ⟨(strs_elems j j1 j2).1, fun _ => (strs_elems j j1 j2).2.2⟩, ?_⟩ hu
 refine ⟨by simp, ?_⟩
 simpa [gtS, strValues] using h
end
end Mine
namespace Mine
open PySem PySem.W PyProof.Rows PySem.Calls PySem.Spec
section
variable {prog : Program} {w : World} {A : Around} {s : Shared} {env : Env} {E : Value → Shared → Prop}
variable {h₀ g₀ g : Heap} {xt : List Addr} {L : Addr} {N Nn Gl No Go : List Str} {vs : List (Option Value)} {mu : List (Addr × Obj)}
theorem St.put {h₁ h' : Heap} {a : Addr} {o : Obj} (F : St h₀ xt g₀ g L N vs mu h₁) (k : Le h₁ h') (ha : h'.get? a = some o) (hge : h₁.objs.size ≤ a) : St h₀ xt g₀ g L N vs ((a, o) :: mu) h' := by
 have F₁ := F.more k
 have low : h₀.objs.size ≤ a := Nat.le_trans F.lowSz hge
 refine ⟨F₁.len, F₁.ns, F₁.base, F₁.keep, F₁.low, F₁.outg, fun p hp => ?_, ?_, F₁.mono, F₁.fresh⟩
 · rcases List.mem_cons.mp hp with rfl | hp
   · refine ⟨ha, fun q => absurd F.lt (Nat.not_lt.mpr (q ▸ hge)), ?_, .inr low⟩
     cases q : g.get? a with
     | none => rfl
     | some x => exact absurd (Heap.lt_size (F.keep _ _ q)) (Nat.not_lt.mpr hge)
   · exact F₁.mt p hp
 · rw [List.map_cons]
   refine List.nodup_cons.mpr ⟨fun hm => ?_, F.nd⟩
   obtain ⟨p, hp, e⟩ := List.mem_map.mp hm
   exact absurd (Heap.lt_size (F.mt p hp).1) (Nat.not_lt.mpr (e ▸ hge))
theorem St.put' {h : Heap} {a : Addr} {o : Obj} (F : St h₀ xt g₀ g L N vs mu h) (ha : h.get? a = some o) (hL : a ≠ L) (hg : g.get? a = none) (hm : ∀ p ∈ mu, p.1 ≠ a) (low : h₀.objs.size ≤ a) : St h₀ xt g₀ g L N vs ((a, o) :: mu) h := by
 refine ⟨F.len, F.ns, F.base, F.keep, F.low, F.outg, fun p hp => ?_, ?_, F.mono, F.fresh⟩
 · rcases List.mem_cons.mp hp with rfl | hp
   · exact ⟨ha, hL, hg, .inr low⟩
   · exact F.mt p hp
 · rw [List.map_cons]
   refine List.nodup_cons.mpr ⟨fun hm' => ?_, F.nd⟩
   obtain ⟨p, hp, e⟩ := List.mem_map.mp hm'
   exact hm p hp e
theorem St.turn2 {h h₁ : Heap} {e it : Addr} {oe oi oe' oi' : Obj} (F : St h₀ xt g₀ g L N vs ((e, oe) :: (it, oi) :: mu) h) (hk : ∀ b o, b ≠ e → b ≠ it → h.get? b = some o → h₁.get? b = some o) (he : h₁.get? e = some oe') (hi : h₁.get? it = some oi') :
 St h₀ xt g₀ g L N vs ((e, oe') :: (it, oi') :: mu) h₁ := by
 have me := F.mt _ (.head _)
 have mi := F.mt _ (.tail _ (.head _))
 have nd := F.nd
 simp only [List.map_cons, List.nodup_cons, List.mem_cons, not_or] at nd
 have nb : ∀ p : Addr × Obj, p.1 ∈ xt ∨ h₀.objs.size ≤ p.1 → ∀ b o, b ∉ xt → h₀.get? b = some o → b ≠ p.1 := fun p hp b o hb q z => by
  subst z
  rcases hp with z | z
  · exact hb z
  · exact absurd (Heap.lt_size q) (Nat.not_lt.mpr z)
 refine ⟨F.len, ?_, fun b o hb q => hk b o (nb (e, oe) me.2.2.2 b o hb q) (nb (it, oi) mi.2.2.2 b o hb q) (F.base b o hb q), fun b o q => hk b o (fun z => ?_) (fun z => ?_) (F.keep b o q), F.low, F.outg, fun p hp => ?_, ?_, F.mono, F.fresh⟩
 · obtain ⟨m, a, b⟩ := F.ns
   exact ⟨m, a.at' fun o q => hk _ o (Ne.symm me.2.1) (Ne.symm mi.2.1) q, b⟩
 · subst z; rw [me.2.2.1] at q; cases q
 · subst z; rw [mi.2.2.1] at q; cases q
 · rcases List.mem_cons.mp hp with rfl | hp
   · exact ⟨he, me.2⟩
   · rcases List.mem_cons.mp hp with rfl | hp
     · exact ⟨hi, mi.2⟩
     · have P := F.mt p (.tail _ (.tail _ hp))
       have hm : p.1 ∈ mu.map (·.1) := List.mem_map_of_mem hp
       exact ⟨hk _ _ (fun z => nd.1.2 (z ▸ hm)) (fun z => nd.2.1 (z ▸ hm)) P.1, P.2⟩
 · simp only [List.map_cons, List.nodup_cons, List.mem_cons, not_or]
   exact nd
theorem St.but2 {h h₁ : Heap} {e it : Addr} {oe oi : Obj} (F : St h₀ xt g₀ g L N vs ((e, oe) :: (it, oi) :: mu) h) (hk : ∀ b o, b ≠ it → h.get? b = some o → h₁.get? b = some o) : St h₀ xt g₀ g L N vs mu h₁ :=
 (F.swap.but fun b o hb q => hk b o (fun z => hb (by simp [z])) q).sub (List.sublist_cons_self _ _)
def TurnE (h₀ g₀ : Heap) (xt : List Addr) (L : Addr) (N : List Str) (s : Shared) (g : Heap) (e it : Addr) (oe oi : Obj) (J : Heap → List (Option Value) → List (Addr × Obj) → Prop) (Q : Flow → Shared → Prop) (f : Flow) (s' : Shared) : Prop :=
 match f with
 | .brk => Q .next s'
 | .ret v => Q (.ret v) s'
 | _ => ∃ g' vs' mu' h' t', s' = { s with heap := h', toks := t' } ∧ Le g g' ∧ St h₀ xt g₀ g' L N vs' ((e, oe) :: (it, oi) :: mu') h' ∧ J g' vs' mu'
theorem turnE_next {e it : Addr} {oe oi : Obj} {J : Heap → List (Option Value) → List (Addr × Obj) → Prop} {Q : Flow → Shared → Prop} {g' h' : Heap} {t' : Nat} (k : Le g g') (F : St h₀ xt g₀ g' L N vs ((e, oe) :: (it, oi) :: mu) h') (j : J g' vs mu) :
 TurnE h₀ g₀ xt L N s g e it oe oi J Q .next { s with heap := h', toks := t' } := ⟨g', vs, mu, h', t', rfl, k, F, j⟩
theorem turnE_brk {e it : Addr} {oe oi : Obj} {J : Heap → List (Option Value) → List (Addr × Obj) → Prop} {Q : Flow → Shared → Prop} {s' : Shared} (h : Q .next s') :
 TurnE h₀ g₀ xt L N s g e it oe oi J Q .brk s' := h
theorem each_enum {elts : List Expr} {kk : Nat} {p : Pos} {body : List Stmt} {l : Addr} {items : List Value} {k : Nat} {Q : Flow → Shared → Prop}
 (J : Nat → Heap → List (Option Value) → List (Addr × Obj) → Prop) (hh : A.handled = none) (F : St h₀ xt g₀ g L N vs mu s.heap) (hl : g.get? l = some (lstObj items k)) (hj : J 0 g vs mu)
 (turn : ∀ (i : Nat) v t g' g'' vs' mu' e it oe oi h tk, items[i]? = some v → Le g g' → J i g' vs' mu' → Le g' g'' → St h₀ xt g₀ g'' L N vs' ((e, oe) :: (it, oi) :: mu') h →
  wpAny (model prog w) A (assignInOrder ((assignEach elts env).map (·.2)) [.int (i : Int) t, v]) (fun _ s₁ => wpAny (model prog w) A (execs body env) (TurnE h₀ g₀ xt L N s g'' e it oe oi (J (i + 1)) Q) no s₁) no { s with heap := h, toks := tk })
 (done : ∀ g' vs' mu' h tk, Le g g' → J items.length g' vs' mu' → St h₀ xt g₀ g' L N vs' mu' h → Q .next { s with heap := h, toks := tk })
 (hn : (assignEach elts env).length = 2 := by rfl) (hs : (assignEach elts env).findIdx? (·.1) = none := by rfl) :
 wpAny (model prog w) A (call (.type "enumerate") [.ref l]) (fun x s₁ => wpAny (model prog w) A (pyIter x) (fun it s₂ => codeAny (model prog w) A (.forLoop (.Tuple elts kk p) it body [] env) (fun r s' => match r with | .ok f => Q f s' | .error _ => False) s₂) no s₁) no s := by
 refine call_enumerate_list ⟨_, F.keep _ _ hl, rfl, _, rfl⟩ fun h' he hit hz hk => ?_
 refine wpAny_pyIter_enum he ?_
 obtain ⟨oi, hoi, hci, hdi⟩ := hit
 have F₁ := F.put hk hoi (Nat.le_refl _)
 have F₂ := F₁.put' (a := s.heap.objs.size + 1) he (fun q => absurd F.lt (Nat.not_lt.mpr (q ▸ Nat.le_succ _))) (by
  cases q : g.get? (s.heap.objs.size + 1) with
  | none => rfl
  | some x => exact absurd (Heap.lt_size (F.keep _ _ q)) (Nat.not_lt.mpr (Nat.le_succ _))) (fun p hp q => by
  rcases List.mem_cons.mp hp with rfl | hp
  · exact absurd q (Nat.ne_of_lt (Nat.lt_succ_self _))
  · exact absurd (Heap.lt_size (F.mt p hp).1) (Nat.not_lt.mpr (q ▸ Nat.le_succ _))) (Nat.le_succ_of_le F.lowSz)
 have hei : s.heap.objs.size + 1 ≠ s.heap.objs.size := Nat.ne_of_gt (Nat.lt_succ_self _)
 generalize s.heap.objs.size + 1 = e at he F₂ hei ⊢
 generalize s.heap.objs.size = it at hoi F₁ F₂ he hei ⊢
 refine codeAny_mono (R := fun r s' => match r with | .ok f => Q f s' | .error _ => False) ?_ fun r s' h => h
 refine codeAny_forLoop_any (fun n s' => ∃ h tk, ∃ i : Nat, ∃ g' vs' mu' oe oi, s' = { s with heap := h, toks := tk } ∧ (∃ old, IsEnum h e it i old) ∧ h.IsListIter it l i ∧ Le g g' ∧ J i g' vs' mu' ∧ St h₀ xt g₀ g' L N vs' ((e, oe) :: (it, oi) :: mu') h ∧ i ≤ items.length ∧ n = items.length + 1 - i) ?_ (items.length + 1)
  ⟨h', s.toks, 0, g, vs, mu, _, oi, rfl, ⟨_, he⟩, ⟨oi, hoi, hci, hdi⟩, Le.rfl', hj, F₂, Nat.zero_le _, rfl⟩
 rintro n s' ⟨h, tk, i, g', vs', mu', oe, oi, rfl, ⟨old, he⟩, hit, kg, hJ, F', hi, rfl⟩
 by_cases hlt : i < items.length
 · refine wpAny_no (wpAny_pyNext_enum_item he hit ⟨_, F'.keep _ _ (kg _ _ hl), rfl, _, rfl⟩ (x := items[i]) (by simp [hlt]) hei fun h₁ ho₁ hit₁ hT₁ hz₁ hk₁ => ?_)
   obtain ⟨oi₁, hoi₁, hci₁, hdi₁⟩ := hit₁
   have F₁ := F'.turn2 hk₁ ho₁ hoi₁
   have hTe : h.objs.size ≠ e := Nat.ne_of_gt (Heap.lt_size he)
   have hTi : h.objs.size ≠ it := by obtain ⟨_, z, _⟩ := hit; exact Nat.ne_of_gt (Heap.lt_size z)
   have hTL : h.objs.size ≠ L := Nat.ne_of_gt F'.lt
   have hTg : g'.get? h.objs.size = none := F'.none_size
   have F₂ := F₁.put' hT₁ hTL hTg (fun p hp q => by
    rcases List.mem_cons.mp hp with rfl | hp
    · exact hTe q.symm
    · rcases List.mem_cons.mp hp with rfl | hp
      · exact hTi q.symm
      · exact absurd (Heap.lt_size (F'.mt p (.tail _ (.tail _ hp))).1) (Nat.not_lt.mpr (Nat.le_of_eq q.symm))) F'.lowSz
   obtain ⟨g₂, k2, eT, F₃⟩ := F₂.freeze (pre := []) rfl F'.lowSz
   refine wpAny_no (wpAny_letOwnedTupleGo_enum ho₁ fun h₂ he₂ hs₂ => ?_)
   have F₄ := St.turn (pre := []) F₃ rfl hs₂ he₂
   refine wpAny_no (asT (items := [.int (i : Int) tk, items[i]]) hh F₄ eT (fun h₃ F₅ => ?_) (by simpa using hn) hs)
   have oi₅ := (F₅.mt _ (.tail _ (.head _))).1
   have oe₅ := (F₅.mt _ (.head _)).1
   refine wpAny_mono (turn i items[i] _ g' g₂ vs' mu' e it _ _ h₃ _ (by simp [hlt]) kg hJ k2 F₅) (fun _ s₁ h₁' => wpAny_no (wpAny_mono h₁' (fun f s₂ h₂ => ?_) fun _ _ e => e)) fun _ _ e => e
   have fin : (∃ g'' vs'' mu'' h'' t'', s₂ = { s with heap := h'', toks := t'' } ∧ Le g₂ g'' ∧ St h₀ xt g₀ g'' L N vs'' ((e, { cls := .type "enumerate", data := .fields #[.none, .bool false, .ref it, rawInt ((i : Int) + 1), .none, items[i]] }) :: (it, oi₁) :: mu'') h'' ∧ J (i + 1) g'' vs'' mu'') → ∃ m, m < items.length + 1 - i ∧ ∃ h tk, ∃ i : Nat, ∃ g' vs' mu' oe oi, s₂ = { s with heap := h, toks := tk } ∧ (∃ old, IsEnum h e it i old) ∧ h.IsListIter it l i ∧ Le g g' ∧ J i g' vs' mu' ∧ St h₀ xt g₀ g' L N vs' ((e, oe) :: (it, oi) :: mu') h ∧ i ≤ items.length ∧ m = items.length + 1 - i := by
    rintro ⟨g'', vs'', mu'', h'', t'', rfl, k3, F₆, J₆⟩
    refine ⟨items.length + 1 - (i + 1), by omega, h'', t'', i + 1, g'', vs'', mu'', _, _, rfl, ⟨items[i], by have z := (F₆.mt _ (.head _)).1; simpa [IsEnum] using z⟩, ⟨_, (F₆.mt _ (.tail _ (.head _))).1, hci₁, hdi₁⟩, (kg.tr k2).tr k3, J₆, F₆, hlt, rfl⟩
   cases f with
   | next => exact fin h₂
   | cont => exact fin h₂
   | brk => exact h₂
   | ret v => exact h₂
 · have hin : i = items.length := by omega
   subst hin
   refine wpAny_no (wpAny_pyNext_enum_end hh he hit ⟨_, F'.keep _ _ (kg _ _ hl), rfl, _, rfl⟩ (by simp) fun h₁ hx => ?_)
   refine wpAny_execs_nil ?_
   exact done g' vs' mu' h₁ _ kg hJ (F'.but2 hx)
end
section
variable {prog : Program} {w : World} {A : Around} {s : Shared} {env : Env} {E : Value → Shared → Prop}
variable {h₀ g₀ g : Heap} {xt : List Addr} {L : Addr} {N Nn Gl No Go : List Str} {vs : List (Option Value)} {mu : List (Addr × Obj)}
theorem splitM {x : Str} {t : Tok} {pos : Pos} {a : Sem Value} {Q : Value → Shared → Prop} (h : wpAny (model prog w) A a (fun v s₁ => ∃ y u, v = .str y u ∧ (y.length == 0) = false ∧
 ∀ l k, l.map (·.1) = Txt.split x y → Q (.ref s₁.heap.objs.size) { s₁ with heap := s₁.heap.push (lstObj (strValues l) 0), toks := k }) E s) (hx : x.length ≤ 100000) :
 MethodOnS prog w A E "split" (.str x t) pos [(false, a)] Q s := by
 have hx' : x.length ≤ sizeLine := by rw [sizeLine_eq]; omega
 refine ⟨"str", _, PySem.F.plainAttrs_str, PySem.F.slot_str_split, PySem.F.type_str_split, typeIs_str _ _ _, (fun _ e => nomatch e),
  method1_meets PySem.F.slot_str_split PySem.F.entry_str_split (wpAny_mono h (fun v s₁ h₁ => ?_) fun _ _ e => e)⟩
 obtain ⟨y, u, rfl, hy, hq⟩ := h₁
 have hn : (Builtin.Str.partsBetween x (Builtin.Str.occurrences x y 0 x.length (x.length + 1)) y.length).length ≤ sizeLine := by
  rw [length_partsBetween, sizeLine_eq]
  have := StrLaws.occ_length_le x y 0 x.length (x.length + 1)
  omega
 refine ⟨typeIs_str _ _ _, PySem.F.args_str_split_2 _ _, ?_⟩
 cases h1 : (decide (x.length < y.length) || decide (Builtin.Str.strKind x < Builtin.Str.strKind y))
 · cases hf : (Builtin.Str.occurrences x y 0 x.length (x.length + 1)).isEmpty
   · refine ⟨_, meets_str_split_sep x y t u h1 hy hf hx' hn, ?_⟩
     show wants Q E _ { s₁ with toks := _, heap := s₁.heap.push { cls := .type "list", data := .seq (strsFrom s₁.toks (Builtin.Str.partsBetween x (Builtin.Str.occurrences x y 0 x.length (x.length + 1)) y.length)).toArray } }
     rw [strsFrom_eq]
     exact hq (numbered s₁.toks _) _ ((numbered_texts _ _).trans ((if_neg (ne_true_of_eq_false h1)).trans (if_neg (ne_true_of_eq_false hf))).symm)
   · exact ⟨_, meets_str_split_not_found x y t u h1 hy hf, hq [(x, t)] s₁.toks ((if_neg (ne_true_of_eq_false h1)).trans (if_pos hf)).symm⟩
 · exact ⟨_, meets_str_split_cannot_occur x y t u h1, hq [(x, t)] s₁.toks (if_pos h1).symm⟩
theorem itemT {l : Addr} {xs : List Value} {i : Nat} {t : Tok} {x : Value} {Q : Value → Shared → Prop} (kk : Le g s.heap) (hl : g.get? l = some (tupObj xs)) (hx : xs[i]? = some x) (hi : i < 2 ^ 40) (h : Q x s) : ItemOn (model prog w) A E (.ref l) (.int (i : Int) t) Q s := by
 have hlt : i < xs.length := by
  rcases Nat.lt_or_ge i xs.length with q | q
  · exact q
  · rw [List.getElem?_eq_none q] at hx; cases hx
 exact ⟨"tuple", _, PySem.F.slot_tuple_getitem.lookup, ⟨_, kk _ _ hl, rfl⟩, getItem_tuple ⟨_, kk _ _ hl, rfl, _, rfl⟩ (by omega) (by omega) (j := i) (by unfold seqIndex?; simp; omega) (by simpa using hx) h⟩
theorem truT {l : Addr} {xs : List Value} {Q : Bool → Shared → Prop} (kk : Le g s.heap) (hl : g.get? l = some (tupObj xs)) (hn : xs.length < 2 ^ 40) (h : ∀ k, Q (decide (0 < xs.length)) { s with toks := k }) : wpAny (model prog w) A (truthy (.ref l)) Q E s := by
 refine truthy_tuple ⟨_, kk _ _ hl, rfl, _, rfl⟩ (by simp; omega) ?_
 have e : (!xs.toArray.isEmpty) = decide (0 < xs.length) := by cases xs <;> simp
 rw [e]; exact h _
theorem cmpS_tuple {elt iter : Expr} {x : Str} {p : Pos} {ifs : List Expr} {scope : Scope} {pos py : Pos} {y : Str} {cl : List (Str × Addr)} {l : Addr} {items : List Value} {j : Nat} {Q : Flow → Shared → Prop}
 (J : Nat → Heap → List Value → Prop) (hh : A.handled = none) (hc : chkC scope Nn Gl = true) (C₀ : Cx env N Go) (F : St h₀ xt g₀ g env.locals N vs mu s.heap) (hl : g.get? l = some (tupObj items)) (hj : J 0 g []) (hn : items.length ≤ sizeLine)
 (turn : CTurn prog w A env scope cl elt (.Name x p) ifs Nn Gl g (fun i v => items[i]? = some v) J) (hy : N[j]? = some y)
 (done : ∀ g₁ g' D h' tk ys, Le g g' → Le g₁ g' → J items.length g₁ ys → g'.get? D = some (lst ys) → St h₀ xt g₀ g' env.locals N (vs.set j (some (.ref D))) mu h' → Q .next { s with heap := h', toks := tk }) :
 wpAny (model prog w) A (pyIter (.ref l)) (CompAt prog w A env scope cl (.ListComp elt [⟨.Name x p, iter, ifs, 0⟩] scope pos) (some (assign (.Name y py) env)) fun _ s' => Q .next s') no s := by
 refine wpAny_pyIter_tuple ⟨_, F.keep _ _ hl, rfl, _, rfl⟩ ?_
 have F₁ := F.own (titObj l)
 obtain ⟨hI, h0⟩ := It.tuple (prog := prog) (w := w) (A := A) (target := .Name x p) hh hl (F₁.mt _ (.head _)).2.2.1 F₁.keep (F₁.mt _ (.head _)).1 fun i v s Q _ h => go_name h
 exact cmpS J hc C₀ F₁ hI h0 hj hn turn hy done
end
section
variable {prog : Program} {w : World} {A : Around} {s : Shared} {env : Env} {E : Value → Shared → Prop}
variable {h₀ g₀ g : Heap} {xt : List Addr} {N Nn Gl No Go : List Str} {vs : List (Option Value)} {mu : List (Addr × Obj)}
theorem asTup {elt iter : Expr} {x y : Str} {p py : Pos} {ifs : List Expr} {scope : Scope} {pos spos : Pos} {cl : List (Str × Addr)} {l : Addr} {items : List Value} {j : Nat} {Q : Flow → Shared → Prop}
 (Nn Gl : List Str) (J : Nat → Heap → List Value → Prop) (hh : A.handled = none) (hc : chkC scope Nn Gl = true) (hclo : clo env.cells scope.names [] = some cl) (C₀ : Cx env N Go) (hy : N[j]? = some y)
 (hl : (py.line == pos.line && !(scope.names.any fun (n, k) => n == y && (k == .local || k == .cell))) = true) (hn : items.length ≤ sizeLine)
 (h : wpAny (model prog w) A (eval iter env) (fun xv s₁ => xv = .ref l ∧ ∃ g₁ vs₁ mu₁, St h₀ xt g₀ g₁ env.locals N vs₁ mu₁ s₁.heap ∧ g₁.get? l = some (tupObj items) ∧ J 0 g₁ [] ∧ CTurn prog w A env scope cl elt (.Name x p) ifs Nn Gl g₁ (fun i v => items[i]? = some v) J ∧
  ∀ g' g₂ D h' tk ys, Le g₁ g₂ → Le g' g₂ → J items.length g' ys → g₂.get? D = some (lst ys) → St h₀ xt g₀ g₂ env.locals N (vs₁.set j (some (.ref D))) mu₁ h' → Q .next { s₁ with heap := h', toks := tk }) no s)
 (hs : ∀ x, foldedSetIterable iter env x = pure x := by intro _; rfl) :
 wpAny (model prog w) A (exec (.Assign [.Name y py] (.ListComp elt [⟨.Name x p, iter, ifs, 0⟩] scope pos) spos) env) Q E s := by
 refine asComp Nn Gl hc hclo (swaps C₀ hy hl) (wpAny_mono h (fun xv s₁ h₁ => ?_) fun _ _ e => e) hs
 obtain ⟨rfl, g₁, vs₁, mu₁, F, hl, hj, turn, done⟩ := h₁
 exact cmpS_tuple (Q := Q) J hh hc C₀ F hl hj hn turn hy fun g' g₂ D h' tk ys a b c d e => done g' g₂ D h' tk ys a b c d e
theorem asLst {elt iter : Expr} {x y : Str} {p py : Pos} {ifs : List Expr} {scope : Scope} {pos spos : Pos} {cl : List (Str × Addr)} {l : Addr} {items : List Value} {k j : Nat} {Q : Flow → Shared → Prop}
 (Nn Gl : List Str) (J : Nat → Heap → List Value → Prop) (hh : A.handled = none) (hc : chkC scope Nn Gl = true) (hclo : clo env.cells scope.names [] = some cl) (C₀ : Cx env N Go) (hy : N[j]? = some y)
 (hl : (py.line == pos.line && !(scope.names.any fun (n, k) => n == y && (k == .local || k == .cell))) = true) (hn : items.length ≤ sizeLine)
 (h : wpAny (model prog w) A (eval iter env) (fun xv s₁ => xv = .ref l ∧ ∃ g₁ vs₁ mu₁, St h₀ xt g₀ g₁ env.locals N vs₁ mu₁ s₁.heap ∧ g₁.get? l = some (lstObj items k) ∧ J 0 g₁ [] ∧ CTurn prog w A env scope cl elt (.Name x p) ifs Nn Gl g₁ (fun i v => items[i]? = some v) J ∧
  ∀ g' g₂ D h' tk ys, Le g₁ g₂ → Le g' g₂ → J items.length g' ys → g₂.get? D = some (lst ys) → St h₀ xt g₀ g₂ env.locals N (vs₁.set j (some (.ref D))) mu₁ h' → Q .next { s₁ with heap := h', toks := tk }) no s)
 (hs : ∀ x, foldedSetIterable iter env x = pure x := by intro _; rfl) :
 wpAny (model prog w) A (exec (.Assign [.Name y py] (.ListComp elt [⟨.Name x p, iter, ifs, 0⟩] scope pos) spos) env) Q E s := by
 refine asComp Nn Gl hc hclo (swaps C₀ hy hl) (wpAny_mono h (fun xv s₁ h₁ => ?_) fun _ _ e => e) hs
 obtain ⟨rfl, g₁, vs₁, mu₁, F, hl, hj, turn, done⟩ := h₁
 exact cmpS_list (Q := Q) J hh hc C₀ F hl hj hn turn hy fun g' g₂ D h' tk ys a b c d e => done g' g₂ D h' tk ys a b c d e
theorem evLst {elt iter : Expr} {x : Str} {p : Pos} {ifs : List Expr} {scope : Scope} {pos : Pos} {cl : List (Str × Addr)} {l L : Addr} {items : List Value} {k : Nat} {Q : Value → Shared → Prop}
 (Nn Gl : List Str) (J : Nat → Heap → List Value → Prop) (hh : A.handled = none) (hc : chkC scope Nn Gl = true) (hclo : clo env.cells scope.names [] = some cl) (C₀ : Cx env No Go) (hn : items.length ≤ sizeLine)
 (h : wpAny (model prog w) A (eval iter env) (fun xv s₁ => xv = .ref l ∧ ∃ g₁ vs₁ mu₁, St h₀ xt g₀ g₁ L N vs₁ mu₁ s₁.heap ∧ g₁.get? l = some (lstObj items k) ∧ J 0 g₁ [] ∧ CTurn prog w A env scope cl elt (.Name x p) ifs Nn Gl g₁ (fun i v => items[i]? = some v) J ∧
  ∀ g' g₂ D h' tk ys, Le g₁ g₂ → Le g' g₂ → J items.length g' ys → g₂.get? D = some (lst ys) → St h₀ xt g₀ g₂ L N vs₁ mu₁ h' → Q (.ref D) { s₁ with heap := h', toks := tk }) no s)
 (hs : ∀ x, foldedSetIterable iter env x = pure x := by intro _; rfl) :
 wpAny (model prog w) A (eval (.ListComp elt [⟨.Name x p, iter, ifs, 0⟩] scope pos) env) Q E s := by
 refine evComp Nn Gl hc hclo (wpAny_mono h (fun xv s₁ h₁ => ?_) fun _ _ e => e) hs
 obtain ⟨rfl, g₁, vs₁, mu₁, F, hl, hj, turn, done⟩ := h₁
 exact cmpE_list (Q := Q) J hh hc C₀ F hl hj hn turn fun g' g₂ D h' tk ys a b c d e => done g' g₂ D h' tk ys a b c d e
end
end Mine
namespace Mine
set_option maxHeartbeats 2000000
open PySem PySem.W PyProof.Rows PySem.Calls PySem.Spec
def goodS (c : Str) : Bool := ((c.length : Int) != 0) && (c.cps.toList != (".": Str).cps.toList)
def partsS (x : Str) : List Str := (Txt.split x "/").filter goodS
def comL : List Str → List Str → List Str
 | x :: xs, y :: ys => if x = y then x :: comL xs ys else []
 | _, _ => []
def commonT (p q : Str) : Str := ("/" : Str) ++ Txt.join "/" (comL (partsS p) (partsS q))
theorem join_each (sep c : Str) : ∀ ps : List Str, c ∈ ps → c.length ≤ (Str.join sep ps).length
 | [], h => nomatch h
 | [x], h => by
  rw [List.mem_singleton.mp h]; exact Nat.le_refl _
 | x :: y :: r, h => by
  show c.length ≤ (x ++ sep ++ Str.join sep (y :: r)).length
  rw [Str.length_append, Str.length_append]
  rcases List.mem_cons.mp h with rfl | h
  · omega
  · have := join_each sep c (y :: r) h
    omega
theorem split_each (x c : Str) (h : c ∈ Txt.split x "/") : c.length ≤ x.length := by
 unfold Txt.split at h
 split at h
 · rw [List.mem_singleton.mp h]; exact Nat.le_refl _
 · split at h
   · rw [List.mem_singleton.mp h]; exact Nat.le_refl _
   · have e := StrLaws.glued_between_self x "/" (x.length + 1)
     rw [StrLaws.glued_eq_join] at e
     have := join_each "/" c _ h
     rw [e] at this
     exact this
abbrev nCommon : List Str := ["paths", "split_paths", "isabs", "c", "s1", "s2", "common", "i", "prefix"]
theorem split_len (x : Str) : (Txt.split x "/").length ≤ x.length + 2 := by
 unfold Txt.split
 split
 · simp
 · split
   · simp
   · rw [length_partsBetween]
     have := StrLaws.occ_length_le x "/" 0 x.length (x.length + 1)
     omega
theorem dts_strs {g : Heap} : ∀ l : List (Str × Tok), Dts g (strValues l) ((l.map (·.1)).map .str)
 | [] => .nil
 | (x, t) :: l => .cons (.str x t) (dts_strs l)
theorem two_lists {g : Heap} {zs : List Value} {a b : List Str} (h : Dts g zs [.list (a.map .str), .list (b.map .str)]) : ∃ a1 a2 ka kb ta tb, zs = [.ref a1, .ref a2] ∧ g.get? a1 = some (lstObj (strValues ta) ka) ∧ g.get? a2 = some (lstObj (strValues tb) kb) ∧ ta.map (·.1) = a ∧ tb.map (·.1) = b := by
 cases h with
 | cons x y =>
  cases y with
  | cons y z =>
   cases z
   obtain ⟨l1, v1, k1, rfl, e1, d1⟩ := x.listInv
   obtain ⟨l2, v2, k2, rfl, e2, d2⟩ := y.listInv
   obtain ⟨t1, rfl, f1⟩ := d1.strs
   obtain ⟨t2, rfl, f2⟩ := d2.strs
   exact ⟨l1, l2, k1, k2, t1, t2, rfl, e1, e2, f1, f2⟩
def pick2 {α : Type} (a b : α) : Nat → α
 | 0 => a
 | _ => b
def btLt (a b : List Str) (i j : Nat) : Bool := ltS (pick2 a b i) (pick2 a b j)
def btGt (a b : List Str) (i j : Nat) : Bool := gtS (pick2 a b i) (pick2 a b j)
theorem pick_at {g : Heap} {a1 a2 : Addr} {ka kb : Nat} {ta tb : List (Str × Tok)} (h1 : g.get? a1 = some (lstObj (strValues ta) ka)) (h2 : g.get? a2 = some (lstObj (strValues tb) kb)) {i : Nat} {v : Value} (hv : ([.ref a1, .ref a2] : List Value)[i]? = some v) :
 ∃ l t k, v = .ref l ∧ g.get? l = some (lstObj (strValues t) k) ∧ t.map (·.1) = pick2 (ta.map (·.1)) (tb.map (·.1)) i := by
 rcases i with _ | _ | i
 · simp at hv; exact ⟨a1, ta, ka, hv.symm, h1, rfl⟩
 · simp at hv; exact ⟨a2, tb, kb, hv.symm, h2, rfl⟩
 · simp at hv
theorem cmpLt {w : World} {A : Around} {g : Heap} {a1 a2 : Addr} {ka kb : Nat} {ta tb : List (Str × Tok)} {a b : List Str} (h1 : g.get? a1 = some (lstObj (strValues ta) ka)) (h2 : g.get? a2 = some (lstObj (strValues tb) kb)) (ea : ta.map (·.1) = a) (eb : tb.map (·.1) = b) (hu : A.units + 3 < cLine) :
 CmpIn pw w A .Lt g [.ref a1, .ref a2] (btLt a b) := by
 intro i j vi vj s Q E k hi hj hq
 obtain ⟨l, t, kl, rfl, e, f⟩ := pick_at h1 h2 hi
 obtain ⟨l', t', kl', rfl, e', f'⟩ := pick_at h1 h2 hj
 refine ltT (k _ _ e) (k _ _ e') (by omega) ?_
 rw [f, f', ea, eb]; exact hq
theorem cmpGt {w : World} {A : Around} {g : Heap} {a1 a2 : Addr} {ka kb : Nat} {ta tb : List (Str × Tok)} {a b : List Str} (h1 : g.get? a1 = some (lstObj (strValues ta) ka)) (h2 : g.get? a2 = some (lstObj (strValues tb) kb)) (ea : ta.map (·.1) = a) (eb : tb.map (·.1) = b) (hu : A.units + 3 < cLine) :
 CmpIn pw w A .Gt g [.ref a1, .ref a2] (btGt a b) := by
 intro i j vi vj s Q E k hi hj hq
 obtain ⟨l, t, kl, rfl, e, f⟩ := pick_at h1 h2 hi
 obtain ⟨l', t', kl', rfl, e', f'⟩ := pick_at h1 h2 hj
 refine gtT (k _ _ e) (k _ _ e') (by omega) ?_
 rw [f, f', ea, eb]; exact hq
theorem strV_at {T : List (Str × Tok)} {i : Nat} {v : Value} (h : (strValues T)[i]? = some v) : ∃ c t, v = .str c t ∧ (T.map (·.1))[i]? = some c := by
 simp only [strValues, List.getElem?_map] at h ⊢
 cases q : T[i]? with
 | none => rw [q] at h; cases h
 | some x => rw [q] at h; exact ⟨x.1, x.2, (Option.some.inj h).symm, rfl⟩
theorem strV_have {T : List (Str × Tok)} {i : Nat} (h : i < T.length) : ∃ c t, (strValues T)[i]? = some (.str c t) ∧ (T.map (·.1))[i]? = some c :=
 ⟨T[i].1, T[i].2, by simp [strValues, h], by simp [h]⟩
theorem comL_stop : ∀ {a b : List Str} {i : Nat} {c d : Str}, a.take i = b.take i → a[i]? = some c → b[i]? = some d → c ≠ d → comL a b = a.take i
 | x :: xs, y :: ys, 0, c, d, _, hc, hd, hn => by
  simp at hc hd
  subst hc; subst hd
  simp [comL, hn]
 | x :: xs, y :: ys, i + 1, c, d, h, hc, hd, hn => by
  simp only [List.take_succ_cons, List.cons.injEq] at h
  obtain ⟨rfl, h⟩ := h
  simp only [comL, if_true, List.take_succ_cons]
  rw [comL_stop h (by simpa using hc) (by simpa using hd) hn]
 | [], _, _, _, _, _, hc, _, _ => by simp at hc
 | _ :: _, [], _, _, _, _, _, hd, _ => by simp at hd
theorem comL_whole : ∀ {a b : List Str}, a = b.take a.length → comL a b = a
 | [], _, _ => by simp [comL]
 | x :: xs, [], h => by simp at h
 | x :: xs, y :: ys, h => by
  simp only [List.length_cons, List.take_succ_cons, List.cons.injEq] at h
  obtain ⟨rfl, h⟩ := h
  simp only [comL, if_true]
  rw [comL_whole h]
def ltA : List Str → List Str → Bool
 | [], [] => false
 | [], _ :: _ => true
 | _ :: _, [] => false
 | x :: xs, y :: ys => if x == y then ltA xs ys else decide (x.cps.toList < y.cps.toList)
theorem lexB_A (xs ys : List Str) : ∀ (k i : Nat), min xs.length ys.length - i = k → i ≤ min xs.length ys.length → lexB (eS xs ys) (lS xs ys) xs.length ys.length k i = ltA (xs.drop i) (ys.drop i)
 | 0, i, hk, hi => by
  unfold lexB
  rcases (by omega : i = xs.length ∧ i = ys.length ∨ i = xs.length ∧ i < ys.length ∨ i < xs.length ∧ i = ys.length) with ⟨h1, h2⟩ | ⟨h1, h2⟩ | ⟨h1, h2⟩
  · have e1 : xs.drop i = [] := List.drop_of_length_le (by omega)
    have e2 : ys.drop i = [] := List.drop_of_length_le (by omega)
    rw [e1, e2]; simp only [ltA]; simp; omega
  · have e1 : xs.drop i = [] := List.drop_of_length_le (by omega)
    rw [e1, List.drop_eq_getElem_cons h2]; simp only [ltA]; simp; omega
  · have e2 : ys.drop i = [] := List.drop_of_length_le (by omega)
    rw [List.drop_eq_getElem_cons h1, e2]; simp only [ltA]; simp; omega
 | k + 1, i, hk, hi => by
  have h1 : i < xs.length := by omega
  have h2 : i < ys.length := by omega
  rw [List.drop_eq_getElem_cons h1, List.drop_eq_getElem_cons h2]
  unfold lexB
  simp only [ltA]
  rw [lexB_A xs ys k (i + 1) (by omega) (by omega)]
  simp [eS, lS, h1, h2]
theorem lexG_A (xs ys : List Str) : ∀ (k i : Nat), min xs.length ys.length - i = k → i ≤ min xs.length ys.length → lexG (eS xs ys) (gS xs ys) xs.length ys.length k i = ltA (ys.drop i) (xs.drop i)
 | 0, i, hk, hi => by
  unfold lexG
  rcases (by omega : i = xs.length ∧ i = ys.length ∨ i = xs.length ∧ i < ys.length ∨ i < xs.length ∧ i = ys.length) with ⟨h1, h2⟩ | ⟨h1, h2⟩ | ⟨h1, h2⟩
  · have e1 : xs.drop i = [] := List.drop_of_length_le (by omega)
    have e2 : ys.drop i = [] := List.drop_of_length_le (by omega)
    rw [e1, e2]; simp only [ltA]; simp; omega
  · have e1 : xs.drop i = [] := List.drop_of_length_le (by omega)
    rw [e1, List.drop_eq_getElem_cons h2]; simp only [ltA]; simp; omega
  · have e2 : ys.drop i = [] := List.drop_of_length_le (by omega)
    rw [List.drop_eq_getElem_cons h1, e2]; simp only [ltA]; simp; omega
 | k + 1, i, hk, hi => by
  have h1 : i < xs.length := by omega
  have h2 : i < ys.length := by omega
  rw [List.drop_eq_getElem_cons h1, List.drop_eq_getElem_cons h2]
  unfold lexG
  simp only [ltA]
  rw [lexG_A xs ys k (i + 1) (by omega) (by omega)]
  have e : (xs[i] == ys[i]) = (ys[i] == xs[i]) := by
   rw [Bool.eq_iff_iff]; simp only [beq_iff_eq]; exact ⟨Eq.symm, Eq.symm⟩
  simp [eS, gS, h1, h2, e]
theorem ltS_A (xs ys : List Str) : ltS xs ys = ltA xs ys := lexB_A xs ys _ 0 rfl (Nat.zero_le _)
theorem gtS_A (xs ys : List Str) : gtS xs ys = ltA ys xs := lexG_A xs ys _ 0 rfl (Nat.zero_le _)
theorem str_ext {a b : Str} (h : a.cps.toList = b.cps.toList) : a = b := by
 obtain ⟨a⟩ := a
 obtain ⟨b⟩ := b
 exact congrArg Str.mk (Array.toList_inj.mp h)
theorem ltA_tri : ∀ a b : List Str, ltA a b = false → ltA b a = false → a = b
 | [], [], _, _ => rfl
 | [], _ :: _, h, _ => by simp [ltA] at h
 | _ :: _, [], _, h => by simp [ltA] at h
 | x :: xs, y :: ys, h1, h2 => by
  simp only [ltA] at h1 h2
  by_cases e : x = y
  · subst e
    simp at h1 h2
    rw [ltA_tri xs ys h1 h2]
  · rw [if_neg (by simpa using e)] at h1
    rw [if_neg (by simpa using Ne.symm e)] at h2
    simp only [decide_eq_false_iff_not] at h1 h2
    exact absurd (str_ext (list_tri nat_tri _ _ h1 h2)) e
theorem ltA_asym : ∀ a b : List Str, ltA a b = true → ltA b a = false
 | [], [], h => by simp [ltA] at h
 | [], _ :: _, _ => by simp [ltA]
 | _ :: _, [], h => by simp [ltA] at h
 | x :: xs, y :: ys, h => by
  simp only [ltA] at h ⊢
  by_cases e : x = y
  · subst e
    simp at h ⊢
    exact ltA_asym xs ys h
  · rw [if_neg (by simpa using e)] at h
    rw [if_neg (by simpa using Ne.symm e)]
    simp only [decide_eq_false_iff_not, decide_eq_true_eq] at h ⊢
    exact fun q => list_irr Nat.lt_irrefl _ (list_tra (fun _ _ _ => Nat.lt_trans) _ _ _ h q)
theorem ltA_pre : ∀ a b : List Str, ltA a (a ++ b) = false → b = []
 | [], [], _ => rfl
 | [], _ :: _, h => by simp [ltA] at h
 | x :: xs, b, h => by
  simp [ltA] at h
  exact ltA_pre xs b h
theorem safe_at {a b : List Str} (h : ltA b a = false) : ∀ i < a.length, a.take i = b.take i → i < b.length := by
 intro i hi e
 rcases Nat.lt_or_ge i b.length with q | q
 · exact q
 · rw [List.take_of_length_le q] at e
   have e2 : a = b ++ a.drop i := by rw [← e, List.take_append_drop]
   rw [e2] at h
   have := ltA_pre b _ h
   have hl := congrArg List.length this
   rw [List.length_drop] at hl
   simp at hl; omega
theorem comL_comm : ∀ a b : List Str, comL a b = comL b a
 | [], [] => rfl
 | [], _ :: _ => by simp [comL]
 | _ :: _, [] => by simp [comL]
 | x :: xs, y :: ys => by
  simp only [comL]
  by_cases e : x = y
  · subst e; simp [comL_comm xs ys]
  · rw [if_neg e, if_neg (Ne.symm e)]
theorem ltA_irr : ∀ a : List Str, ltA a a = false
 | [] => rfl
 | x :: xs => by simp [ltA, ltA_irr xs]
theorem lo_hi (A B : List Str) : comL (pick2 A B (argBest (btLt A B) 1)) (pick2 A B (argBest (btGt A B) 1)) = comL A B ∧
 ∀ i < (pick2 A B (argBest (btLt A B) 1)).length, (pick2 A B (argBest (btLt A B) 1)).take i = (pick2 A B (argBest (btGt A B) 1)).take i → i < (pick2 A B (argBest (btGt A B) 1)).length := by
 have e1 : argBest (btLt A B) 1 = if ltA B A then 1 else 0 := by
  show (if btLt A B 1 0 then 1 else 0) = _
  rw [show btLt A B 1 0 = ltA B A from ltS_A B A]
 have e2 : argBest (btGt A B) 1 = if ltA A B then 1 else 0 := by
  show (if btGt A B 1 0 then 1 else 0) = _
  rw [show btGt A B 1 0 = ltA A B from gtS_A B A]
 rw [e1, e2]
 cases h1 : ltA B A with
 | true =>
  have h2 := ltA_asym _ _ h1
  rw [h2]
  exact ⟨comL_comm _ _, safe_at h2⟩
 | false =>
  cases h2 : ltA A B with
  | true => exact ⟨rfl, safe_at h1⟩
  | false =>
   have := ltA_tri _ _ h2 h1
   subst this
   exact ⟨rfl, safe_at (ltA_irr _)⟩
theorem pick_len (a b : List Str) {n : Nat} (h1 : a.length ≤ n) (h2 : b.length ≤ n) : ∀ i, (pick2 a b i).length ≤ n
 | 0 => h1
 | _ + 1 => h2
theorem parts_len (x : Str) : (partsS x).length ≤ x.length + 2 := Nat.le_trans (List.length_filter_le ..) (split_len x)
theorem seqP {prog : Program} {w : World} {A : Around} {env : Env} {st : Stmt} {rest : List Stmt} {Q : Flow → Shared → Prop} {E : Value → Shared → Prop} {s : Shared} (P : Shared → Prop) (h : wpAny (model prog w) A (exec st env) (fun f s' => f = .next ∧ P s') E s)
 (hr : ∀ s', P s' → wpAny (model prog w) A (execs rest env) Q E s') : wpAny (model prog w) A (execs (st :: rest) env) Q E s :=
 wpAny_execs_cons (wpAny_mono h (fun f s' h' => by obtain ⟨rfl, hp⟩ := h'; exact hr s' hp) fun _ _ e => e)
section
variable {w : World} {A : Around} {s : Shared} {g : Heap} {n : Nat}
theorem fs_turn {A : Around} {s : Shared} {h₀ g₀ g : Heap} {xt : List Addr} {L : Addr} {N : List Str} {vs : List (Option Value)} {mu : List (Addr × Obj)} {It S : Addr} {items : List Value} (X : Stat g) (hA : Ok A (n + 2)) (hi : ∀ v ∈ items, ∃ x t, v = .str x t) :
 MapTurn pw w A s h₀ g₀ g xt L N vs mu It S (.ref 342) items (fun i g' ys => ys = items.take i) := by
 intro i x g' ys h tk oI c hx kg hJ F
 obtain ⟨y, t, rfl⟩ := hi x (List.mem_of_getElem? hx)
 refine call_c F (fspath_gives (X.up kg) F.keep hA y t) fun g₂ h' t' v k2 F e => ?_
 subst e
 refine ⟨g₂, h', t', rfl, k2, F, ?_⟩
 show ys ++ [Value.str y t] = items.take (i + 1)
 rw [List.take_add_one, hx, hJ]; rfl
theorem common_gives (X : Stat g) (kg : Le g s.heap) (hA : Ok A (n + 7)) (l : Addr) (k : Nat) (p q : Str) (t1 t2 : Tok) (hl : g.get? l = some (lstObj [.str p t1, .str q t2] k)) (hp : Txt.startswith p "/" = true) (hq : Txt.startswith q "/" = true)
 (hp2 : p.length ≤ 1000) (hq2 : q.length ≤ 1000) (hj : JoinOk "/" (comL (partsS p) (partsS q)) = true) (hj2 : (Txt.join "/" (comL (partsS p) (partsS q))).length ≤ 100000) :
 Gives pw w A (.call (.ref 375) ⟨[.ref l], []⟩) s [] g (fun _ _ v => ∃ t, v = .str (commonT p q) t) := by
 refine Gives.goC 16 [.ref l] ["paths"] nCommon ["tuple", "map", "fspath", "isinstance", "bytes", "min", "max", "enumerate"] ["sep", "curdir"] [some (.ref l), none, none, none, none, none, none, none, none] rfl X kg hA rfl rfl (by decide +kernel) (fun n x hx => ?_) rfl (fun j x hx => ?_) fun h₁ env A' t' hA' C hcl hC hIs hL F => ?_
 · simp only [List.mem_cons, List.not_mem_nil, or_false] at hx
   subst hx
   exact .inl (by decide +kernel)
 · rcases j with _ | _ | _ | _ | _ | _ | _ | _ | _ | j
   all_goals first
    | (simp only [List.getElem?_cons_succ, List.getElem?_cons_zero, Option.some.injEq] at hx; subst hx; rfl)
    | simp at hx
 have c1 : env.cells.lookup ("sep" : Str) = some (s.heap.objs.size + 1) := by rw [hcl]; rfl
 have c2 : env.cells.lookup ("curdir" : Str) = some (s.heap.objs.size + 1 + 1) := by rw [hcl]; rfl
 have K1 := hC _ (.head _) _ c1
 have K2 := hC _ (.tail _ (.head _)) _ c2
 obtain ⟨o1, hd1, F⟩ := F.cell (hIs _ _ c1).1 (by rw [hL]; exact (hIs _ _ c1).2) (none_above kg (by omega)) (fun p hp => nomatch hp)
 obtain ⟨o2, hd2, F⟩ := F.cell (hIs _ _ c2).1 (by rw [hL]; exact (hIs _ _ c2).2) (none_above kg (by omega)) (fun p hp => by
  rw [List.mem_singleton.mp hp]; show s.heap.objs.size + 1 ≠ s.heap.objs.size + 1 + 1; omega)
 refine doc_ C fun t' => ?_
 refine wpAny_execs_cons ?_
 refine wpAny_Assign_Name ?_
 refine C1 (N_tuple C X F.keep (.head _) ?_)
 refine C2 (N_map C X F.keep (.tail _ (.head _)) ?_)
 refine N_fspath C X F.keep (.tail _ (.tail _ (.head _))) ?_
 refine ld0 C F ⟨trivial, ?_⟩
 refine newMap F hl fun M T It g₁ h' k1 eM eT hit hlow F => ⟨trivial, ?_⟩
 have X₁ := X.up k1
 refine tuple_map hA'.handled (fun i g' ys => ys = ([.str p t1, .str q t2] : List Value).take i) eM eT (k1 _ _ hl) (by simp) F hit rfl (fun S => fs_turn X₁ hA'.in1.in1.in1.in1 (by simp)) fun D g₂' g₂ ys h' tk k2 k3 hys eD F => ?_
 have hys' : ys = [.str p t1, .str q t2] := hys
 subst hys'
 have X₂ := X₁.up k2
 refine st0 C F fun h' F => ?_
 dsimp only
 refine wpAny_execs_cons ?_
 refine wpAny_If ?_
 refine isTrue_not (isTrue_plain (ld0 C F (truT F.keep eD (by simp) fun k => ?_)))
 refine wpAny_execs_nil ?_
 refine wpAny_execs_cons ?_
 refine wpAny_If ?_
 refine wpAny_isTrue_value ?_
 refine C2 (N_isinstance C X₂ F.keep (.tail _ (.tail _ (.tail _ (.head _)))) ?_)
 refine Subscript_Constant ?_
 refine ld0 C F ?_
 refine wpAny_Constant_int ?_
 refine itemT (i := 0) F.keep eD rfl (by omega) ?_
 refine N_bytes C X₂ F.keep (.tail _ (.tail _ (.tail _ (.tail _ (.head _))))) ⟨trivial, ?_⟩
 refine IsiPair.str_bytes ?_
 refine wpAny_truthy_bool ?_
 refine wpAny_execs_cons ?_
 refine wpAny_Assign_Name ?_
 refine Constant_str ?_
 refine stC (pre := [(_, o2)]) (post := []) K1 F rfl hd1 fun h' o1' hd1' F => ?_
 refine wpAny_execs_cons ?_
 refine wpAny_Assign_Name ?_
 refine Constant_str ?_
 refine stC (pre := []) (post := [_]) K2 F rfl hd2 fun h' o2' hd2' F => ?_
 refine wpAny_execs_nil ?_
 dsimp only
 obtain ⟨g₃, k4, e2, F⟩ := F.freeze (pre := []) rfl (by omega)
 obtain ⟨g₄, k5, e1, F⟩ := F.freeze (pre := []) rfl (by omega)
 have e2' := k5 _ _ e2
 have eD' := k5 _ _ (k4 _ _ eD)
 have X₄ := (X₂.up k4).up k5
 clear eD X₁ X₂
 refine wpAny_execs_cons (Try_ ?_)
 refine wpAny_execs_cons ?_
 have lay : ∀ x : Str, x.length ≤ 1000 → x.length ≤ 100000 := fun x h => by omega
 refine asTup (h₀ := s.heap) (xt := []) (g₀ := g) (l := D) (items := [.str p t1, .str q t2]) (cl := [("sep", s.heap.objs.size + 1)]) (j := 1) ["path"] [] (fun i g' ys => Dts g' ys ((([p, q] : List Str).take i).map fun x => .list ((Txt.split x "/").map .str))) hA'.handled (by decide +kernel) (by rw [hcl]; rfl) C rfl rfl (by show 2 ≤ sizeLine; decide) ?_
 refine ld0 C F ⟨rfl, g₄, _, _, F, eD', .nil, cturn ?_, ?_⟩
 · rintro i v s1 g' us ys I oI C' D' h tk hi kg' hys hus Cc F
   obtain ⟨u0, rfl⟩ := List.length_eq_one_iff.mp hus
   have K1' := cellIn (C := C') K1 (sc := ⟨.function, [(".0", .local), ("path", .local), ("sep", .free)], false, false, []⟩) (cl := [("sep", s.heap.objs.size + 1)]) rfl rfl rfl
   obtain ⟨x, tx, rfl, hx, hxl⟩ : ∃ x tx, v = .str x tx ∧ ([p, q] : List Str)[i]? = some x ∧ x.length ≤ 1000 := by
    rcases i with _ | _ | i
    · simp at hi; exact ⟨p, t1, hi.symm, rfl, hp2⟩
    · simp at hi; exact ⟨q, t2, hi.symm, rfl, hq2⟩
    · simp at hi
   refine st0 Cc F fun h' F => tests0 ?_
   rw [if_pos rfl]
   refine Mstr (ld0 Cc F ⟨rfl, ?_⟩)
   refine splitM ?_ (lay x hxl)
   refine ldC K1' F.keep (kg' _ _ e1) hd1' ?_
   refine ⟨_, _, rfl, by decide +kernel, fun l' k' hl' => ?_⟩
   obtain ⟨g₅, k6, e5, F⟩ := F.made (lstObj (strValues l') 0)
   refine cEnd k6 F ?_
   have e : ([p, q] : List Str).take (i + 1) = ([p, q] : List Str).take i ++ [x] := by rw [List.take_add_one, hx]; rfl
   rw [e, List.map_append]
   refine (hys.up k6).snoc (.list e5 ?_)
   rw [← hl']
   exact dts_strs l'
 intro g₅' g₅ D5 h' tk ys k6 k6' hys eD5 F
 have hds5 : Dts g₅ ys [.list ((Txt.split p "/").map .str), .list ((Txt.split q "/").map .str)] := hys.up k6'
 have X₅ := X₄.up k6
 simp only [List.set_cons_succ, List.set_cons_zero] at F
 refine wpAny_execs_cons ?_
 refine Try_ ?_
 refine wpAny_execs_cons ?_
 refine Assign_Tuple ?_
 have eD5' := k6 _ _ eD'
 refine evSet (N := nCommon) (h₀ := s.heap) (xt := []) (g₀ := g) (L := env.locals) (l := D) (items := [.str p t1, .str q t2]) (cl := [("sep", s.heap.objs.size + 1)]) (Nn := ["p"]) (Gl := []) hA'.handled (by decide +kernel) (by rw [hcl]; rfl) C (by simp) ?_
 refine ld0 C F ⟨rfl, g₅, _, _, F, eD5', ?_, ?_⟩
 · rintro i v s1 g' us so I oI C' D' h tk hi kg' hus Cc F
   obtain ⟨u0, rfl⟩ := List.length_eq_one_iff.mp hus
   have K1' := cellIn (C := C') K1 (sc := ⟨.function, [(".0", .local), ("p", .local), ("sep", .free)], false, false, []⟩) (cl := [("sep", s.heap.objs.size + 1)]) rfl rfl rfl
   obtain ⟨x, tx, rfl, hx⟩ : ∃ x tx, v = .str x tx ∧ Txt.startswith x "/" = true := by
    rcases i with _ | _ | i
    · simp at hi; exact ⟨p, t1, hi.symm, hp⟩
    · simp at hi; exact ⟨q, t2, hi.symm, hq⟩
    · simp at hi
   refine st0 Cc F fun h' F => tests0 ⟨rfl, ?_⟩
   refine Mstr (ld0 Cc F ⟨rfl, SB.startswith ?_⟩)
   refine ldC K1' F.keep (kg' _ _ (k6 _ _ e1)) hd1' ?_
   refine ⟨_, _, rfl, ?_⟩
   exact ⟨by rw [hx], g', _, _, _, rfl, Le.rfl', F⟩
 intro g₆ D6 h' tk k7 eD6 F
 have X₆ := X₅.up k7
 refine asSet hA'.handled F eD6 fun h' F => ?_
 refine assignInOrder_cons (assign_Name (st2 C F fun h' F => assignInOrder_nil ?_))
 refine wpAny_execs_nil ?_
 dsimp only
 have hds6 := hds5.up k7
 have eD56 := k7 _ _ eD5
 have e26 := k7 _ _ (k6 _ _ e2')
 have hyl : ys.length = 2 := by simpa using hds5.len
 refine wpAny_execs_cons ?_
 refine asLst (h₀ := s.heap) (xt := []) (g₀ := g) (l := D5) (k := ys.length) (items := ys) (cl := [("curdir", s.heap.objs.size + 1 + 1)]) (j := 1) ["s"] [] (fun i g' zs => Dts g' zs ((([partsS p, partsS q] : List (List Str)).take i).map fun x => .list (x.map .str))) hA'.handled (by decide +kernel) (by rw [hcl]; rfl) C rfl rfl (by rw [hyl]; decide) ?_
 refine ld1 C F ⟨rfl, g₆, _, _, F, eD56, .nil, cturn ?_, ?_⟩
 · rintro i v s1 g' us zs I oI C' D' h tk hi kg' hzs hus Cc F
   obtain ⟨u0, rfl⟩ := List.length_eq_one_iff.mp hus
   have K2' := cellIn (C := C') K2 (sc := ⟨.function, [(".0", .local), ("s", .local), ("curdir", .free)], false, false, []⟩) (cl := [("curdir", s.heap.objs.size + 1 + 1)]) rfl rfl rfl
   obtain ⟨x, hx, hdx, hxl⟩ : ∃ x, ([partsS p, partsS q] : List (List Str))[i]? = some (partsS x) ∧ Dt g₆ v (.list ((Txt.split x "/").map .str)) ∧ x.length ≤ 1000 := by
    obtain ⟨d, hd, hdt⟩ := hds6.get hi
    rcases i with _ | _ | i
    · simp at hd; subst hd; exact ⟨p, rfl, hdt, hp2⟩
    · simp at hd; subst hd; exact ⟨q, rfl, hdt, hq2⟩
    · simp at hd
   obtain ⟨lx, xs, kx, rfl, hlx, hdxs⟩ := hdx.listInv
   have hsl : (Txt.split x "/").length ≤ 100000 := by
    have := split_len x
    omega
   have hxsl : xs.length = (Txt.split x "/").length := by simpa using hdxs.len
   refine st0 Cc F fun h' F => tests0 ?_
   rw [if_pos rfl]
   refine evLst (h₀ := s1.heap) (xt := [I]) (g₀ := g₆) (L := C') (N := ["s"]) (l := lx) (k := kx) (items := xs) (cl := [("curdir", s.heap.objs.size + 1 + 1)]) ["c"] [] (fun i g' ws => Dts g' ws ((((Txt.split x "/").take i).filter goodS).map .str)) hA'.handled (by decide +kernel) rfl Cc (by show xs.length ≤ sizeLine; rw [sizeLine_eq]; omega) ?_
   refine ld0 Cc F ⟨rfl, g', _, _, F, kg' _ _ hlx, .nil, cturn ?_, ?_⟩
   · rintro i v s2 g'' us ws I2 oI2 C'' D'' h tk hi kg'' hws hus2 Cc2 F
     obtain ⟨u0, rfl⟩ := List.length_eq_one_iff.mp hus2
     have K2'' := cellIn (C := C'') K2' (sc := ⟨.function, [(".0", .local), ("c", .local), ("curdir", .free)], false, false, []⟩) (cl := [("curdir", s.heap.objs.size + 1 + 1)]) rfl rfl rfl
     obtain ⟨d, hd, hdt⟩ := hdxs.get hi
     obtain ⟨c, hc, rfl⟩ : ∃ c, (Txt.split x "/")[i]? = some c ∧ PyData.str c = d := by simpa using hd
     obtain ⟨tc, rfl⟩ := hdt.strInv
     have e : (Txt.split x "/").take (i + 1) = (Txt.split x "/").take i ++ [c] := by rw [List.take_add_one, hc]; rfl
     have hcl' : c.length ≤ 16777216 := by
      have := split_each x c (List.mem_of_getElem? hc)
      omega
     refine st0 Cc2 F fun h' F => tests1 ?_
     refine isTrue_and (isTrue_plain (ld0 Cc2 F (P.truthy_str (by omega) ?_)))
     have skip : goodS c = false → (((Txt.split x "/").take (i + 1)).filter goodS) = (((Txt.split x "/").take i).filter goodS) := fun q => by rw [e, List.filter_append]; simp [q]
     cases e1 : ((c.length : Int) != 0) with
     | false =>
      refine cEnd Le.rfl' F ?_
      rw [skip (by simp only [goodS, e1, Bool.false_and])]
      exact hws
     | true =>
      refine isTrue_and (wpAny_isTrue_Compare1 (ld0 Cc2 F ?_))
      refine ldC K2'' F.keep (kg'' _ _ (kg' _ _ e26)) hd2' ?_
      refine P.ne_str (wpAny_truthy_bool ?_)
      cases e2 : (c.cps.toList != (".": Str).cps.toList) with
      | false =>
       refine cEnd Le.rfl' F ?_
       rw [skip (by simp only [goodS, e2, Bool.and_false])]
       exact hws
      | true =>
       refine isTrue_and_nil ?_
       rw [if_pos rfl]
       refine ld0 Cc2 F ?_
       refine cEnd Le.rfl' F ?_
       rw [e, List.filter_append, List.map_append]
       refine hws.append ?_
       have : goodS c = true := by simp only [goodS, e1, e2, Bool.and_self]
       simp only [List.filter_cons, this, if_true, List.filter_nil, List.map_cons, List.map_nil]
       exact .cons (.str _ _) .nil
   · intro g7 g8 D8 h' tk ws k8 k8' hws eD8 F
     refine cEnd k8 F ?_
     have e : ([partsS p, partsS q] : List (List Str)).take (i + 1) = ([partsS p, partsS q] : List (List Str)).take i ++ [partsS x] := by rw [List.take_add_one, hx]; rfl
     rw [e, List.map_append]
     refine (hzs.up k8).snoc (.list eD8 ?_)
     rw [hxsl, List.take_length] at hws
     exact hws.up k8'
 intro g₇' g₇ D7 h' tk zs k8 k8' hzs eD7 F
 have hds7 : Dts g₇ zs [.list ((partsS p).map .str), .list ((partsS q).map .str)] := by
  rw [hyl] at hzs
  exact hzs.up k8'
 have X₇ := X₆.up k8
 simp only [List.set_cons_succ, List.set_cons_zero] at F
 refine wpAny_execs_cons ?_
 refine wpAny_Assign_Name ?_
 refine C1 (N_min C X₇ F.keep (.tail _ (.tail _ (.tail _ (.tail _ (.tail _ (.head _)))))) ?_)
 obtain ⟨a1, a2, ka, kb, ta, tb, rfl, ha1, ha2, hta, htb⟩ := two_lists hds7
 have hcmp1 : CmpIn pw w A'.in1.in1 .Lt g₇ [.ref a1, .ref a2] (btLt (partsS p) (partsS q)) := cmpLt ha1 ha2 hta htb (by have := hA'.c; show A'.units + 1 + 1 + 3 < cLine; omega)
 have hcmp2 : CmpIn pw w A'.in1.in1 .Gt g₇ [.ref a1, .ref a2] (btGt (partsS p) (partsS q)) := cmpGt ha1 ha2 hta htb (by have := hA'.c; show A'.units + 1 + 1 + 3 < cLine; omega)
 refine ld1 C F ⟨trivial, ?_⟩
 refine minL hA'.handled _ hcmp1 F eD7 (by simp) fun v h' tk hv F => ?_
 refine st4 C F fun h' F => ?_
 refine wpAny_execs_cons ?_
 refine wpAny_Assign_Name ?_
 refine C1 (N_max C X₇ F.keep (.tail _ (.tail _ (.tail _ (.tail _ (.tail _ (.tail _ (.head _))))))) ?_)
 refine ld1 C F ⟨trivial, ?_⟩
 refine maxL hA'.handled _ hcmp2 F eD7 (by simp) fun v2 h' tk hv2 F => ?_
 refine st5 C F fun h' F => ?_
 obtain ⟨l1, T1, k1', rfl, el1, f1⟩ := pick_at ha1 ha2 hv
 obtain ⟨l2, T2, k2', rfl, el2, f2⟩ := pick_at ha1 ha2 hv2
 rw [hta, htb] at f1 f2
 obtain ⟨hcom, hsafe⟩ := lo_hi (partsS p) (partsS q)
 have hT : commonT p q = ("/" : Str) ++ Txt.join "/" (comL (pick2 (partsS p) (partsS q) (argBest (btLt (partsS p) (partsS q)) 1)) (pick2 (partsS p) (partsS q) (argBest (btGt (partsS p) (partsS q)) 1))) := by rw [commonT, hcom]
 rw [← hcom] at hj hj2
 replace f1 : T1.map (·.1) = pick2 (partsS p) (partsS q) (argBest (btLt (partsS p) (partsS q)) 1) := f1
 replace f2 : T2.map (·.1) = pick2 (partsS p) (partsS q) (argBest (btGt (partsS p) (partsS q)) 1) := f2
 clear hv hv2 hcom
 have hp3 := parts_len p
 have hq3 := parts_len q
 have hS1 := pick_len (partsS p) (partsS q) (n := 100000) (by omega) (by omega) (argBest (btLt (partsS p) (partsS q)) 1)
 have hS2 := pick_len (partsS p) (partsS q) (n := 100000) (by omega) (by omega) (argBest (btGt (partsS p) (partsS q)) 1)
 generalize pick2 (partsS p) (partsS q) (argBest (btLt (partsS p) (partsS q)) 1) = S1 at *
 generalize pick2 (partsS p) (partsS q) (argBest (btGt (partsS p) (partsS q)) 1) = S2 at *
 have hT1 : T1.length = S1.length := by rw [← f1]; simp
 have hT2 : T2.length = S2.length := by rw [← f2]; simp
 dsimp only
 refine wpAny_execs_cons ?_
 refine wpAny_Assign_Name (ld4 C F (st6 C F fun h' F => ?_))
 dsimp only
 refine seqP (fun s₂ => ∃ g₈ h' t' lc kc tc u1 u2, s₂ = { s with heap := h', toks := t' } ∧ Le g₇ g₈ ∧ g₈.get? lc = some (lstObj (strValues tc) kc) ∧ tc.map (·.1) = comL S1 S2 ∧
  St s.heap [] g g₈ env.locals nCommon [some (.ref D), some (.ref D7), some (.bool true), u1, some (.ref l1), some (.ref l2), some (.ref lc), u2, none] [] h') ?_ ?_
 · refine For_ ?_
   refine C1 (N_enumerate C X₇ F.keep (.tail _ (.tail _ (.tail _ (.tail _ (.tail _ (.tail _ (.tail _ (.head _)))))))) ?_)
   refine ld4 C F ⟨trivial, ?_⟩
   refine each_enum (fun i g' vs' mu' => mu' = [] ∧ Stat g' ∧ S1.take i = S2.take i ∧ ∃ u1 u2, vs' = [some (.ref D), some (.ref D7), some (.bool true), u1, some (.ref l1), some (.ref l2), some (.ref l1), u2, none]) hA'.handled F el1 ⟨rfl, X₇, by simp, _, _, rfl⟩ ?_ ?_
   · rintro i v tv g' g'' vs' mu' e it oe oi h tk hi kg' ⟨rfl, X', htk, u1, u2, rfl⟩ kg'' F
     obtain ⟨c, tc, rfl, hc⟩ := strV_at hi
     rw [f1] at hc
     have hlt : i < S1.length := by
      rcases Nat.lt_or_ge i S1.length with q | q
      · exact q
      · rw [List.getElem?_eq_none q] at hc; cases hc
     have hlt2 := hsafe i hlt htk
     obtain ⟨d, td, hd1, hd2⟩ := strV_have (T := T2) (i := i) (by omega)
     rw [f2] at hd2
     refine assignInOrder_cons (assign_Name (st7 C F fun h' F => assignInOrder_cons (assign_Name (st3 C F fun h' F => assignInOrder_nil ?_))))
     dsimp only
     refine wpAny_execs_cons ?_
     refine wpAny_If ?_
     refine wpAny_isTrue_Compare1 ?_
     refine ld3 C F ?_
     refine Subscript_Name ?_
     refine ld5 C F ?_
     refine ld7 C F ?_
     refine itemL F.keep (kg'' _ _ (kg' _ _ el2)) hd1 (by have := hT2; have := hS2; omega) ?_
     refine P.ne_str (wpAny_truthy_bool ?_)
     have e1 : S1.take (i + 1) = S1.take i ++ [c] := by rw [List.take_add_one, hc]; rfl
     have e2 : S2.take (i + 1) = S2.take i ++ [d] := by rw [List.take_add_one, hd2]; rfl
     cases e : (c.cps.toList != d.cps.toList) with
     | true =>
      refine wpAny_execs_cons ?_
      refine wpAny_Assign_Name ?_
      refine lsl_take (h₀ := s.heap) (xt := []) (g₀ := g) (L := env.locals) (N := nCommon) (ld4 C F (ld7 C F ?_))
      refine ⟨l1, strValues T1, k1', i, tv, g'', _, _, rfl, rfl, ?_, kg'' _ _ (kg' _ _ el1), F, fun D9 g₉ h' k9 eD9 F => ?_⟩
      · have : (strValues T1).length = T1.length := by simp [strValues]
        omega
      · refine st6 C F fun h' F => ?_
        refine wpAny_execs_cons (wpAny_Break ?_)
        refine turnE_brk ⟨rfl, g₉, _, _, D9, 0, T1.take i, _, _, rfl, (kg'.tr kg'').tr k9, by rw [eD9]; simp [strValues, List.map_take], ?_, F.sub (List.nil_sublist _)⟩
        rw [List.map_take, f1]
        exact (comL_stop htk hc hd2 (fun q => by subst q; simp at e)).symm
     | false =>
      refine wpAny_execs_nil (wpAny_execs_nil (turnE_next Le.rfl' F ⟨rfl, X'.up kg'', ?_, _, _, rfl⟩))
      have : c = d := by
       have q : c.cps.toList = d.cps.toList := by simpa using e
       obtain ⟨c⟩ := c
       obtain ⟨d⟩ := d
       exact congrArg Str.mk (Array.toList_inj.mp q)
      rw [e1, e2, htk, this]
   · rintro g' vs' mu' h tk kg' ⟨rfl, X', htk, u1, u2, rfl⟩ F
     refine ⟨rfl, g', _, _, l1, k1', T1, u1, u2, rfl, kg', kg' _ _ el1, ?_, F⟩
     have hsv : (strValues T1).length = S1.length := by simp [strValues, hT1]
     rw [hsv, List.take_length] at htk
     rw [f1]
     exact (comL_whole htk).symm
 · rintro s₂ ⟨g₈, h', t', lc, kc, tc, u1, u2, rfl, k9, elc, ftc, F⟩
   refine wpAny_execs_cons ?_
   refine wpAny_Assign_Name ?_
   have e1' := k9 _ _ (k8 _ _ (k7 _ _ (k6 _ _ e1)))
   refine IfExp_ ?_
   refine isTrue_plain (ld2 C F (wpAny_truthy_bool ?_))
   rw [if_pos rfl]
   refine ldC K1 F.keep e1' hd1' ?_
   refine st8 C F fun h' F => ?_
   refine wpAny_execs_cons ?_
   refine wpAny_Return_some ?_
   refine wpAny_BinOp ?_
   refine ld8 C F ?_
   refine Call_method1 rfl rfl rfl ?_
   refine ldC K1 F.keep e1' hd1' ?_
   refine SB.join ?_
   refine ld6 C F ?_
   refine ⟨lc, tc, rfl, ⟨_, F.keep _ _ elc, rfl, _, rfl⟩, _, ftc, hj, fun t5 k5 => ?_⟩
   refine SB.add (fun t'' k => ?_) ?_
   · exact ends F ⟨_, by rw [hT]⟩
   · show _ ≤ 16777216
     rw [slash_len]; omega
end
end Mine
namespace Mine
open PySem PySem.W PyProof.Rows PySem.Calls PySem.Spec
def nameList : List (List Nat) := [[0], [0, 0], [10], [153]] ++ (List.range 256).map fun x => [160, x]
structure GoodPl (p : Pl) : Prop where
 len : p.length ≤ 9
 nm : ∀ n ∈ p, n ∈ nameList
theorem GoodPl.init {p : Pl} {n : List Nat} (h : GoodPl (p ++ [n])) : GoodPl p := ⟨by have := h.len; simp at this; omega, fun m hm => h.nm m (by simp [hm])⟩
theorem GoodPl.take {p : Pl} (h : GoodPl p) (i : Nat) : GoodPl (p.take i) := ⟨by have := h.len; rw [List.length_take]; omega, fun m hm => h.nm m (List.mem_of_mem_take hm)⟩
theorem GoodPl.tail {p : Pl} {n : List Nat} (h : GoodPl (n :: p)) : GoodPl p := ⟨by have := h.len; simp at this; omega, fun m hm => h.nm m (.tail _ hm)⟩
theorem name_cases {n : List Nat} (h : n ∈ nameList) : (n = [0] ∨ n = [0, 0] ∨ n = [10] ∨ n = [153]) ∨ ∃ x < 256, n = [160, x] := by
 unfold nameList at h
 rcases List.mem_append.mp h with h | h
 · simp only [List.mem_cons, List.not_mem_nil, or_false] at h
   exact .inl h
 · obtain ⟨x, hx, rfl⟩ := List.mem_map.mp h
   exact .inr ⟨x, List.mem_range.mp hx, rfl⟩
theorem OctOk_all : ∀ n ∈ nameList, OctOk n := by
 intro n h
 rcases name_cases h with (rfl | rfl | rfl | rfl) | ⟨x, hx, rfl⟩
 · exact ⟨by decide, by decide⟩
 · exact ⟨by decide, by decide⟩
 · exact ⟨by decide, by decide⟩
 · exact ⟨by decide, by decide⟩
 · refine ⟨by simp, fun k hk => ?_⟩
   simp only [List.mem_cons, List.not_mem_nil, or_false] at hk
   omega
theorem name_ne {n : List Nat} (h : n ∈ nameList) : n ≠ [] := by
 rcases name_cases h with (rfl | rfl | rfl | rfl) | ⟨x, hx, rfl⟩ <;> simp
def dg (i : Nat) : Nat := if i < 10 then 48 + i else 55 + i
def o2 (k : Nat) : List Nat := [dg (k / 16), dg (k % 16)]
theorem octT_cl : ∀ k < 256, (octT k).cps.toList = o2 k := by decide +kernel
def hx (ns : List Nat) : List Nat := ns.flatMap o2
theorem join_cl0 : ∀ xs : List Str, (Str.join "" xs).cps.toList = xs.flatMap (·.cps.toList)
 | [] => rfl
 | [x] => by simp [Str.join]
 | x :: y :: r => by
  show (x ++ "" ++ Str.join "" (y :: r)).cps.toList = _
  rw [Str.cps_append, Str.cps_append, Array.toList_append, Array.toList_append, join_cl0 (y :: r), List.flatMap_cons]
  have : ("" : Str).cps.toList = [] := by decide +kernel
  rw [this, List.append_nil]
  simp only [List.flatMap_cons]
theorem slash_cl : ("/" : Str).cps.toList = [47] := by decide +kernel
theorem join_cl : ∀ (x : Str) (xs : List Str), (Str.join "/" (x :: xs)).cps.toList = x.cps.toList ++ xs.flatMap (fun y => 47 :: y.cps.toList)
 | x, [] => by simp [Str.join]
 | x, y :: r => by
  show (x ++ "/" ++ Str.join "/" (y :: r)).cps.toList = _
  rw [Str.cps_append, Str.cps_append, Array.toList_append, Array.toList_append, join_cl y r, slash_cl, List.flatMap_cons]
  simp
theorem txt_join (sep : Str) (xs : List Str) : Txt.join sep xs = Str.join sep xs := StrLaws.glued_eq_join sep xs
theorem hexW_cl {ns : List Nat} (h : OctOk ns) : (hexW ns).cps.toList = hx ns := by
 unfold hexW hx
 rw [txt_join, join_cl0, List.flatMap_map]
 have : ∀ (l : List Nat), (∀ k ∈ l, k < 256) → l.flatMap (fun a => (octT a).cps.toList) = l.flatMap o2 := by
  intro l
  induction l with
  | nil => intro _; rfl
  | cons k l ih => intro hl; rw [List.flatMap_cons, List.flatMap_cons, octT_cl k (hl k (.head _)), ih fun x hx => hl x (.tail _ hx)]
 exact this ns h.oct
def wl (p : Pl) : List Nat := p.flatMap fun n => 47 :: hx n
theorem W_cl {p : Pl} (h : ∀ n ∈ p, OctOk n) : (writtenT p).cps.toList = if p = [] then [47] else wl p := by
 unfold writtenT
 rw [Str.cps_append, Array.toList_append, slash_cl, txt_join]
 cases p with
 | nil => rfl
 | cons n p =>
  rw [List.map_cons, join_cl, if_neg (by simp), hexW_cl (h n (.head _)), wl, List.flatMap_cons, List.flatMap_map]
  have : ∀ (l : Pl), (∀ k ∈ l, OctOk k) → l.flatMap (fun a => 47 :: (hexW a).cps.toList) = l.flatMap fun n => 47 :: hx n := by
   intro l
   induction l with
   | nil => intro _; rfl
   | cons k l ih => intro hl; rw [List.flatMap_cons, List.flatMap_cons, hexW_cl (hl k (.head _)), ih fun x hx => hl x (.tail _ hx)]
  rw [this p fun k hk => h k (.tail _ hk)]
  rfl
theorem GoodPl.oct {p : Pl} (h : GoodPl p) : ∀ n ∈ p, OctOk n := fun n hn => OctOk_all n (h.nm n hn)
theorem hx_len (ns : List Nat) : (hx ns).length = 2 * ns.length := by
 induction ns with
 | nil => rfl
 | cons k r ih => unfold hx at *; rw [List.flatMap_cons, List.length_append, ih, List.length_cons]; simp [o2]; omega
theorem dg_range {i : Nat} (h : i < 16) : 48 ≤ dg i ∧ dg i < 71 := by unfold dg; split <;> omega
theorem hx_range {ns : List Nat} (h : ∀ k ∈ ns, k < 256) : ∀ c ∈ hx ns, 48 ≤ c ∧ c < 71 := by
 intro c hc
 obtain ⟨k, hk, hc⟩ := List.mem_flatMap.mp hc
 have := h k hk
 simp only [o2, List.mem_cons, List.not_mem_nil, or_false] at hc
 rcases hc with rfl | rfl
 · exact dg_range (by omega)
 · exact dg_range (by omega)
theorem wl_len {p : Pl} (h : ∀ n ∈ p, OctOk n) : (wl p).length ≤ 5 * p.length := by
 induction p with
 | nil => simp [wl]
 | cons n p ih =>
  have := ih fun k hk => h k (.tail _ hk)
  have h2 := (h n (.head _)).short
  unfold wl at *
  rw [List.flatMap_cons, List.length_append, List.length_cons, hx_len, List.length_cons]; omega
theorem len_cl (x : Str) : x.length = x.cps.toList.length := by simp [Str.length]
theorem W_len {p : Pl} (h : GoodPl p) : (writtenT p).length ≤ 60 := by
 rw [len_cl, W_cl h.oct]
 have := wl_len h.oct
 have := h.len
 split
 · simp
 · omega
theorem strOk_of {x : Str} {B : Nat} (h : ∀ c ∈ x.cps.toList, c < B) (hB : B ≤ 0x110000) : PyData.strOk x = true := by
 unfold PyData.strOk
 rw [Array.all_eq_true']
 intro c hc
 have := h c (Array.mem_toList_iff.mpr hc)
 simp; omega
theorem wl_range {p : Pl} (h : ∀ n ∈ p, OctOk n) : ∀ c ∈ wl p, 47 ≤ c ∧ c < 71 := by
 intro c hc
 obtain ⟨n, hn, hc⟩ := List.mem_flatMap.mp hc
 rcases List.mem_cons.mp hc with rfl | hc
 · omega
 · have := hx_range (h n hn).oct c hc; omega
theorem W_ok {p : Pl} (h : GoodPl p) : PyData.strOk (writtenT p) = true := by
 refine strOk_of (B := 71) (fun c hc => ?_) (by decide)
 rw [W_cl h.oct] at hc
 split at hc
 · simp at hc; omega
 · exact (wl_range h.oct c hc).2
theorem H_ok {n : List Nat} (h : n ∈ nameList) : PyData.strOk (hexW n) = true := by
 refine strOk_of (B := 71) (fun c hc => ?_) (by decide)
 rw [hexW_cl (OctOk_all n h)] at hc
 exact (hx_range (OctOk_all n h).oct c hc).2
def Sl (s : List Nat) : Prop := s = [] ∨ ∃ r, s = 47 :: r
theorem cons_lt (a b : Nat) (r t : List Nat) : (a :: r < b :: t) ↔ (a < b ∨ (a = b ∧ r < t)) := by
 rw [List.cons_lt_cons_iff]
theorem dg_lt {i j : Nat} (hi : i < 16) (hj : j < 16) : (dg i < dg j ↔ i < j) ∧ (dg i = dg j ↔ i = j) := by
 unfold dg; split <;> split <;> constructor <;> constructor <;> intro h <;> omega
theorem o2_lt {k m : Nat} (hk : k < 256) (hm : m < 256) (s t : List Nat) : (o2 k ++ s < o2 m ++ t) ↔ (k < m ∨ (k = m ∧ s < t)) := by
 have h1 := dg_lt (i := k / 16) (j := m / 16) (by omega) (by omega)
 have h2 := dg_lt (i := k % 16) (j := m % 16) (by omega) (by omega)
 simp only [o2, List.cons_append, List.nil_append]
 rw [cons_lt, cons_lt, h1.1, h1.2, h2.1, h2.2]
 constructor
 · rintro (q | ⟨q, q2 | ⟨q2, q3⟩⟩)
   · exact .inl (by omega)
   · exact .inl (by omega)
   · exact .inr ⟨by omega, q3⟩
 · rintro (q | ⟨rfl, q⟩)
   · rcases Nat.lt_or_ge (k / 16) (m / 16) with z | z
     · exact .inl z
     · exact .inr ⟨by omega, .inl (by omega)⟩
   · exact .inr ⟨rfl, .inr ⟨rfl, q⟩⟩
theorem hx_lt : ∀ {ns ms : List Nat} (hn : ∀ k ∈ ns, k < 256) (hm : ∀ k ∈ ms, k < 256) {s t : List Nat}, Sl s → Sl t → ((hx ns ++ s < hx ms ++ t) ↔ (ns < ms ∨ (ns = ms ∧ s < t)))
 | [], [], _, _, s, t, _, _ => by simp [hx]
 | [], m :: ms, _, hm, s, t, hs, _ => by
  have h16 := dg_range (i := m / 16) (by have := hm m (.head _); omega)
  simp only [hx, List.flatMap_nil, List.nil_append, List.flatMap_cons, o2, List.cons_append]
  rcases hs with rfl | ⟨r, rfl⟩
  · simp
  · rw [cons_lt]
    constructor
    · intro _; exact .inl (by simp)
    · intro _; exact .inl (by omega)
 | n :: ns, [], hn, _, s, t, _, ht => by
  have h16 := dg_range (i := n / 16) (by have := hn n (.head _); omega)
  simp only [hx, List.flatMap_nil, List.nil_append, List.flatMap_cons, o2, List.cons_append]
  rcases ht with rfl | ⟨r, rfl⟩
  · simp
  · rw [cons_lt]
    constructor
    · rintro (q | ⟨q, _⟩) <;> omega
    · rintro (q | ⟨q, _⟩)
      · simp at q
      · cases q
 | n :: ns, m :: ms, hn, hm, s, t, hs, ht => by
  have ih := hx_lt (ns := ns) (ms := ms) (fun k hk => hn k (.tail _ hk)) (fun k hk => hm k (.tail _ hk)) hs ht
  unfold hx at ih ⊢
  rw [List.flatMap_cons, List.flatMap_cons, List.append_assoc, List.append_assoc, o2_lt (hn n (.head _)) (hm m (.head _)), ih, cons_lt]
  constructor
  · rintro (q | ⟨rfl, q | ⟨rfl, q⟩⟩)
    · exact .inl (.inl q)
    · exact .inl (.inr ⟨rfl, q⟩)
    · exact .inr ⟨rfl, q⟩
  · rintro ((q | ⟨rfl, q⟩) | ⟨q, q2⟩)
    · exact .inl q
    · exact .inr ⟨rfl, .inl q⟩
    · cases q; exact .inr ⟨rfl, .inr ⟨rfl, q2⟩⟩
theorem wl_sl (p : Pl) : Sl (wl p) := by
 cases p with
 | nil => exact .inl rfl
 | cons n p => exact .inr ⟨_, by rw [wl, List.flatMap_cons]; rfl⟩
theorem wl_lt : ∀ {p q : Pl} (hp : ∀ n ∈ p, OctOk n) (hq : ∀ n ∈ q, OctOk n), ((wl p < wl q) ↔ p < q)
 | [], [], _, _ => by simp [wl]
 | [], m :: q, _, _ => by simp [wl]
 | n :: p, [], _, _ => by simp [wl]
 | n :: p, m :: q, hp, hq => by
  have ih := wl_lt (p := p) (q := q) (fun k hk => hp k (.tail _ hk)) (fun k hk => hq k (.tail _ hk))
  have e : ∀ (a : List Nat) (b : Pl), wl (a :: b) = 47 :: (hx a ++ wl b) := fun a b => by rw [wl, List.flatMap_cons]; rfl
  rw [e, e, cons_lt, hx_lt (hp n (.head _)).oct (hq m (.head _)).oct (wl_sl p) (wl_sl q), ih, List.cons_lt_cons_iff]
  simp
theorem W_lt {p q : Pl} (hp : GoodPl p) (hq : GoodPl q) : decide ((writtenT p).cps.toList < (writtenT q).cps.toList) = decide (p < q) := by
 apply decide_eq_decide.mpr
 rw [W_cl hp.oct, W_cl hq.oct]
 have key : ∀ (n : List Nat) (r : Pl), n ∈ nameList → ∃ c r', 47 < c ∧ wl (n :: r) = 47 :: c :: r' := by
  intro n r hn
  have h0 := name_ne hn
  have h1 := (OctOk_all n hn).oct
  cases n with
  | nil => exact absurd rfl h0
  | cons k ns =>
   have := dg_range (i := k / 16) (by have := h1 k (.head _); omega)
   refine ⟨dg (k / 16), dg (k % 16) :: (hx ns ++ wl r), by omega, ?_⟩
   rw [wl, List.flatMap_cons, hx, List.flatMap_cons]
   rfl
 cases p with
 | nil =>
  cases q with
  | nil => simp
  | cons m q =>
   obtain ⟨c, r', hc, e⟩ := key m q (hq.nm m (.head _))
   rw [if_pos rfl, if_neg (by simp), e, cons_lt]
   simp
 | cons n p =>
  cases q with
  | nil =>
   obtain ⟨c, r', hc, e⟩ := key n p (hp.nm n (.head _))
   rw [if_neg (by simp), if_pos rfl, e, cons_lt]
   simp
  | cons m q => rw [if_neg (by simp), if_neg (by simp)]; exact wl_lt hp.oct hq.oct
theorem W_start (p : Pl) : Txt.startswith (writtenT p) "/" = true := by
 have h : ∃ r, (writtenT p).cps.toList = 47 :: r := by
  unfold writtenT
  rw [Str.cps_append, Array.toList_append, slash_cl]
  exact ⟨_, rfl⟩
 obtain ⟨r, h⟩ := h
 unfold Txt.startswith
 have hl : (writtenT p).length = r.length + 1 := by rw [len_cl, h]; rfl
 rw [StrLaws.subAt_eq, h, slash_len, slash_cl, hl]
 simp
theorem lt_irr (l : List Nat) : ¬ l < l := List.lt_irrefl l
theorem W_inj {p q : Pl} (hp : GoodPl p) (hq : GoodPl q) (e : writtenT p = writtenT q) : p = q := by
 have h1 := W_lt hp hq
 have h2 := W_lt hq hp
 rw [e] at h1 h2
 have h1 : ¬ p < q := fun z => by
  rw [decide_eq_true z, decide_eq_true_iff] at h1
  exact lt_irr _ h1
 have h2 : ¬ q < p := fun z => by
  rw [decide_eq_true z, decide_eq_true_iff] at h2
  exact lt_irr _ h2
 exact List.le_antisymm (List.not_lt.mp h2) (List.not_lt.mp h1)
theorem hexW_inj {n m : List Nat} (hn : n ∈ nameList) (hm : m ∈ nameList) (e : hexW n = hexW m) : n = m := by
 have o1 := OctOk_all n hn
 have o2 := OctOk_all m hm
 have e : (hexW n).cps.toList = (hexW m).cps.toList := by rw [e]
 rw [hexW_cl o1, hexW_cl o2] at e
 have h1 := hx_lt o1.oct o2.oct (s := []) (t := []) (.inl rfl) (.inl rfl)
 have h2 := hx_lt o2.oct o1.oct (s := []) (t := []) (.inl rfl) (.inl rfl)
 rw [List.append_nil, List.append_nil, e] at h1
 rw [List.append_nil, List.append_nil, e] at h2
 have h1 : ¬ n < m := fun z => lt_irr _ (h1.mpr (.inl z))
 have h2 : ¬ m < n := fun z => lt_irr _ (h2.mpr (.inl z))
 exact List.le_antisymm (List.not_lt.mp h2) (List.not_lt.mp h1)
theorem cut_uniq : ∀ {a b s t : List Nat}, 47 ∉ a → 47 ∉ b → Sl s → Sl t → a ++ s = b ++ t → a = b ∧ s = t
 | [], [], _, _, _, _, _, _, e => ⟨rfl, e⟩
 | [], y :: b, s, t, _, hb, hs, _, e => by
  rcases hs with rfl | ⟨r, rfl⟩
  · simp at e
  · simp only [List.nil_append, List.cons_append, List.cons.injEq] at e
    exact absurd (by rw [e.1]; exact .head _) hb
 | x :: a, [], s, t, ha, _, _, ht, e => by
  rcases ht with rfl | ⟨r, rfl⟩
  · simp at e
  · simp only [List.nil_append, List.cons_append, List.cons.injEq] at e
    exact absurd (by rw [e.1]; exact .head _) ha
 | x :: a, y :: b, s, t, ha, hb, hs, ht, e => by
  simp only [List.cons_append, List.cons.injEq] at e
  obtain ⟨e1, e2⟩ := cut_uniq (fun h => ha (.tail _ h)) (fun h => hb (.tail _ h)) hs ht e.2
  exact ⟨by rw [e.1, e1], e2⟩
def fl (xs : List Str) : List Nat := xs.flatMap fun y => 47 :: y.cps.toList
theorem fl_cons (x : Str) (xs : List Str) : fl (x :: xs) = 47 :: (x.cps.toList ++ fl xs) := by unfold fl; rw [List.flatMap_cons]; rfl
theorem fl_sl (xs : List Str) : Sl (fl xs) := by
 cases xs with
 | nil => exact .inl rfl
 | cons x xs => exact .inr ⟨_, fl_cons x xs⟩
theorem fl_uniq : ∀ {xs ys : List Str}, (∀ x ∈ xs, 47 ∉ x.cps.toList) → (∀ x ∈ ys, 47 ∉ x.cps.toList) → fl xs = fl ys → xs = ys
 | [], [], _, _, _ => rfl
 | [], y :: ys, _, _, e => by rw [fl_cons] at e; cases e
 | x :: xs, [], _, _, e => by rw [fl_cons] at e; cases e
 | x :: xs, y :: ys, hx, hy, e => by
  rw [fl_cons, fl_cons] at e
  obtain ⟨e1, e2⟩ := cut_uniq (hx x (.head _)) (hy y (.head _)) (fl_sl xs) (fl_sl ys) (List.cons.inj e).2
  rw [str_ext e1, fl_uniq (fun z h => hx z (.tail _ h)) (fun z h => hy z (.tail _ h)) e2]
theorem fl_join (x : Str) (xs : List Str) : 47 :: (Str.join "/" (x :: xs)).cps.toList = fl (x :: xs) := by rw [join_cl, fl_cons]; rfl
theorem split_ne (x y : Str) : Txt.split x y ≠ [] := by
 unfold Txt.split
 split
 · simp
 · split
   · simp
   · rw [StrLaws.partsBetween_eq]
     obtain ⟨p, r, e⟩ := StrLaws.partsFrom_ne x y.length 0 (Builtin.Str.occurrences x y 0 x.length (x.length + 1))
     rw [e]; simp
theorem split_is {x : Str} {q : Str} {qs : List Str} (hf : ∀ y ∈ q :: qs, 47 ∉ y.cps.toList) (e : x.cps.toList = (Str.join "/" (q :: qs)).cps.toList) : Txt.split x "/" = q :: qs := by
 have hs : ("/" : Str) = ⟨#[47]⟩ := str_ext slash_cl
 have h1 : ∀ p ∈ Txt.split x "/", 47 ∉ p.cps.toList := by rw [hs]; exact StrLaws.split_free x 47
 have h2 := StrLaws.join_split x "/"
 cases hS : Txt.split x "/" with
 | nil =>
  exact absurd hS (split_ne x "/")
 | cons a S =>
  rw [hS] at h1 h2
  refine fl_uniq h1 hf ?_
  rw [← fl_join, ← fl_join, h2, e]
theorem free_hex {n : List Nat} (h : OctOk n) : 47 ∉ (hexW n).cps.toList := by
 rw [hexW_cl h]
 intro z
 have := hx_range h.oct 47 z
 omega
theorem goodS_hex {n : List Nat} (h : OctOk n) (hn : n ≠ []) : goodS (hexW n) = true := by
 have e := hexW_cl h
 have hl : (hexW n).length = 2 * n.length := by rw [len_cl, e, hx_len]
 have hpos : 0 < n.length := List.length_pos_iff.mpr hn
 unfold goodS
 rw [hl, Bool.and_eq_true]
 refine ⟨by simp; omega, ?_⟩
 rw [bne_iff_ne, e]
 intro z
 have hd : (".": Str).cps.toList = [46] := by decide +kernel
 rw [hd] at z
 have := congrArg List.length z
 rw [hx_len] at this
 simp at this
 omega
theorem W_parts {p : Pl} (h : GoodPl p) : partsS (writtenT p) = p.map hexW := by
 unfold partsS
 cases p with
 | nil =>
  have e : (writtenT []) = "/" := str_ext (by rw [W_cl (p := []) (by simp), if_pos rfl, slash_cl])
  rw [e]
  decide +kernel
 | cons n p =>
  have hs : Txt.split (writtenT (n :: p)) "/" = ("" : Str) :: (n :: p).map hexW := by
   refine split_is (fun y hy => ?_) ?_
   · rcases List.mem_cons.mp hy with rfl | hy
     · decide +kernel
     · obtain ⟨m, hm, rfl⟩ := List.mem_map.mp hy
       exact free_hex (h.oct m hm)
   · have := fl_join "" ((n :: p).map hexW)
     rw [fl_cons] at this
     have e0 : ("" : Str).cps.toList = [] := by decide +kernel
     rw [e0, List.nil_append] at this
     rw [(List.cons.inj this).2, W_cl h.oct, if_neg (by simp)]
     have key : ∀ (l : Pl), (∀ k ∈ l, OctOk k) → wl l = fl (l.map hexW) := by
      intro l
      induction l with
      | nil => intro _; rfl
      | cons k l ih =>
       intro hl
       rw [List.map_cons, fl_cons, hexW_cl (hl k (.head _)), ← ih fun x hx => hl x (.tail _ hx), wl, List.flatMap_cons]; rfl
     exact key _ h.oct
  rw [hs, List.filter_cons, if_neg (by decide +kernel), List.filter_eq_self]
  intro y hy
  obtain ⟨m, hm, rfl⟩ := List.mem_map.mp hy
  exact goodS_hex (h.oct m hm) (name_ne (h.nm m hm))
def preP : Pl → Pl → Pl
 | x :: xs, y :: ys => if x = y then x :: preP xs ys else []
 | _, _ => []
theorem preP_iff : ∀ (p o : Pl), preP p o = o ↔ p.take o.length = o
 | [], [] => by simp [preP]
 | [], _ :: _ => by simp [preP]
 | _ :: _, [] => by simp [preP]
 | x :: xs, y :: ys => by
  simp only [preP, List.length_cons, List.take_succ_cons, List.cons.injEq]
  by_cases e : x = y
  · subst e; simp [preP_iff xs ys]
  · simp [e]
theorem preP_good {p o : Pl} (h : GoodPl p) : GoodPl (preP p o) := by
 have key : ∀ (a b : Pl), (preP a b).length ≤ a.length ∧ ∀ n ∈ preP a b, n ∈ a := by
  intro a
  induction a with
  | nil => intro b; cases b <;> simp [preP]
  | cons x xs ih =>
   intro b
   cases b with
   | nil => simp [preP]
   | cons y ys =>
    simp only [preP]
    by_cases e : x = y
    · rw [if_pos e]
      obtain ⟨h1, h2⟩ := ih ys
      refine ⟨by simpa using h1, fun n hn => ?_⟩
      rcases List.mem_cons.mp hn with rfl | hn
      · exact .head _
      · exact .tail _ (h2 n hn)
    · rw [if_neg e]; simp
 have := h.len
 exact ⟨Nat.le_trans (key p o).1 h.len, fun n hn => h.nm n ((key p o).2 n hn)⟩
theorem com_map : ∀ {p o : Pl}, (∀ n ∈ p, n ∈ nameList) → (∀ n ∈ o, n ∈ nameList) → comL (p.map hexW) (o.map hexW) = (preP p o).map hexW
 | [], [], _, _ => rfl
 | [], _ :: _, _, _ => rfl
 | _ :: _, [], _, _ => rfl
 | x :: p, y :: o, hp, ho => by
  have ih := com_map (p := p) (o := o) (fun n hn => hp n (.tail _ hn)) (fun n hn => ho n (.tail _ hn))
  rw [List.map_cons, List.map_cons, comL, preP]
  by_cases e : x = y
  · subst e; rw [if_pos rfl, if_pos rfl, List.map_cons, ih]
  · rw [if_neg e, if_neg fun z => e (hexW_inj (hp x (.head _)) (ho y (.head _)) z)]; rfl
theorem W_com {p o : Pl} (hp : GoodPl p) (ho : GoodPl o) : comL (partsS (writtenT p)) (partsS (writtenT o)) = (preP p o).map hexW := by
 rw [W_parts hp, W_parts ho]
 exact com_map hp.nm ho.nm
theorem W_common {p o : Pl} (hp : GoodPl p) (ho : GoodPl o) : commonT (writtenT p) (writtenT o) = writtenT (preP p o) := by
 rw [commonT, W_com hp ho]; rfl
theorem W_joinOk {p : Pl} (h : GoodPl p) : JoinOk "/" (p.map hexW) = true ∧ (Txt.join "/" (p.map hexW)).length ≤ 60 := by
 constructor
 · unfold JoinOk
   have hl := h.len
   rw [StrLaws.joinFits (B := 4) (fun y hy => by
    obtain ⟨n, hn, rfl⟩ := List.mem_map.mp hy
    exact hexW_len (h.oct n hn)) (by rw [List.length_map, slash_len]; omega)]
   rfl
 · have h1 := W_len h
   unfold writtenT at h1
   rw [Str.length_append, slash_len] at h1
   omega
theorem wl_snoc (p : Pl) (n : List Nat) : wl (p ++ [n]) = wl p ++ 47 :: hx n := by unfold wl; rw [List.flatMap_append]; simp
theorem rfind_is {x : Str} {A B : List Nat} (h : x.cps.toList = A ++ 47 :: B) (hB : 47 ∉ B) : Txt.rfind x "/" = (A.length : Int) := by
 have hs : ("/" : Str) = ⟨#[47]⟩ := str_ext slash_cl
 unfold Txt.rfind
 rw [hs]
 have hat : ∀ i, StrLaws.At x ⟨#[47]⟩ x.length i ↔ x.cps.toList[i]? = some 47 := fun i => StrLaws.subAt_one x 47 i
 have hA : x.cps.toList[A.length]? = some 47 := by rw [h]; simp
 rcases StrLaws.last_spec x ⟨#[47]⟩ with ⟨e, hn⟩ | ⟨i, e, hi, hn⟩
 · exact absurd ((hat _).mpr hA) (hn _)
 · rw [e]
   have hi := (hat i).mp hi
   have h1 : ¬ i < A.length := fun z => hn _ z ((hat _).mpr hA)
   have h2 : ¬ A.length < i := fun z => by
    rw [h, List.getElem?_append_right (by omega)] at hi
    obtain ⟨m, hm⟩ : ∃ m, i - A.length = m + 1 := ⟨i - A.length - 1, by omega⟩
    rw [hm, List.getElem?_cons_succ] at hi
    exact hB (List.mem_of_getElem? hi)
   show (i : Int) = _
   omega
theorem cl_mk (l : List Nat) : (⟨l.toArray⟩ : Str).cps.toList = l := rfl
theorem head_is {x : Str} {A B : List Nat} (h : x.cps.toList = A ++ 47 :: B) (hB : 47 ∉ B) : (headS x).cps.toList = A ++ [47] ∧ (tailS x).cps.toList = B := by
 unfold headS tailS
 rw [rfind_is h hB]
 have hl : x.cps.toList.length = A.length + 1 + B.length := by rw [h]; simp; omega
 constructor
 · have := StrLaws.sliceText_to (x := x) (j := (A.length : Int) + 1) ⟨by omega, by rw [hl]; omega⟩
   rw [show Txt.slice x none (some ((A.length : Int) + 1)) = StrLaws.sliceText x none (some ((A.length : Int) + 1)) from rfl, this, cl_mk, h]
   rw [List.drop_zero, show ((A.length : Int) + 1 - 0).toNat = A.length + 1 by omega, List.take_append, List.take_of_length_le (l := A) (by omega)]
   simp
 · have := StrLaws.sliceText_from (x := x) (i := (A.length : Int) + 1) ⟨by omega, by rw [hl]; omega⟩
   rw [show Txt.slice x (some ((A.length : Int) + 1)) none = StrLaws.sliceText x (some ((A.length : Int) + 1)) none from rfl, this, cl_mk, h]
   rw [show ((A.length : Int) + 1).toNat = A.length + 1 by omega, show ((((A ++ 47 :: B).length : Nat) : Int) - ((A.length : Int) + 1)).toNat = B.length by simp; omega, List.drop_append, List.drop_of_length_le (l := A) (by omega)]
   simp
theorem mul_cl {k : Nat} : (Txt.mul "/" (k : Int)).cps.toList = List.replicate k 47 := by
 unfold Txt.mul
 have hf : ∀ (m : Nat) (acc : Array Nat), ((List.replicate m ("/" : Str).cps).foldl (· ++ ·) acc).toList = acc.toList ++ List.replicate m 47 := by
  intro m
  induction m with
  | zero => intro acc; simp
  | succ m ih => intro acc; rw [List.replicate_succ, List.foldl_cons, ih, Array.toList_append, slash_cl, List.replicate_succ]; simp
 by_cases h1 : (k : Int) < 1
 · have : k = 0 := by omega
   subst this
   rw [if_pos h1]; rfl
 · rw [if_neg h1]
   by_cases h2 : k = 1
   · subst h2; rw [if_pos (by decide), slash_cl]; rfl
   · have hk : ((k : Int) == 1 || ("/" : Str).length == 0) = false := by
      rw [slash_len]
      have : ((k : Int) == 1) = false := by simp; omega
      rw [this]; rfl
     rw [if_neg (by rw [hk]; decide)]
     show (List.foldl (fun a b => a ++ b) (#[] : Array Nat) (List.replicate (k : Int).toNat ("/" : Str).cps)).toList = _
     rw [hf]; simp
theorem rstrip_is {x : Str} {A : List Nat} {c : Nat} (h : x.cps.toList = A ++ [c] ++ [47]) (hc : c ≠ 47) : (Txt.rstripChars x "/").cps.toList = A ++ [c] := by
 have hl : x.length = A.length + 2 := by rw [len_cl, h]; simp
 have hg : ∀ d : Nat, ("/" : Str).cps.contains d = (d == 47) := fun d => by
  have : ("/" : Str).cps = #[47] := by decide +kernel
  rw [this]
  by_cases e : d = 47 <;> simp [e]
 have ht : ((x.cps.toList.drop 0).reverse.takeWhile (("/" : Str).cps.contains)).length = 1 := by
  rw [List.drop_zero, h]
  simp only [List.reverse_append, List.reverse_cons, List.reverse_nil, List.nil_append, List.cons_append, List.takeWhile_cons, hg]
  simp [hc]
 have hhi : stripHi (("/" : Str).cps.contains) true x 0 = A.length + 1 := by unfold stripHi; rw [if_pos rfl, ht, hl]; rfl
 unfold Txt.rstripChars Txt.stripBy stripSame PySem.stripped
 rw [show stripLo (("/" : Str).cps.contains) false x = 0 from rfl, hhi, hl]
 rw [if_neg (by simp), StrLaws.strSub_toList, h]
 rw [List.drop_zero, List.append_assoc, List.take_append, List.take_of_length_le (l := A) (by omega)]
 simp
theorem W_split {p : Pl} {n : List Nat} (h : GoodPl (p ++ [n])) : splitS (writtenT (p ++ [n])) = writtenT p ∧ tailS (writtenT (p ++ [n])) = hexW n := by
 have hn : OctOk n := h.oct n (by simp)
 have hp := h.init
 have hcl : (writtenT (p ++ [n])).cps.toList = wl p ++ 47 :: hx n := by rw [W_cl h.oct, if_neg (by simp), wl_snoc]
 have hfree : 47 ∉ hx n := fun z => by have := hx_range hn.oct 47 z; omega
 obtain ⟨e1, e2⟩ := head_is hcl hfree
 refine ⟨?_, str_ext (by rw [e2, hexW_cl hn])⟩
 have hlen : (headS (writtenT (p ++ [n]))).length = (wl p).length + 1 := by rw [len_cl, e1]; simp
 unfold splitS
 rw [hlen, mul_cl, e1]
 have h0 : ((wl p).length + 1 == 0) = false := by simp
 rw [h0, Bool.false_or]
 rcases p.eq_nil_or_concat with rfl | ⟨p', m, rfl⟩
 · rw [if_pos (by simp [wl])]
   exact str_ext (by rw [e1, W_cl (p := []) (by simp), if_pos rfl]; rfl)
 · rw [List.concat_eq_append] at *
   have hm : OctOk m := hp.oct m (by simp)
   have hmn : m ≠ [] := name_ne (hp.nm m (by simp))
   obtain ⟨A, c, hA⟩ : ∃ A c, hx m = A ++ [c] := by
    rcases (hx m).eq_nil_or_concat with z | ⟨A, c, z⟩
    · have := congrArg List.length z
      rw [hx_len] at this
      have := List.length_pos_iff.mpr hmn
      simp at *
      omega
    · exact ⟨A, c, by rw [z, List.concat_eq_append]⟩
   have hc := hx_range hm.oct c (by rw [hA]; simp)
   have hw : wl (p' ++ [m]) = (wl p' ++ 47 :: A) ++ [c] := by rw [wl_snoc, hA]; simp
   rw [if_neg]
   · refine str_ext ?_
     rw [rstrip_is (A := wl p' ++ 47 :: A) (c := c) (by rw [e1, hw]) (by omega), W_cl hp.oct, if_neg (by simp), hw]
   · intro z
     have z := eq_of_beq z
     have hmem : c ∈ List.replicate ((wl (p' ++ [m])).length + 1) 47 := by rw [← z, hw]; simp
     have := List.eq_of_mem_replicate hmem
     omega
theorem ends_cl {x : Str} {A : List Nat} {c : Nat} (h : x.cps.toList = A ++ [c]) : Txt.endswith x "/" = (c == 47) := by
 have hl : x.length = A.length + 1 := by rw [len_cl, h]; simp
 unfold Txt.endswith
 rw [StrLaws.subAt_eq, h, slash_len, slash_cl, hl]
 simp
theorem W_join {p : Pl} {n : List Nat} (h : GoodPl (p ++ [n])) : joinS (writtenT p) (hexW n) = writtenT (p ++ [n]) := by
 have hn : OctOk n := h.oct n (by simp)
 have hnn : n ≠ [] := name_ne (h.nm n (by simp))
 have hp := h.init
 have hst : Txt.startswith (hexW n) "/" = false := by
  unfold Txt.startswith
  rw [StrLaws.subAt_eq, slash_cl, hexW_cl hn, slash_len, List.drop_zero]
  cases n with
  | nil => exact absurd rfl hnn
  | cons k r =>
   have := dg_range (i := k / 16) (by have := hn.oct k (.head _); omega)
   rw [hx, List.flatMap_cons, o2]
   have : (dg (k / 16) == 47) = false := by simp; omega
   simp [this]
 have hcl : (writtenT (p ++ [n])).cps.toList = wl p ++ 47 :: hx n := by rw [W_cl h.oct, if_neg (by simp), wl_snoc]
 unfold joinS
 rw [hst]
 rcases p.eq_nil_or_concat with rfl | ⟨p', m, rfl⟩
 · have e := W_cl (p := []) (by simp)
   rw [if_pos rfl] at e
   have hl : (writtenT []).length = 1 := by rw [len_cl, e]; rfl
   rw [hl, if_neg (by decide), ends_cl (A := []) (c := 47) e, if_pos (by decide)]
   exact str_ext (by rw [Str.cps_append, Array.toList_append, e, hexW_cl hn, hcl]; rfl)
 · rw [List.concat_eq_append] at *
   have hm : OctOk m := hp.oct m (by simp)
   have hmn : m ≠ [] := name_ne (hp.nm m (by simp))
   obtain ⟨A, c, hA⟩ : ∃ A c, hx m = A ++ [c] := by
    rcases (hx m).eq_nil_or_concat with z | ⟨A, c, z⟩
    · have := congrArg List.length z
      rw [hx_len] at this
      have := List.length_pos_iff.mpr hmn
      simp at *
      omega
    · exact ⟨A, c, by rw [z, List.concat_eq_append]⟩
   have hc := hx_range hm.oct c (by rw [hA]; simp)
   have hw : wl (p' ++ [m]) = (wl p' ++ 47 :: A) ++ [c] := by rw [wl_snoc, hA]; simp
   have e := W_cl hp.oct
   rw [if_neg (by simp)] at e
   have hl : (writtenT (p' ++ [m])).length ≠ 0 := by rw [len_cl, e, hw]; simp
   have h1 : ((writtenT (p' ++ [m])).length == 0) = false := by simpa using hl
   have h2 : (c == 47) = false := by simp; omega
   rw [h1, if_neg (by decide), ends_cl (e.trans hw), h2, if_neg (by decide)]
   exact str_ext (by rw [Str.cps_append, Array.toList_append, Str.cps_append, Array.toList_append, e, hexW_cl hn, slash_cl, hcl]; rfl)
def nameB (n : List Nat) : Bool :=
 ((hexA (octA n)).findIdx? (fun y => decide (y ≥ 128)) == none) && ((hexA (octA n))[0]? == some ((hexA (octA n))[0]?.getD 0)) && !(decide ((hexA (octA n))[0]?.getD 0 ≥ 128)) && decide (2 ≤ (hexA (octA n)).size) && decide ((hexA (octA n)).size ≤ 1000) &&
 decide ((ascA (hexA (octA n))).size ≤ 1000) && decide ((upA (octA n)).size ≤ 1000) && decide ((hexT n).length ≤ 100) && JoinOk "" ((upA (octA n)).toList.map fun c => ⟨#[c.toNat]⟩) && ((hexT n).cps.toList == (hexW n).cps.toList)
theorem names_b : nameList.all nameB = true := by decide +kernel
theorem NameOk_all : ∀ n ∈ nameList, NameOk n := by
 intro n hn
 have h := List.all_eq_true.mp names_b n hn
 have ho := OctOk_all n hn
 unfold nameB at h
 simp only [Bool.and_eq_true, beq_iff_eq, Bool.not_eq_true', decide_eq_true_eq] at h
 obtain ⟨⟨⟨⟨⟨⟨⟨⟨⟨h1, h2⟩, h3⟩, h4⟩, h5⟩, h6⟩, h7⟩, h8⟩, h9⟩, h10⟩ := h
 exact ⟨⟨h1, h2, h3, ⟨_, (Nat.sub_add_cancel h4).symm⟩, h5, h6⟩, ho.oct, h7, h8, ho.short, h9⟩
theorem hexT_eq {n : List Nat} (hn : n ∈ nameList) : hexT n = hexW n := by
 have h := List.all_eq_true.mp names_b n hn
 unfold nameB at h
 simp only [Bool.and_eq_true, beq_iff_eq] at h
 exact str_ext h.2
theorem W_path {p : Pl} (h : GoodPl p) : pathT p = writtenT p := by
 have key : ∀ (k : Nat) (p : Pl), p.length = k → GoodPl p → pathT p = writtenT p := by
  intro k
  induction k with
  | zero =>
   intro p hk h
   rw [List.length_eq_zero_iff.mp hk]
   exact str_ext (by rw [W_cl (p := []) (by simp), if_pos rfl]; exact slash_cl)
  | succ k ih =>
   intro p hk h
   rcases p.eq_nil_or_concat with rfl | ⟨p', m, rfl⟩
   · cases hk
   · rw [List.concat_eq_append] at *
     rw [pathT_snoc, ih p' (by simpa using hk) h.init, hexT_eq (h.nm m (by simp))]
     exact W_join h
 exact key _ p rfl h
end Mine
namespace Mine
set_option maxHeartbeats 2000000
open PySem PySem.W PyProof.Rows PySem.Calls PySem.Spec
theorem canLay_strs : ∀ l : List Str, (∀ x ∈ l, PyData.strOk x = true) → PyData.canLayAll0 (l.map PyData.str) = true
 | [], _ => rfl
 | x :: xs, h => by simp only [List.map_cons, PyData.canLayAll0, PyData.canLay0, h x (.head _), canLay_strs xs fun y hy => h y (.tail _ hy), Bool.and_self]
theorem shaped_strs (l : List Str) (h : ∀ x ∈ l, PyData.strOk x = true) : SeqAt.shaped (.list (l.map .str)) = true := by
 have h1 : (PyData.list (l.map .str)).canLay0 = true := by simp only [PyData.canLay0]; exact canLay_strs l h
 have h2 : (PyData.list (l.map PyData.str)).depth ≤ 1 := by
  simp only [PyData.depth]
  have := depth_map (f := PyData.str) (n := 0) (fun _ => Nat.le_refl _) l
  omega
 simp only [SeqAt.shaped, h1, Bool.true_and, decide_eq_true_eq]
 omega
abbrev dTexts (r : List Pl) : PyData := .list (r.map fun p => .str (writtenT p))
theorem W_eq {p q : Pl} (hp : GoodPl p) (hq : GoodPl q) : ((writtenT p) == (writtenT q)) = decide (p = q) := by
 by_cases e : p = q
 · subst e; simp
 · simp only [e, decide_false]
   exact beq_eq_false_iff_ne.mpr fun q' => e (W_inj hp hq q')
section
variable {w : World} {A : Around} {s : Shared} {g : Heap} {n : Nat}
theorem hungP (X : Stat g) (kg : Le g s.heap) (hA : Ok A (n + 4)) (p o nw : Pl) (t1 t2 t3 : Tok) (hp : GoodPl p) (ho : GoodPl o) (hn : GoodPl nw) (hu : p.take o.length = o) (hr : GoodPl (nw ++ p.drop o.length)) :
 Gives pw w A (.call (.ref 404) ⟨[.str (writtenT p) t1, .str (writtenT o) t2, .str (writtenT nw) t3], []⟩) s [] g (fun _ _ x => ∃ t, x = .str (writtenT (nw ++ p.drop o.length)) t) := by
 have hl : o.length ≤ p.length := by
  have := congrArg List.length hu
  rw [List.length_take] at this; omega
 have root : ∀ {q : Pl}, GoodPl q → (("/" : Str) == writtenT q) = decide (q = []) := fun {q} hq => by
  have e : ("/" : Str) = writtenT [] := by decide +kernel
  rw [e]
  have := W_eq (p := []) (q := q) ⟨by simp, fun _ h => nomatch h⟩ hq
  rw [this]
  by_cases z : q = [] <;> simp [z, Eq.comm]
 have snoc : ∀ i, i < p.length → p.take (i + 1) = p.take i ++ [p.getD i []] := fun i hi => by
  rw [List.take_add_one, List.getElem?_eq_getElem hi]; simp [hi]
 have snoc2 : ∀ i, o.length + i < p.length → nw ++ (p.drop o.length).take (i + 1) = (nw ++ (p.drop o.length).take i) ++ [p.getD (o.length + i) []] := fun i hi => by
  rw [List.take_add_one, List.getElem?_drop, List.getElem?_eq_getElem hi]; simp [hi]
 have good2 : ∀ i, GoodPl (nw ++ (p.drop o.length).take i) := fun i => by
  have e : nw ++ (p.drop o.length).take i = (nw ++ p.drop o.length).take (nw.length + i) := by simp [List.take_append, List.take_of_length_le]
  rw [e]; exact hr.take _
 have key := hung_gives (w := w) (n := n) X kg hA (writtenT p) (writtenT o) (writtenT nw) t1 t2 t3 (fun i => writtenT (p.take (p.length - i))) (fun i => writtenT (nw ++ (p.drop o.length).take (p.length - o.length - i))) (p.length - o.length) (by have := hp.len; omega) (by simp)
  (fun i hi => ?_) ?_ (fun i hi => ?_) (by simp) (fun m hm => ?_) (fun m hm => ?_)
 · refine key.mono fun g' h' v hv => ?_
   obtain ⟨t, rfl⟩ := hv
   refine ⟨t, ?_⟩
   have : (p.drop o.length).take (p.length - o.length - 0) = p.drop o.length := by rw [List.take_of_length_le (by rw [List.length_drop]; omega)]
   simp only [this]
 · constructor
   · rw [W_eq ho (hp.take _), root (hp.take _)]
     have h1 : ¬ o = p.take (p.length - i) := fun q => by
      have := congrArg List.length q
      rw [List.length_take] at this; omega
     have h2 : ¬ p.take (p.length - i) = [] := fun q => by
      have := congrArg List.length q
      rw [List.length_take] at this
      simp at this; omega
     simp [h1, h2]
   · have e := snoc (p.length - (i + 1)) (by omega)
     rw [show p.length - (i + 1) + 1 = p.length - i by omega] at e
     simp only [e]
     exact (W_split (by rw [← e]; exact hp.take _)).1.symm
 · rw [W_eq ho (hp.take _)]
   have : o = p.take (p.length - (p.length - o.length)) := by rw [show p.length - (p.length - o.length) = o.length by omega, hu]
   simp [← this]
 · refine ⟨Nat.le_trans (W_len (hp.take _)) (by decide), Nat.le_trans (W_len (good2 _)) (by decide), ?_⟩
   by_cases hz : i = p.length
   · subst hz
     simp only [Nat.sub_self, List.take_zero]
     decide +kernel
   · have e := snoc (p.length - (i + 1)) (by omega)
     rw [show p.length - (i + 1) + 1 = p.length - i by omega] at e
     simp only [e]
     rw [(W_split (by rw [← e]; exact hp.take _)).2]
     exact Nat.le_trans (hexW_len (OctOk_all _ ((hp.take (p.length - i)).nm _ (by rw [e]; simp)))) (by decide)
 · have e := snoc (p.length - (m + 1)) (by omega)
   rw [show p.length - (m + 1) + 1 = p.length - m by omega] at e
   simp only [e]
   rw [(W_split (by rw [← e]; exact hp.take _)).2]
   have e2 := snoc2 (p.length - o.length - (m + 1)) (by omega)
   rw [show p.length - o.length - (m + 1) + 1 = p.length - o.length - m by omega, show o.length + (p.length - o.length - (m + 1)) = p.length - (m + 1) by omega] at e2
   rw [e2]
   exact (W_join (by rw [← e2]; exact good2 _)).symm
 · have : tails (fun i => writtenT (p.take (p.length - i))) m = ((List.range m).map fun i => tailS (writtenT (p.take (p.length - i)))).map .str := by simp [tails]
   rw [this]
   refine shaped_strs _ fun x hx => ?_
   obtain ⟨i, hi, rfl⟩ := List.mem_map.mp hx
   have hi' : i < m := List.mem_range.mp hi
   have e := snoc (p.length - (i + 1)) (by omega)
   rw [show p.length - (i + 1) + 1 = p.length - i by omega] at e
   rw [e, (W_split (by rw [← e]; exact hp.take _)).2]
   exact H_ok ((hp.take (p.length - i)).nm _ (by rw [e]; simp))
abbrev nCar : List Str := ["paths", "deed", "old", "new", "rows", "path", "under"]
theorem carried_gives (X : Stat g) (kg : Le g s.heap) (hA : Ok A (n + 8)) (v : Value) (d : Int) (td to tn : Tok) (r : List Pl) (o nw : Pl) (hv : Dt g v (dTexts r)) (hr : r.length ≤ 1000) (hg : ∀ p ∈ r, GoodPl p) (ho : GoodPl o) (hn : GoodPl nw)
 (hx : ∀ p ∈ r, p.take o.length = o → GoodPl (nw ++ p.drop o.length)) :
 Gives pw w A (.call (.ref 411) ⟨[v, .int d td, .str (writtenT o) to, .str (writtenT nw) tn], []⟩) s [] g (fun g' _ x => Dt g' x (dTexts (doneR d o nw r))) := by
 refine Gives.go 22 [v, .int d td, .str (writtenT o) to, .str (writtenT nw) tn] ["paths", "deed", "old", "new"] ["rows", "path", "under"] ["commonpath", "_law_hung"] rfl X kg hA rfl (BindsTo.of_eq rfl) rfl (by decide +kernel) fun h₁ env A' t' hA' C F => ?_
 obtain ⟨l, items, k, rfl, hl, hds⟩ := hv.listInv
 have hlen : items.length = r.length := by simpa using hds.len
 refine wpAny_execs_cons (wpAny_Assign_Name (lstE (sp0 (newOwn F fun a h' F ha => ?_))))
 refine st4 C F fun h' F => ?_
 dsimp only
 refine wpAny_execs_cons (For_ (ld0 C F ?_))
 refine each_list (fun i g' vs' mu' => ∃ xs j u1 u2, mu' = [(a, lstObj xs j)] ∧ Stat g' ∧ Dts g' xs ((doneR d o nw (r.take i)).map fun p => .str (writtenT p)) ∧ xs.length ≤ 2 * i ∧ vs' = [some (.ref l), some (.int d td), some (.str (writtenT o) to), some (.str (writtenT nw) tn), some (.ref a), u1, u2]) hA'.handled F hl ⟨[], 0, _, _, rfl, X, .nil, Nat.le_refl _, rfl⟩ ?_ ?_
 · rintro i v g' vs' mu' I oI h tk hi kg' ⟨xs, j, u1, u2, rfl, X', hxs, hxl, rfl⟩ F
   obtain ⟨dd, hd, hdt⟩ := hds.get hi
   obtain ⟨p, hp, rfl⟩ : ∃ p, r[i]? = some p ∧ PyData.str (writtenT p) = dd := by simpa using hd
   have hpg := hg p (List.mem_of_getElem? hp)
   obtain ⟨tp, rfl⟩ := hdt.strInv
   have hir : i < r.length := by
    rcases Nat.lt_or_ge i r.length with q | q
    · exact q
    · rw [List.getElem?_eq_none q] at hp; cases hp
   refine st5 C F fun h' F => ?_
   refine wpAny_execs_cons ?_
   refine wpAny_Assign_Name ?_
   refine wpAny_Compare1 ?_
   refine C1 (N_commonpath C X' F.keep (.head _) ?_)
   refine lstE ?_
   refine sp1 (ld5 C F ?_)
   refine sp1 (ld2 C F (sp0 ?_))
   refine newLst F fun D g₂ h' k2 eD F => ?_
   have X₂ := X'.up k2
   refine ⟨⟨_, F.keep _ _ (X₂.fnAt 16 rfl)⟩, ?_⟩
   have hcom := W_com hpg ho
   refine call_c F (common_gives X₂ F.keep hA' D 0 (writtenT p) (writtenT o) tp to eD (W_start p) (W_start o) (Nat.le_trans (W_len hpg) (by decide)) (Nat.le_trans (W_len ho) (by decide)) (by rw [hcom]; exact (W_joinOk (preP_good hpg)).1) (by rw [hcom]; exact Nat.le_trans (W_joinOk (preP_good hpg)).2 (by decide))) fun g₃ h' t' v k3 F e => ?_
   obtain ⟨tc, rfl⟩ := e
   have X₃ := X₂.up k3
   rw [W_common hpg ho]
   refine ld2 C F ?_
   refine P.eq_str ?_
   have eU : ((writtenT (preP p o)).cps.toList == (writtenT o).cps.toList) = decide (p.take o.length = o) := by
    rw [Bool.eq_iff_iff]
    simp only [beq_iff_eq, decide_eq_true_eq, ← preP_iff]
    exact ⟨fun q => W_inj (preP_good hpg) ho (str_ext q), fun q => by rw [q]⟩
   rw [eU]
   refine st6 C F fun h' F => ?_
   dsimp only
   have k23 := k2.tr k3
   have hdt' := (Dt.str (g := g₃) (writtenT p) tp)
   refine seqP (fun s₂ => ∃ xs' j' h' t', s₂ = { s with heap := h', toks := t' } ∧ Dts g₃ xs' ((doneR d o nw (r.take i) ++ (if (!decide (p.take o.length = o)) || d == 2 then [p] else [])).map fun p => .str (writtenT p)) ∧ xs'.length ≤ 2 * i + 1 ∧
    St s.heap [] g g₃ env.locals nCar [some (.ref l), some (.int d td), some (.str (writtenT o) to), some (.str (writtenT nw) tn), some (.ref a), some (.str (writtenT p) tp), some (.bool (decide (p.take o.length = o)))] [(I, oI), (a, lstObj xs' j')] h') ?_ ?_
   · refine ifJ (fun s₂ => _) ?_ fun s₂ h => ⟨rfl, h⟩
     cases e1 : decide (p.take o.length = o) with
     | false =>
      rw [e1] at F
      refine isTrue_or (isTrue_not (isTrue_plain (ld6 C F (wpAny_truthy_bool ?_))))
      simp only [Bool.not_false, if_true]
      refine wpAny_execs_cons (wpAny_Expr (appS (h₀ := s.heap) (xt := []) (g₀ := g) (L := env.locals) (N := nCar) (a := a) (xs := xs) (j := j) (pre := [(I, oI)]) (post := []) (by omega) (ld4 C F ⟨rfl, ⟨_, (F.mt _ (.tail _ (.head _))).1, rfl, rfl⟩, ld5 C F ⟨g₃, _, F, fun h' F => ?_⟩⟩)) C.inter rfl)
      refine wpAny_execs_nil ⟨rfl, xs ++ [Value.str (writtenT p) tp], j + 1, h', _, rfl, ?_, by simp; omega, F⟩
      rw [List.map_append]
      refine (hxs.up k23).append ?_
      simp only [Bool.not_false, Bool.true_or, if_true]
      exact .cons hdt' .nil
     | true =>
      rw [e1] at F
      refine isTrue_or (isTrue_not (isTrue_plain (ld6 C F (wpAny_truthy_bool ?_))))
      simp only [Bool.not_true, Bool.false_eq_true, if_false]
      refine isTrue_or (wpAny_isTrue_Compare1 (ld1 C F (wpAny_Constant_int (P.eq_int (wpAny_truthy_bool ?_)))))
      cases e2 : d == 2 with
      | true =>
       simp only [if_true]
       refine wpAny_execs_cons (wpAny_Expr (appS (h₀ := s.heap) (xt := []) (g₀ := g) (L := env.locals) (N := nCar) (a := a) (xs := xs) (j := j) (pre := [(I, oI)]) (post := []) (by omega) (ld4 C F ⟨rfl, ⟨_, (F.mt _ (.tail _ (.head _))).1, rfl, rfl⟩, ld5 C F ⟨g₃, _, F, fun h' F => ?_⟩⟩)) C.inter rfl)
       refine wpAny_execs_nil ⟨rfl, xs ++ [Value.str (writtenT p) tp], j + 1, h', _, rfl, ?_, by simp; omega, F⟩
       rw [List.map_append]
       refine (hxs.up k23).append ?_
       simp only [Bool.or_true, if_true]
       exact .cons hdt' .nil
      | false =>
       simp only [Bool.false_eq_true, if_false]
       refine isTrue_or_nil ?_
       simp only [Bool.false_eq_true, if_false]
       refine ⟨xs, j, _, _, rfl, ?_, by omega, F⟩
       simp only [Bool.or_self, Bool.false_eq_true, if_false, List.append_nil]
       exact hxs.up k23
   · rintro s₂ ⟨xs', j', h', t', rfl, hxs', hxl', F⟩
     refine seqP (fun s₂ => ∃ xs' j' h' t' g₄, s₂ = { s with heap := h', toks := t' } ∧ Le g₃ g₄ ∧ Dts g₄ xs' ((doneR d o nw (r.take i) ++ done1 d o nw p).map fun p => .str (writtenT p)) ∧ xs'.length ≤ 2 * i + 2 ∧
      St s.heap [] g g₄ env.locals nCar [some (.ref l), some (.int d td), some (.str (writtenT o) to), some (.str (writtenT nw) tn), some (.ref a), some (.str (writtenT p) tp), some (.bool (decide (p.take o.length = o)))] [(I, oI), (a, lstObj xs' j')] h') ?_ ?_
     · refine ifJ (fun s₂ => _) ?_ fun s₂ h => ⟨rfl, h⟩
       cases e1 : decide (p.take o.length = o) with
       | false =>
        rw [e1] at F hxs'
        refine isTrue_and (isTrue_plain (ld6 C F (wpAny_truthy_bool ?_)))
        simp only [Bool.false_eq_true, if_false]
        refine ⟨xs', j', _, _, g₃, rfl, Le.rfl', ?_, by omega, F⟩
        simp only [done1, e1, Bool.false_and, Bool.false_eq_true, if_false, List.append_nil]
        exact hxs'
       | true =>
        rw [e1] at F hxs'
        refine isTrue_and (isTrue_plain (ld6 C F (wpAny_truthy_bool ?_)))
        simp only [if_true]
        refine isTrue_and (wpAny_isTrue_Compare1 (ld1 C F (wpAny_Constant_int (P.gt_int (wpAny_truthy_bool ?_)))))
        cases e2 : decide (d > 0) with
        | false =>
         simp only [Bool.false_eq_true, if_false]
         refine ⟨xs', j', _, _, g₃, rfl, Le.rfl', ?_, by omega, F⟩
         simp only [done1, e1, e2, Bool.and_false, Bool.false_eq_true, if_false, List.append_nil]
         exact hxs'
        | true =>
         simp only [if_true]
         refine isTrue_and_nil ?_
         simp only [if_true]
         have hu : p.take o.length = o := of_decide_eq_true e1
         refine wpAny_execs_cons ?_
         refine wpAny_Expr ?_ C.inter rfl
         refine appS (h₀ := s.heap) (xt := []) (g₀ := g) (L := env.locals) (N := nCar) (a := a) (xs := xs') (j := j') (pre := [(I, oI)]) (post := []) (by omega) ?_
         refine ld4 C F ⟨rfl, ⟨_, (F.mt _ (.tail _ (.head _))).1, rfl, rfl⟩, ?_⟩
         refine C3 (N_law_hung C X₃ F.keep (.tail _ (.head _)) (ld5 C F (ld2 C F (ld3 C F ⟨⟨_, F.keep _ _ (X₃.fnAt 21 rfl)⟩, ?_⟩))))
         refine call_c F (hungP (n := n + 3) X₃ F.keep hA' p o nw tp to tn hpg ho hn hu (hx p (List.mem_of_getElem? hp) hu)) fun g₄ h' t' v k4 F e => ?_
         obtain ⟨th, rfl⟩ := e
         refine ⟨g₄, _, F, fun h' F => ?_⟩
         refine wpAny_execs_nil ⟨rfl, xs' ++ [Value.str _ th], j' + 1, h', _, g₄, rfl, k4, ?_, by simp; omega, F⟩
         simp only [done1, e1, e2, Bool.and_self, if_true]
         rw [← List.append_assoc, List.map_append]
         exact (hxs'.up k4).append (.cons (.str _ _) .nil)
     · rintro s₃ ⟨xs', j', h', t', g₄, rfl, k4, hxs', hxl', F⟩
       refine wpAny_execs_nil (turn_next (k23.tr k4) F ⟨xs', j', _, _, rfl, X₃.up k4, ?_, hxl', rfl⟩)
       have e : r.take (i + 1) = r.take i ++ [p] := by rw [List.take_add_one, hp]; rfl
       rw [e, doneR, List.flatMap_append]
       simpa [doneR] using hxs'
 · rintro g' vs' mu' h tk kg' ⟨xs, j, u1, u2, rfl, X', hxs, hxl, rfl⟩ F
   obtain ⟨g₂, k2, eD, F₂⟩ := F.freeze (pre := []) (post := []) rfl ha
   refine wpAny_execs_cons (wpAny_Return_some (ld4 C F₂ ?_))
   refine ends F₂ (.list eD ?_)
   rw [hlen, List.take_length] at hxs
   exact hxs.up k2
end
end Mine
namespace Mine
open PySem PySem.W PyProof.Rows PySem.Calls PySem.Spec
def stmMMake : Stmt := nth (inside (nth pw.main.body 3)) 5
def bodyMMake : List Stmt := bodyOf stmMMake
def scopeMMake : Scope := scopeOf stmMMake
def fdMMake : FuncData := { name := "_make", qualname := "Match._make", params := parOf stmMMake, body := .stmts bodyMMake, scope := scopeMMake, globals := 3, closure := [], defaults := .none, kwdefaults := .none, doc := .str (docIn bodyMMake) 293, pyModule := .str "cpy313.difflib" 194, annotations := some 92, code := .ref 88, closureTuple := .none, builtins := 0 }
abbrev smCls : Obj := excClassObj "SequenceMatcher" "SequenceMatcher" 242 241 [.type "object"] [.type "object"] true [] [] false none none none none (some (.str "SequenceMatcher" 389)) (some (.str "SequenceMatcher" 397)) (some (.bool true)) "object.__new__"
def mtCls : Obj := ⟨.type "type", none, .cls ⟨"Match", [.type "tuple"], [.ref 135, .type "tuple", .type "object"], 134, "Match", false, [], [], false, none, false⟩, #[some (.ref 65), none, some (.str "Match" 253), some (.str "Match" 261), some .none, some (.bool false)]⟩
def smHas : List (Str × Value) := [("__init__", .ref 160), ("set_seqs", .ref 167), ("set_seq1", .ref 174), ("set_seq2", .ref 181), ("_SequenceMatcher__chain_b", .ref 188), ("find_longest_match", .ref 196), ("get_matching_blocks", .ref 203), ("get_opcodes", .ref 210)]
def attrs : List Str := ["isjunk", "a", "b", "autojunk", "matching_blocks", "opcodes", "fullbcount", "b2j", "bjunk", "bpopular"]
def hooks : List Str := ["__getattribute__", "__getattr__", "__setattr__"]
def smLacks : List Str := hooks ++ attrs
def mtHas : List (Str × Option Value) := [("__new__", some (.ref 136)), ("_make", some (.ref 91)), ("__init__", none), ("__call__", none), ("__iter__", none), ("__len__", none), ("__lt__", none), ("__eq__", none), ("__getitem__", none), ("__getattribute__", none), ("__getattr__", none), ("__hash__", none), ("__bool__", none), ("__del__", none)]
def obList2 : List (Addr × Obj) := [(242, smCls), (135, mtCls), (136, { cls := .type "staticmethod", data := .fields #[.ref 82] }), (91, { cls := .type "classmethod", dict := some 90, data := .fields #[.ref 89, .bool false] }), (89, fnObj fdMMake)]
structure Sm (g : Heap) : Prop extends Stat g where
 ob2 : ∀ p ∈ obList2, g.get? p.1 = some p.2
 ns : ∃ m, g.Ns 241 m ∧ (∀ p ∈ smHas, m p.1 = some p.2) ∧ ∀ x ∈ smLacks, m x = none
 mns : ∃ m, g.Ns 134 m ∧ ∀ p ∈ mtHas, m p.1 = p.2
 mkrec : g.CodeRec fdMMake.code fdMMake.qualname
theorem Sm.up {g g' : Heap} (X : Sm g) (k : Le g g') : Sm g' :=
 ⟨X.toStat.up k, fun p hp => k _ _ (X.ob2 p hp), let ⟨m, a, b⟩ := X.ns; ⟨m, a.keeps k, b⟩, let ⟨m, a, b⟩ := X.mns; ⟨m, a.keeps k, b⟩, X.mkrec.keeps k⟩
theorem Sm.cls {g : Heap} (X : Sm g) : g.get? 242 = some smCls := X.ob2 _ (.head _)
def At (o : Obj) (m : Str → Option Value) : Prop := ∃ es ep, o.data = .dict es ep ∧ StrKeys es ∧ UniqKeys es ∧ ∀ n, nsFind es n = m n
theorem At.ns1 {h : Heap} {d : Addr} {o : Obj} {m : Str → Option Value} (x : At o m) (e : h.get? d = some o) : h.Ns1 d m := let ⟨es, ep, a, b, c, f⟩ := x; ⟨o, es, ep, e, a, b, c, f⟩
theorem At.of {h : Heap} {d : Addr} {m : Str → Option Value} (x : h.Ns1 d m) : ∃ o, h.get? d = some o ∧ At o m := let ⟨o, es, ep, e, r⟩ := x; ⟨o, e, es, ep, r⟩
def AtV (vs : List Value) (m : Str → Option Value) : Prop := ∀ x, m x = (attrs.idxOf? x).bind fun i => vs[i]?
abbrev instO (dx : Addr) : Obj := { cls := .ref 242, dict := some dx, data := .plain }
structure Me (h : Heap) (x dx : Addr) (vs : List Value) : Prop where
 me : h.get? x = some (instO dx)
 ne : dx ≠ x
 at_ : ∃ m, h.Ns1 dx m ∧ AtV vs m
theorem Me.inst {h : Heap} {x dx : Addr} {vs : List Value} (I : Me h x dx vs) : ∃ m, h.Inst x 242 m ∧ AtV vs m := by
 obtain ⟨m, a, b⟩ := I.at_
 exact ⟨m, ⟨_, I.me, rfl, fun c => by simp, .inr ⟨dx, rfl, I.ne, a⟩⟩, b⟩
theorem Me.up {h h' : Heap} {x dx : Addr} {vs : List Value} (I : Me h x dx vs) (k : Le h h') : Me h' x dx vs := ⟨k _ _ I.me, I.ne, let ⟨m, a, b⟩ := I.at_; ⟨m, a.at fun o e => k _ _ e, b⟩⟩
section
variable {w : World} {A : Around} {E : Value → Shared → Prop} {s : Shared} {env : Env} {x dx : Addr} {vs : List Value} {g : Heap}
theorem none_obj : ∀ n ∈ attrs, typeLookup (.type "object") n = pure none := by
 intro n hn
 simp only [attrs, List.mem_cons, List.not_mem_nil, or_false] at hn
 rcases hn with rfl | rfl | rfl | rfl | rfl | rfl | rfl | rfl | rfl | rfl <;> (rw [typeLookup_type, builtinLookup_eq_fast]; kernel_rfl)
theorem lacks_of {m : Str → Option Value} (h : ∀ x ∈ smLacks, m x = none) {n : Str} (hn : n ∈ attrs) : m n = none := h n (List.mem_append_right _ hn)
theorem attr_idx {i : Nat} {n : Str} (hi : attrs[i]? = some n) : attrs.idxOf? n = some i := by
 have hl : i < 10 := (List.getElem?_eq_some_iff.mp hi).1
 have : ∀ j < 10, ∀ n, attrs[j]? = some n → attrs.idxOf? n = some j := by
  intro j hj n hn
  have hn' : n = (attrs[j]?).getD default := by rw [hn]; rfl
  subst hn'
  revert j; decide +kernel
 exact this i hl n hi
theorem getA {expr : Bool} {v : Value} {Q : Value → Shared → Prop} (i : Nat) {n : Str} (hn : attrs[i]? = some n) (X : Sm g) (kg : Le g s.heap) (I : Me s.heap x dx vs) (hv : vs[i]? = some v) (hh : handedOut v = pure v) (hq : Q v { s with toks := s.toks + 1 }) :
 wpAny (model pw w) A (getAttr (.ref x) n expr) Q E s := by
 obtain ⟨m, a, b, c⟩ := X.ns
 obtain ⟨mA, i1, i2⟩ := I.inst
 obtain ⟨h, gg, d, t, os⟩ := s
 have hm : n ∈ attrs := List.mem_of_getElem? hn
 exact load_attr (kg _ _ X.cls) (a.keeps kg) (c "__getattribute__" (by decide +kernel)) (lacks_of c hm) (none_obj n hm) i1 (by rw [i2, attr_idx hn]; exact hv) hh hq
theorem getE {o : Expr} {pos : Pos} {Q : Value → Shared → Prop} {n : Str} (hb : attributeBase o n env (eval o env) = eval o env)
 (h : wpAny (model pw w) A (eval o env) (fun ov s₁ => wpAny (model pw w) A (getAttr ov n true) Q E s₁) E s) : wpAny (model pw w) A (eval (.Attribute o n pos) env) Q E s := by
 rw [arm_eval_Attribute, hb]
 refine wpAny_bind (wpAny_mono h (fun ov s₁ h₁ => wpAny_bind (wpAny_standAt (wpAny_bind (wpAny_holding (wpAny_mono h₁ (fun r s₂ h₂ => wpAny_bind (wpAny_letTemporaryGo (wpAny_pure h₂))) fun _ _ e => e))))) fun _ _ e => e)
end
def put (vs : List Value) (i : Nat) (v : Value) : List Value := if i < vs.length then vs.set i v else vs ++ [v]
theorem put_get {vs : List Value} {i : Nat} {v : Value} (hi : i ≤ vs.length) (j : Nat) : (put vs i v)[j]? = if j = i then some v else vs[j]? := by
 unfold put
 split
 · rename_i h
   rw [List.getElem?_set]
   by_cases e : j = i
   · subst e; simp [h]
   · simp [e, Ne.symm e]
 · rename_i h
   have : i = vs.length := by omega
   subst this
   by_cases e : j = vs.length
   · subst e; simp
   · rw [if_neg e]
     by_cases l : j < vs.length
     · rw [List.getElem?_append_left l]
     · rw [List.getElem?_eq_none (by simp; omega), List.getElem?_eq_none (by omega)]
theorem AtV.put {vs : List Value} {m : Str → Option Value} (a : AtV vs m) {i : Nat} {n : Str} {v : Value} (hn : attrs[i]? = some n) (hi : i ≤ vs.length) : AtV (put vs i v) (fun y => if y = n then some v else m y) := by
 intro y
 dsimp only
 split
 · rename_i e
   subst e
   rw [attr_idx hn, Option.bind_some, put_get hi, if_pos rfl]
 · rename_i e
   rw [a y]
   cases q : attrs.idxOf? y with
   | none => rfl
   | some j =>
    rw [Option.bind_some, Option.bind_some, put_get hi, if_neg]
    intro e'
    subst e'
    have z : attrs[j]? = some y := by
     have q' := q
     rw [List.idxOf?, List.findIdx?_eq_some_iff_getElem] at q'
     obtain ⟨l, a1, _⟩ := q'
     rw [List.getElem?_eq_getElem l, eq_of_beq a1]
    rw [hn] at z
    exact e (Option.some.inj z.symm)
theorem AtV.within {vs : List Value} {m : Str → Option Value} (a : AtV vs m) : Within m attrs := by
 intro y hy
 rw [a y] at hy
 cases q : attrs.idxOf? y with
 | none => rw [q] at hy; exact absurd rfl hy
 | some j =>
  rw [List.idxOf?, List.findIdx?_eq_some_iff_getElem] at q
  obtain ⟨l, a1, _⟩ := q
  rw [← eq_of_beq a1]; exact List.getElem_mem l
theorem St.turn' {h₀ g₀ g h h₁ : Heap} {xt : List Addr} {L : Addr} {N : List Str} {vs : List (Option Value)} {a : Addr} {o o' : Obj} {pre post : List (Addr × Obj)} (F : St h₀ xt g₀ g L N vs (pre ++ (a, o) :: post) h)
 (hk : ∀ b o, b ≠ a → h.get? b = some o → h₁.get? b = some o) (ho : h₁.get? a = some o') : St h₀ xt g₀ g L N vs (pre ++ (a, o') :: post) h₁ := by
 have ma := F.mt (a, o) (by simp)
 have nd := F.nd
 rw [List.map_append, List.map_cons] at nd
 have n1 : ∀ p ∈ pre, p.1 ≠ a := fun p hp q => (List.nodup_append.mp nd).2.2 p.1 (List.mem_map_of_mem hp) a (.head _) q
 have n2 : ∀ p ∈ post, p.1 ≠ a := fun p hp q => (List.nodup_cons.mp (List.nodup_append.mp nd).2.1).1 (by have z : p.1 ∈ post.map (·.1) := List.mem_map_of_mem hp; rwa [q] at z)
 refine ⟨F.len, let ⟨m, x, y⟩ := F.ns; ⟨m, x.at' fun o e => hk _ o (Ne.symm ma.2.1) e, y⟩, fun b q hb e => hk b q (fun z => ?_) (F.base b q hb e), fun b q e => hk b q (fun z => ?_) (F.keep b q e), F.low, F.outg, fun p hp => ?_, by rw [List.map_append, List.map_cons]; exact nd, F.mono, F.fresh⟩
 · subst z
   rcases ma.2.2.2 with z | z
   · exact hb z
   · exact absurd (Heap.lt_size e) (Nat.not_lt.mpr z)
 · subst z; rw [ma.2.2.1] at e; cases e
 · rcases List.mem_append.mp hp with q | q
   · have P := F.mt p (List.mem_append_left _ q)
     exact ⟨hk _ _ (n1 p q) P.1, P.2⟩
   · rcases List.mem_cons.mp q with rfl | q
     · exact ⟨ho, ma.2⟩
     · have P := F.mt p (List.mem_append_right _ (.tail _ q))
       exact ⟨hk _ _ (n2 p q) P.1, P.2⟩
section
variable {w : World} {A : Around} {E : Value → Shared → Prop} {s : Shared} {env : Env} {x dx : Addr} {vs : List Value} {g : Heap}
theorem setA {v : Value} {Q : Unit → Shared → Prop} (i : Nat) {n : Str} (hn : attrs[i]? = some n) (X : Sm g) (kg : Le g s.heap) (I : Me s.heap x dx vs) (hi : i ≤ vs.length)
 (hq : ∀ h' o k, h'.get? dx = some o → Me h' x dx (put vs i v) → (∀ b o, b ≠ dx → s.heap.get? b = some o → h'.get? b = some o) → Q () { s with heap := h', toks := k }) :
 wpAny (model pw w) A (setAttr (.ref x) n v) Q E s := by
 obtain ⟨m, a, b, c⟩ := X.ns
 obtain ⟨mA, i1, i2⟩ := I.inst
 have I₀ := I
 obtain ⟨h, gg, d, t, os⟩ := s
 have hm : n ∈ attrs := List.mem_of_getElem? hn
 have hx : x ≠ 242 := fun e => by
  have z := kg _ _ X.cls
  rw [← e] at z
  have := I.me.symm.trans z
  exact absurd (congrArg Obj.dict (Option.some.inj this)) (by simp)
 refine store_attr PySem.F.store_object (kg _ _ X.cls) (a.keeps kg) (c "__setattr__" (by decide +kernel)) (lacks_of c hm) (none_obj n hm) hx i1 (fun h' tk' I' hk hsame => ?_) i2.within (by rw [sizeLine_eq]; decide)
 obtain ⟨o₁, z1, z2, z3, z4, z5⟩ := hsame _ I.me
 have e₁ : o₁ = instO dx := by
  obtain ⟨c1, c2, c3, c4⟩ := o₁
  have := z5 dx rfl
  dsimp only at z2 z3 z4 this
  rw [z2, z3, z4, this]
 subst e₁
 obtain ⟨oi, j1, j2, j3, j4⟩ := I'
 rw [z1] at j1; cases j1
 have ns' : h'.Ns1 dx (fun y => if y = n then some v else mA y) := by
  rcases j4 with ⟨q, _⟩ | ⟨d', q1, q2, q3⟩
  · cases q
  · cases q1; exact q3
 obtain ⟨od, y1, y2⟩ := At.of ns'
 refine hq h' od tk' y1 ⟨z1, I.ne, _, ns', i2.put hn hi⟩ fun b o hb e => ?_
 by_cases hbx : b = x
 · subst hbx
   have e' : h.get? b = some o := e
   have hm' : h.get? b = some (instO dx) := I₀.me
   rw [hm'] at e'; cases e'; exact z1
 · exact hk b o hbx (fun o₀ d' e1 e2 => by
    have e1' : h.get? x = some o₀ := e1
    have hm' : h.get? x = some (instO dx) := I₀.me
    rw [hm'] at e1'; cases e1'; cases e2; exact hb) e
theorem methA {name : Str} {f : Addr} {fd : FuncData} {pl : Sem Bool} {Q : Value × List Value → Shared → Prop} (X : Sm g) (kg : Le g s.heap) (I : Me s.heap x dx vs) (hf : (name, Value.ref f) ∈ smHas) (hna : name ∉ attrs) (hfo : g.get? f = some (fnObj fd))
 {y : Option Value} (hB : typeLookup (.type "object") name = pure y) (hq : Q (.ref f, [.ref x]) s) : wpAny (model pw w) A (getMethod (.ref x) name pl) Q E s := by
 obtain ⟨m, a, b, c⟩ := X.ns
 obtain ⟨mA, i1, i2⟩ := I.inst
 obtain ⟨h, gg, d, t, os⟩ := s
 have hs : mA name = none := by
  rw [i2]
  cases q : attrs.idxOf? name with
  | none => rfl
  | some j =>
   rw [List.idxOf?, List.findIdx?_eq_some_iff_getElem] at q
   obtain ⟨l, a1, _⟩ := q
   exact absurd (eq_of_beq a1 ▸ List.getElem_mem l) hna
 exact method_of (kg _ _ X.cls) (a.keeps kg) (c "__getattribute__" (by decide +kernel)) (c "__getattr__" (by decide +kernel)) (b _ hf) (kg _ _ hfo) rfl hB i1 hs hq
theorem methE {o : Expr} {name : Str} {apos pos : Pos} {args : List Expr} {Q : Value → Shared → Prop} (hb : attributeBase o name env (eval o env) = eval o env)
 (hform : methodCallForm (args.length + ([] : List Keyword).length) (backTo pos (starEach args env)) (backToKw pos (keywordEach [] env)) = true) (hl : (apos.endLine == pos.line) = true)
 (h : wpAny (model pw w) A (eval o env) (fun ov s₁ => ∀ pl, wpAny (model pw w) A (getMethod ov name pl) (fun p s₂ => wpAny (model pw w) A (callWith pos p.1 p.2 (backTo pos (starEach args env)) []) Q E s₂) E s₁) E s) :
 wpAny (model pw w) A (eval (.Call (.Attribute o name apos) args [] pos) env) Q E s := by
 rw [arm_eval_Call, hb]
 refine wpAny_bind (wpAny_mono h (fun ov s₁ h₁ => ?_) fun _ _ e => e)
 refine wpAny_bind (wpAny_standAt ?_)
 have hpos : methodCallPos true o env apos pos = pure pos := by unfold methodCallPos; simp [hl]
 unfold methodCall
 rw [hform]
 refine wpAny_bind (wpAny_holding (wpAny_mono (h₁ _) (fun p s₂ h₂ => ?_) fun _ _ e => e))
 exact wpAny_bind (wpAny_of_eq hpos h₂)
theorem ME0 {o : Expr} {name : Str} {apos pos : Pos} {Q : Value → Shared → Prop} (hb : attributeBase o name env (eval o env) = eval o env) (hl : (apos.endLine == pos.line) = true)
 (h : wpAny (model pw w) A (eval o env) (fun ov s₁ => ∀ pl, wpAny (model pw w) A (getMethod ov name pl) (fun p s₂ => Callee s₂.heap p.1 ∧ wpAny (model pw w) A (call p.1 p.2) Q E s₂) E s₁) E s) :
 wpAny (model pw w) A (eval (.Call (.Attribute o name apos) [] [] pos) env) Q E s :=
 methE hb rfl hl (wpAny_mono h (fun ov s₁ h₁ pl => wpAny_mono (h₁ pl) (fun p s₂ h₂ => callWith_any rfl (args0 (by rw [List.append_nil]; exact h₂))) fun _ _ e => e) fun _ _ e => e)
theorem ME1 {o a : Expr} {name : Str} {apos pos : Pos} {Q : Value → Shared → Prop} (hb : attributeBase o name env (eval o env) = eval o env) (hl : (apos.endLine == pos.line) = true)
 (h : wpAny (model pw w) A (eval o env) (fun ov s₁ => ∀ pl, wpAny (model pw w) A (getMethod ov name pl) (fun p s₂ => wpAny (model pw w) A (eval a env) (fun v s₃ => Callee s₃.heap p.1 ∧ wpAny (model pw w) A (call p.1 (p.2 ++ [v])) Q E s₃) E s₂) E s₁) E s)
 (he : starEach [a] env = [(false, eval a env)] := by rfl) :
 wpAny (model pw w) A (eval (.Call (.Attribute o name apos) [a] [] pos) env) Q E s :=
 methE hb (by rw [he]; rfl) hl (wpAny_mono h (fun ov s₁ h₁ pl => wpAny_mono (h₁ pl) (fun p s₂ h₂ => by
  rw [he]
  exact callWith_any rfl (evalArgs_plain (spliced_cons (wpAny_mono h₂ (fun v s₃ h₃ => spliced_nil h₃) fun _ _ e => e)))) fun _ _ e => e) fun _ _ e => e)
theorem ME2 {o a b : Expr} {name : Str} {apos pos : Pos} {Q : Value → Shared → Prop} (hb : attributeBase o name env (eval o env) = eval o env) (hl : (apos.endLine == pos.line) = true)
 (h : wpAny (model pw w) A (eval o env) (fun ov s₁ => ∀ pl, wpAny (model pw w) A (getMethod ov name pl) (fun p s₂ => wpAny (model pw w) A (eval a env) (fun v s₃ => wpAny (model pw w) A (eval b env) (fun u s₄ => Callee s₄.heap p.1 ∧ wpAny (model pw w) A (call p.1 (p.2 ++ [v, u])) Q E s₄) E s₃) E s₂) E s₁) E s)
 (he : starEach [a, b] env = [(false, eval a env), (false, eval b env)] := by rfl) :
 wpAny (model pw w) A (eval (.Call (.Attribute o name apos) [a, b] [] pos) env) Q E s :=
 methE hb (by rw [he]; rfl) hl (wpAny_mono h (fun ov s₁ h₁ pl => wpAny_mono (h₁ pl) (fun p s₂ h₂ => by
  rw [he]
  exact callWith_any rfl (evalArgs_plain (spliced_cons (wpAny_mono h₂ (fun v s₃ h₃ => spliced_cons (wpAny_mono h₃ (fun u s₄ h₄ => spliced_nil h₄) fun _ _ e => e)) fun _ _ e => e)))) fun _ _ e => e) fun _ _ e => e)
theorem ME4 {o a b c d : Expr} {name : Str} {apos pos : Pos} {Q : Value → Shared → Prop} (hb : attributeBase o name env (eval o env) = eval o env) (hl : (apos.endLine == pos.line) = true)
 (h : wpAny (model pw w) A (eval o env) (fun ov s₁ => ∀ pl, wpAny (model pw w) A (getMethod ov name pl) (fun p s₂ => wpAny (model pw w) A (eval a env) (fun v s₃ => wpAny (model pw w) A (eval b env) (fun u s₄ =>
  wpAny (model pw w) A (eval c env) (fun y s₅ => wpAny (model pw w) A (eval d env) (fun z s₆ => Callee s₆.heap p.1 ∧ wpAny (model pw w) A (call p.1 (p.2 ++ [v, u, y, z])) Q E s₆) E s₅) E s₄) E s₃) E s₂) E s₁) E s)
 (he : starEach [a, b, c, d] env = [(false, eval a env), (false, eval b env), (false, eval c env), (false, eval d env)] := by rfl) :
 wpAny (model pw w) A (eval (.Call (.Attribute o name apos) [a, b, c, d] [] pos) env) Q E s :=
 methE hb (by rw [he]; rfl) hl (wpAny_mono h (fun ov s₁ h₁ pl => wpAny_mono (h₁ pl) (fun p s₂ h₂ => by
  rw [he]
  exact callWith_any rfl (evalArgs_plain (spliced_cons (wpAny_mono h₂ (fun v s₃ h₃ => spliced_cons (wpAny_mono h₃ (fun u s₄ h₄ => spliced_cons (wpAny_mono h₄ (fun y s₅ h₅ => spliced_cons (wpAny_mono h₅ (fun z s₆ h₆ => spliced_nil h₆) fun _ _ e => e)) fun _ _ e => e)) fun _ _ e => e)) fun _ _ e => e)))) fun _ _ e => e) fun _ _ e => e)
end
section
variable {M : Model} {A : Around} {E : Value → Shared → Prop} {s : Shared} {env : Env}
theorem Asg2 {t1 t2 value : Expr} {pos : Pos} {Q : Flow → Shared → Prop}
 (h : wpAny M A (eval value env) (fun v s₁ => wpAny M A (assign t1 env v) (fun _ s₂ => wpAny M A (assign t2 env v) (fun _ s₃ => Q .next s₃) E s₂) E s₁) E s)
 (hs : swappedStores [t1, t2] value env = pure none := by rfl) (ha : assignEach [t1, t2] env = [(false, assign t1 env), (false, assign t2 env)] := by rfl) : wpAny M A (exec (.Assign [t1, t2] value pos) env) Q E s := by
 rw [arm_exec_Assign]
 refine wpAny_bind (wpAny_standAt (wpAny_bind (wpAny_pure ?_)))
 rw [if_neg (by decide)]
 refine wpAny_bind (wpAny_mono h (fun v s₁ h₁ => ?_) fun _ _ e => e)
 rw [hs, ha]
 refine wpAny_bind (wpAny_pure ?_)
 show wpAny M A (assignAll v [assign t1 env, assign t2 env] >>= fun _ => pure Flow.next) Q E s₁
 refine wpAny_bind ?_
 refine wpAny_bind (wpAny_holding (wpAny_mono h₁ (fun _ s₂ h₂ => ?_) fun _ _ e => e))
 exact wpAny_mono h₂ (fun _ s₃ h₃ => wpAny_pure h₃) fun _ _ e => e
theorem Asg3 {t1 t2 t3 value : Expr} {pos : Pos} {Q : Flow → Shared → Prop}
 (h : wpAny M A (eval value env) (fun v s₁ => wpAny M A (assign t1 env v) (fun _ s₂ => wpAny M A (assign t2 env v) (fun _ s₃ => wpAny M A (assign t3 env v) (fun _ s₄ => Q .next s₄) E s₃) E s₂) E s₁) E s)
 (hs : swappedStores [t1, t2, t3] value env = pure none := by rfl) (ha : assignEach [t1, t2, t3] env = [(false, assign t1 env), (false, assign t2 env), (false, assign t3 env)] := by rfl) : wpAny M A (exec (.Assign [t1, t2, t3] value pos) env) Q E s := by
 rw [arm_exec_Assign]
 refine wpAny_bind (wpAny_standAt (wpAny_bind (wpAny_pure ?_)))
 rw [if_neg (by decide)]
 refine wpAny_bind (wpAny_mono h (fun v s₁ h₁ => ?_) fun _ _ e => e)
 rw [hs, ha]
 refine wpAny_bind (wpAny_pure ?_)
 show wpAny M A (assignAll v [assign t1 env, assign t2 env, assign t3 env] >>= fun _ => pure Flow.next) Q E s₁
 refine wpAny_bind ?_
 refine wpAny_bind (wpAny_holding (wpAny_mono h₁ (fun _ s₂ h₂ => ?_) fun _ _ e => e))
 refine wpAny_bind (wpAny_holding (wpAny_mono h₂ (fun _ s₃ h₃ => ?_) fun _ _ e => e))
 exact wpAny_mono h₃ (fun _ s₄ h₄ => wpAny_pure h₄) fun _ _ e => e
theorem asgA {o : Expr} {attr : Str} {pos : Pos} {v : Value} {Q : Unit → Shared → Prop} (h : wpAny M A (eval o env) (fun ov s₂ => wpAny M A (setAttr ov attr v) (fun _ => Q ()) E s₂) E s) : wpAny M A (assign (.Attribute o attr pos) env v) Q E s := by
 intro Γ p hΓ
 simp only [assign_Attribute, Sem.wp_bind', Sem.wp_holding, Sem.wp_cmd_standAt, Sem.wp_release, Sem.wp_pure']
 exact Sem.wp_mono M Γ _ (fun ov _ s₂ h₂ => h₂ Γ _ hΓ) (fun _ _ _ h' => h') _ _ (h Γ p hΓ)
theorem asgN {x : Str} {pos : Pos} {v : Value} {Q : Unit → Shared → Prop} (h : wpAny M A (storeName env x v) Q E s) : wpAny M A (assign (.Name x pos) env v) Q E s := by
 rw [arm_assign_Name]
 exact wpAny_bind (wpAny_standAt (wpAny_bindName h))
theorem Asg1 {o value : Expr} {attr : Str} {pos pos' : Pos} {Q : Flow → Shared → Prop}
 (h : wpAny M A (eval value env) (fun v s₁ => wpAny M A (eval o env) (fun ov s₂ => wpAny M A (setAttr ov attr v) (fun _ => Q .next) E s₂) E s₁) E s)
 (hs : swapsWith value (some (.Attribute o attr pos')) pos.line env = pure false := by rfl) : wpAny M A (exec (.Assign [.Attribute o attr pos'] value pos) env) Q E s := plainObj_wpAny_Assign_Attribute h hs
end
section
variable {w : World} {A : Around} {E : Value → Shared → Prop} {s : Shared} {env : Env} {x dx : Addr} {vs : List Value} {h₀ g₀ g : Heap} {xt : List Addr} {L : Addr} {N : List Str} {vals : List (Option Value)} {pre post : List (Addr × Obj)} {od : Obj}
def AtO (o : Obj) (vs : List Value) : Prop := ∃ m, At o m ∧ AtV vs m
theorem Me.of {h : Heap} (hx : g.get? x = some (instO dx)) (F : St h₀ xt g₀ g L N vals (pre ++ (dx, od) :: post) h) (a : AtO od vs) : Me h x dx vs := by
 have ma := F.mt (dx, od) (by simp)
 obtain ⟨m, a1, a2⟩ := a
 exact ⟨F.keep _ _ hx, fun e => by rw [e, hx] at ma; exact absurd ma.2.2.1 (by simp), m, a1.ns1 ma.1, a2⟩
theorem Me.ato {h : Heap} {o : Obj} (I : Me h x dx vs) (e : h.get? dx = some o) : AtO o vs := by
 obtain ⟨m, a, b⟩ := I.at_
 obtain ⟨o', e', a'⟩ := At.of a
 rw [e] at e'; cases e'
 exact ⟨m, a', b⟩
theorem gA {expr : Bool} {v : Value} {Q : Value → Shared → Prop} (i : Nat) {n : Str} (hn : attrs[i]? = some n) (X : Sm g) (hx : g.get? x = some (instO dx)) (F : St h₀ xt g₀ g L N vals (pre ++ (dx, od) :: post) s.heap) (a : AtO od vs) (hv : vs[i]? = some v) (hh : handedOut v = pure v)
 (hq : Q v { s with toks := s.toks + 1 }) : wpAny (model pw w) A (getAttr (.ref x) n expr) Q E s := getA i hn X F.keep (Me.of hx F a) hv hh hq
theorem sA {v : Value} {Q : Unit → Shared → Prop} (i : Nat) {n : Str} (hn : attrs[i]? = some n) (X : Sm g) (hx : g.get? x = some (instO dx)) (F : St h₀ xt g₀ g L N vals (pre ++ (dx, od) :: post) s.heap) (a : AtO od vs) (hi : i ≤ vs.length)
 (hq : ∀ h' o k, AtO o (put vs i v) → St h₀ xt g₀ g L N vals (pre ++ (dx, o) :: post) h' → Q () { s with heap := h', toks := k }) : wpAny (model pw w) A (setAttr (.ref x) n v) Q E s :=
 setA i hn X F.keep (Me.of hx F a) hi fun h' o k e I hk => hq h' o k (I.ato e) (F.turn' hk e)
end
section
variable {w : World} {A : Around} {s : Shared} {g : Heap} {n : Nat} {x dx : Addr} {od : Obj}
theorem seq1_gives (X : Sm g) (kg : Le g s.heap) (hA : Ok A (n + 1)) (hx : g.get? x = some (instO dx)) (hd : s.heap.get? dx = some od) (hg : g.get? dx = none) {iv aj : Value} (a : AtO od [iv, .none, .none, aj]) (l : Addr) :
 Gives pw w A (.call (.ref 174) ⟨[.ref x, .ref l], []⟩) s [dx] g (fun _ h' v => v = .none ∧ ∃ o, h'.get? dx = some o ∧ AtO o [iv, .ref l, .none, aj, .none, .none]) := by
 refine Gives.enter [.ref x, .ref l] ["self", "a"] [] [] [(dx, od)] (kg _ _ (X.fnAt 2 rfl)) rfl (X.lim.keeps kg) ((X.cdAt 2 rfl).keeps kg) hA rfl (BindsTo.of_eq rfl) rfl (by decide +kernel) kg (fun p hp => by rw [List.mem_singleton.mp hp]; exact ⟨hd, hg, .head _⟩) (by simp) fun h₁ env A' t' hA' C F => ?_
 dsimp only [List.map_cons, List.map_nil, List.append_nil, List.cons_append, List.nil_append] at F C
 refine doc_ C fun t' => ?_
 refine wpAny_execs_cons ?_
 refine wpAny_If (wpAny_isTrue_Compare1 ?_)
 refine ld1 C F ?_
 refine getE rfl ?_
 refine ld0 C F ?_
 refine gA (pre := []) 1 rfl X hx F a rfl rfl ?_
 refine is_none (wpAny_truthy_bool ?_)
 refine wpAny_execs_nil ?_
 refine wpAny_execs_cons ?_
 refine Asg1 ?_
 refine ld1 C F ?_
 refine ld0 C F ?_
 refine sA (pre := []) 1 rfl X hx F a (by simp) fun h' o k a F => ?_
 dsimp only
 refine wpAny_execs_cons ?_
 refine Asg2 ?_
 refine wpAny_Constant_none ?_
 refine asgA ?_
 refine ld0 C F ?_
 refine sA (pre := []) 4 rfl X hx F a (by simp [put]) fun h' o k a F => ?_
 dsimp only
 refine asgA ?_
 refine ld0 C F ?_
 refine sA (pre := []) 5 rfl X hx F a (by simp [put]) fun h' o k a F => ?_
 dsimp only
 refine wpAny_execs_nil ?_
 exact endsN F ⟨rfl, o, (F.mt _ (.head _)).1, a⟩
end
end Mine
namespace Mine
open PySem PySem.W PyProof.Rows PySem.Calls PySem.Spec Builtin Builtin.ObjectAttr
abbrev dcO (es : List DictEntry) (n : Nat) : Obj := { cls := .type "dict", data := .dict es.toArray n }
abbrev bmO (id : String) (a : Addr) : Obj := { cls := .type "builtin_function_or_method", data := .fields #[.builtin id, .ref a] }
section
variable {es : List DictEntry} {n : Nat} {prog : Program} {w : World} {A : Around} {E : Value → Shared → Prop} {h : Heap} {g : Array GenState} {d : Drawn} {t : Nat} {os : OsState} {a : Addr} {o : Obj}
theorem slot_mg : Slot "method_descriptor" "__get__" "method_descriptor.__get__" :=
 .of (owner := "method_descriptor") (n := "__get__") (by rw [typeLookup_type, builtinLookup_eq_fast]; kernel_rfl) (by decide +kernel) (by decide +kernel) (by decide +kernel) (by first | exact .inl (by decide +kernel) | exact .inr (by decide +kernel)) (by rw [isSubtype_type]; kernel_rfl)
theorem md_set : typeLookup (.type "method_descriptor") "__set__" = pure none := by rw [typeLookup_type, builtinLookup_eq_fast]; kernel_rfl
theorem md_del : typeLookup (.type "method_descriptor") "__delete__" = pure none := by rw [typeLookup_type, builtinLookup_eq_fast]; kernel_rfl
theorem entry_mg : entryFor table "method_descriptor.__get__" = some Builtin.«method_descriptor.__get__» := entryFor_of_tree (by kernel_rfl)
theorem args_mg (a b c : Value) : argsOk "method_descriptor.__get__" ⟨[a, b, c], []⟩ := by unfold argsOk; kernel_rfl
theorem own_get : isSubtype (.type "dict") (.type (".".intercalate ("dict.get".cutAt '.').dropLast)) = pure true := by
 rw [isSubtype_type]; kernel_rfl
theorem dget_bind {R : Result → Shared → Prop} (hx : h.get? a = some (dcO es n)) (hq : R (.ok (.ret (.ref h.objs.size))) ⟨h.push (bmO "dict.get" a), g, d, t, os⟩) :
 codeAny (model prog w) A (.call (.builtin "method_descriptor.__get__") ⟨[.builtin "dict.get", .ref a, .type "dict"], []⟩) R ⟨h, g, d, t, os⟩ := by
 have hT : (⟨h, g, d, t, os⟩ : Shared).TypeIs (.ref a) "dict" := ⟨_, hx, rfl⟩
 have hT5 : (⟨h, g, d, t, os⟩ : Shared).TypeIs (.builtin "dict.get") "method_descriptor" := PySem.F.type_dict_get
 refine codeAny_call_builtin slot_mg.plain entry_mg (slot_mg.check _ _ _ _ _ _ _ _ hT5 (args_mg _ _ _) ?_)
 unfold Builtin.«method_descriptor.__get__»
 have f1 := own_get
 repeat (any_goals (first | assumption | wp_step))
theorem dget_entry {tk : Tok} {Q : Fin → Shared → Prop} (hx : h.get? a = some (dcO es n)) (hq : Q (.done (.ret (.ref h.objs.size))) ⟨h.push (bmO "dict.get" a), g, d, t, os⟩) :
 wpAny (model prog w) A (Builtin.«object.__getattribute__» ⟨[.ref a, .str "get" tk], []⟩) Q E ⟨h, g, d, t, os⟩ := by
 have hT : (⟨h, g, d, t, os⟩ : Shared).TypeIs (.ref a) "dict" := ⟨_, hx, rfl⟩
 have f4 := PySem.F.slot_dict_get.lookup
 have f5 := PySem.F.type_dict_get
 have f6 := slot_mg.lookup
 have f7 := md_set
 have f8 := md_del
 repeat (any_goals (first | assumption | with_reducible refine wpAny_loadPart_at hx ?_ | wp_step))
 refine dget_bind hx ?_
 repeat (any_goals (first | assumption | wp_step))
theorem dget_call {tk : Tok} {R : Result → Shared → Prop} (hx : h.get? a = some (dcO es n)) (hq : R (.ok (.ret (.ref h.objs.size))) ⟨h.push (bmO "dict.get" a), g, d, t, os⟩) :
 codeAny (model prog w) A (.call (.builtin "dict.__getattribute__") ⟨[.ref a, .str "get" tk], []⟩) R ⟨h, g, d, t, os⟩ :=
 codeAny_call_builtin PySem.F.slot_dict_getattribute.plain PySem.F.entry_dict_ga (PySem.F.slot_dict_getattribute.check _ _ _ _ _ _ _ _ (show (⟨h, g, d, t, os⟩ : Shared).TypeIs (.ref a) "dict" from ⟨_, hx, rfl⟩) (PySem.F.args_dict_getattribute_2 _ _) (dget_entry hx hq))
theorem attr_get {Q : Value → Shared → Prop} (hx : h.get? a = some (dcO es n)) (hq : Q (.ref h.objs.size) ⟨h.push (bmO "dict.get" a), g, d, t + 1, os⟩) :
 wpAny (model prog w) A (getAttr (.ref a) "get" true) Q E ⟨h, g, d, t, os⟩ := by
 have hT : (⟨h, g, d, t, os⟩ : Shared).TypeIs (.ref a) "dict" := ⟨_, hx, rfl⟩
 have f2 := PySem.F.slot_dict_getattribute.lookup
 have f3 := PySem.F.slot_dict_getattribute.bind (.ref a)
 unfold getAttr
 refine wpAny_bind (wpAny_mkText ?_)
 unfold getAttrBy
 refine wpAny_holding (wpAny_bind (wpAny_typeOf (T := "dict") ⟨_, hx, rfl⟩ ?_))
 repeat (any_goals (first | assumption | wp_step))
 refine dget_call hx ?_
 exact wpAny_pure hq
end
end Mine
namespace Mine
open PySem PySem.W PyProof.Rows PySem.Calls PySem.Spec Builtin Builtin.ObjectAttr
section
variable {M : Model} {A : Around} {E : Value → Shared → Prop} {s : Shared} {Q : Value → Shared → Prop}
end
section
variable {prog : Program} {w : World} {A : Around} {E : Value → Shared → Prop} {s : Shared}
theorem sub_dm : isSubtype (.type "dict") (.type "module") = pure false := by rw [isSubtype_type]; kernel_rfl
theorem sig_dget : Manifest.signature? "dict.get" = some ⟨.positional, "dict.get", "get", .self, [⟨"key", .posOnly, true⟩, ⟨"default", .posOnly, false⟩]⟩ := by
 rw [signature?_of (id := "dict.get") (n := ['t', 'e', 'g']) (o := ['t', 'c', 'i', 'd']) (by kernel_rfl) PySem.F.owner_dict]; kernel_rfl
theorem kind_dget : builtinKind "dict.get" = some .method := by kernel_rfl
theorem check_bget {d : Addr} {key dflt : Value} {Q : Unit → Shared → Prop} {es : List DictEntry} {n : Nat} (hdd : s.heap.get? d = some (dcO es n)) (hq : Q () s) :
 wpAny (model prog w) A (checkBoundCall "dict.get" ⟨[.ref d, key, dflt], []⟩) Q E s := by
 have hT : s.TypeIs (.ref d) "dict" := ⟨_, hdd, rfl⟩
 unfold checkBoundCall
 rw [sig_dget]
 dsimp only
 rw [kind_dget]
 dsimp only
 rw [if_neg (by decide)]
 refine wpAny_bind (wpAny_isInstance hT sub_dm ?_)
 rw [if_neg (by decide +kernel)]
 refine wpAny_bind ?_
 unfold isType loadHead
 refine wpAny_bind (wpAny_loadPart hdd ?_)
 refine wpAny_pure ?_
 rw [if_neg (by simp)]
 refine wpAny_bind (wpAny_typeOf hT ?_)
 refine wpAny_of_eq (a := ()) ?_ hq
 kernel_rfl
theorem call_bget {m d : Addr} {key dflt : Value} {Q : Value → Shared → Prop} (ho : s.heap.get? m = some (bmO "dict.get" d)) {es : List DictEntry} {n : Nat} (hdd : s.heap.get? d = some (dcO es n))
 (hq : ∀ A', wpAny (model prog w) A' (Builtin.«dict.get» ⟨[.ref d, key, dflt], []⟩) (fun f s' => match f with | .done (.ret v) => Q v s' | _ => False) E s) : wpAny (model prog w) A (call (.ref m) [key, dflt]) Q E s := by
 refine wpAny_call (codeAny_of_tree ?_)
 show wpAny _ _ (callAny (.ref m) _) _ _ _
 unfold callAny
 refine wpAny_bind (wpAny_load ho ?_)
 dsimp only
 rw [if_pos (by decide)]
 show wpAny _ _ (do checkBoundCall "dict.get" ⟨[.ref d, key, dflt], []⟩; again (.builtin "dict.get" ⟨[.ref d, key, dflt], []⟩)) _ _ _
 refine wpAny_bind (check_bget hdd ?_)
 refine wpAny_pure ⟨rfl, codeAny_builtin PySem.F.entry_dict_get (wpAny_mono (hq _) (fun f s' z => ?_) fun e s' z => z)⟩
 rcases f with (_ | _ | _ | _) | _ <;> first | exact z | exact z.elim
end
end Mine
namespace Mine
open PySem PySem.W PyProof.Rows PySem.Calls PySem.Spec Builtin Builtin.ObjectAttr
section
variable {led : Bool} {prog : Program} {w : World} {A : Around} {E : Value → Shared → Prop} {h : Heap} {g : Array GenState} {d : Drawn} {t : Nat} {os : OsState} {a : Addr}
theorem own_con : isSubtype (.type "set") (.type (".".intercalate ("set.__contains__".cutAt '.').dropLast)) = pure true := by
 rw [isSubtype_type]; kernel_rfl
theorem scon_bind {R : Result → Shared → Prop} (hx : h.get? a = some (setO0 led)) (hq : R (.ok (.ret (.ref h.objs.size))) ⟨h.push (bmO "set.__contains__" a), g, d, t, os⟩) :
 codeAny (model prog w) A (.call (.builtin "method_descriptor.__get__") ⟨[.builtin "set.__contains__", .ref a, .type "set"], []⟩) R ⟨h, g, d, t, os⟩ := by
 have hT : (⟨h, g, d, t, os⟩ : Shared).TypeIs (.ref a) "set" := ⟨_, hx, rfl⟩
 have hT5 : (⟨h, g, d, t, os⟩ : Shared).TypeIs (.builtin "set.__contains__") "method_descriptor" := PySem.F.type_set_contains
 refine codeAny_call_builtin slot_mg.plain entry_mg (slot_mg.check _ _ _ _ _ _ _ _ hT5 (args_mg _ _ _) ?_)
 unfold Builtin.«method_descriptor.__get__»
 have f1 := own_con
 repeat (any_goals (first | assumption | wp_step))
theorem scon_entry {tk : Tok} {Q : Fin → Shared → Prop} (hx : h.get? a = some (setO0 led)) (hq : Q (.done (.ret (.ref h.objs.size))) ⟨h.push (bmO "set.__contains__" a), g, d, t, os⟩) :
 wpAny (model prog w) A (Builtin.«object.__getattribute__» ⟨[.ref a, .str "__contains__" tk], []⟩) Q E ⟨h, g, d, t, os⟩ := by
 have hT : (⟨h, g, d, t, os⟩ : Shared).TypeIs (.ref a) "set" := ⟨_, hx, rfl⟩
 have f4 := PySem.F.slot_set_contains.lookup
 have f5 := PySem.F.type_set_contains
 have f6 := slot_mg.lookup
 have f7 := md_set
 have f8 := md_del
 repeat (any_goals (first | assumption | with_reducible refine wpAny_loadPart_at hx ?_ | wp_step))
 refine scon_bind hx ?_
 repeat (any_goals (first | assumption | wp_step))
theorem scon_call {tk : Tok} {R : Result → Shared → Prop} (hx : h.get? a = some (setO0 led)) (hq : R (.ok (.ret (.ref h.objs.size))) ⟨h.push (bmO "set.__contains__" a), g, d, t, os⟩) :
 codeAny (model prog w) A (.call (.builtin "set.__getattribute__") ⟨[.ref a, .str "__contains__" tk], []⟩) R ⟨h, g, d, t, os⟩ :=
 codeAny_call_builtin PySem.F.slot_set_getattribute.plain PySem.F.entry_set_ga (PySem.F.slot_set_getattribute.check _ _ _ _ _ _ _ _ (show (⟨h, g, d, t, os⟩ : Shared).TypeIs (.ref a) "set" from ⟨_, hx, rfl⟩) (PySem.F.args_set_getattribute_2 _ _) (scon_entry hx hq))
theorem attr_con {Q : Value → Shared → Prop} (hx : h.get? a = some (setO0 led)) (hq : Q (.ref h.objs.size) ⟨h.push (bmO "set.__contains__" a), g, d, t + 1, os⟩) :
 wpAny (model prog w) A (getAttr (.ref a) "__contains__" true) Q E ⟨h, g, d, t, os⟩ := by
 have hT : (⟨h, g, d, t, os⟩ : Shared).TypeIs (.ref a) "set" := ⟨_, hx, rfl⟩
 have f2 := PySem.F.slot_set_getattribute.lookup
 have f3 := PySem.F.slot_set_getattribute.bind (.ref a)
 unfold getAttr
 refine wpAny_bind (wpAny_mkText ?_)
 unfold getAttrBy
 refine wpAny_holding (wpAny_bind (wpAny_typeOf (T := "set") ⟨_, hx, rfl⟩ ?_))
 repeat (any_goals (first | assumption | wp_step))
 refine scon_call hx ?_
 exact wpAny_pure hq
end
section
variable {led : Bool} {prog : Program} {w : World} {A : Around} {E : Value → Shared → Prop} {s : Shared}
theorem sub_sm : isSubtype (.type "set") (.type "module") = pure false := by rw [isSubtype_type]; kernel_rfl
theorem sig_scon : Manifest.signature? "set.__contains__" = some ⟨.oneArg, "set.__contains__", "__contains__", .self, [⟨"object", .posOnly, true⟩]⟩ := by
 rw [signature?_of (id := "set.__contains__") (n := ['_', '_', 's', 'n', 'i', 'a', 't', 'n', 'o', 'c', '_', '_']) (o := ['t', 'e', 's']) (by kernel_rfl) PySem.F.owner_set]; kernel_rfl
theorem kind_scon : builtinKind "set.__contains__" = some .method := by kernel_rfl
theorem check_scon {d : Addr} {key : Value} {Q : Unit → Shared → Prop} (hdd : s.heap.get? d = some (setO0 led)) (hq : Q () s) :
 wpAny (model prog w) A (checkBoundCall "set.__contains__" ⟨[.ref d, key], []⟩) Q E s := by
 have hT : s.TypeIs (.ref d) "set" := ⟨_, hdd, rfl⟩
 unfold checkBoundCall
 rw [sig_scon]
 dsimp only
 rw [kind_scon]
 dsimp only
 rw [if_neg (by decide)]
 refine wpAny_bind (wpAny_isInstance hT sub_sm ?_)
 rw [if_neg (by decide +kernel)]
 refine wpAny_bind ?_
 unfold isType loadHead
 refine wpAny_bind (wpAny_loadPart hdd ?_)
 refine wpAny_pure ?_
 rw [if_neg (by simp)]
 refine wpAny_bind (wpAny_typeOf hT ?_)
 refine wpAny_of_eq (a := ()) ?_ hq
 kernel_rfl
theorem call_scon {m d : Addr} {key : Value} {Q : Value → Shared → Prop} (ho : s.heap.get? m = some (bmO "set.__contains__" d)) (hdd : s.heap.get? d = some (setO0 led))
 (hq : ∀ A', wpAny (model prog w) A' (Builtin.«frozenset.__contains__» ⟨[.ref d, key], []⟩) (fun f s' => match f with | .done (.ret v) => Q v s' | _ => False) E s) : wpAny (model prog w) A (call (.ref m) [key]) Q E s := by
 refine wpAny_call (codeAny_of_tree ?_)
 show wpAny _ _ (callAny (.ref m) _) _ _ _
 unfold callAny
 refine wpAny_bind (wpAny_load ho ?_)
 dsimp only
 rw [if_pos (by decide)]
 show wpAny _ _ (do checkBoundCall "set.__contains__" ⟨[.ref d, key], []⟩; again (.builtin "set.__contains__" ⟨[.ref d, key], []⟩)) _ _ _
 refine wpAny_bind (check_scon hdd ?_)
 refine wpAny_pure ⟨Code.quiet_builtin _ (by decide +kernel), codeAny_builtin entry_set_contains (wpAny_mono (hq _) (fun f s' z => ?_) fun e s' z => z)⟩
 rcases f with (_ | _ | _ | _) | _ <;> first | exact z | exact z.elim
theorem scon_run {d : Addr} {x : Str} {t : Tok} {Q : PySem.Fin → Shared → Prop} (hdd : s.heap.get? d = some (setO0 led)) (hq : Q (.done (.ret (.bool false))) { s with toks := s.toks + 1 }) :
 wpAny (model prog w) A (Builtin.«frozenset.__contains__» ⟨[.ref d, .str x t], []⟩) Q E s := by
 have hS : s.heap.SetOf (strKind prog w) d (fun _ => false) 0 := ⟨_, #[], 0, _, hdd, ⟨rfl, rfl, rfl⟩, rfl, fun e he => by simp at he, fun k => by simp, by decide, by rfl, rfl⟩
 have hkey : (strKind prog w).is x (.str x t) = true := by show Value.isStrOf x (.str x t) = true; simp [Value.isStrOf]
 unfold Builtin.«frozenset.__contains__» Builtin.Frozenset.oneOther
 simp only [List.isEmpty_nil, bind_assoc]
 unfold Builtin.Frozenset.addrOf Builtin.Frozenset.withSetAsKey setContains
 refine wpAny_bind (wpAny_pure ?_)
 try dsimp only
 refine wpAny_bind (wpAny_pure ?_)
 try dsimp only
 refine wpAny_bind (wpAny_tryCatch ?_)
 refine wpAny_holding ?_
 refine wpAny_bind ((strKind prog w).pyHash hkey ?_)
 refine wpAny_bind (wpAny_setFind_of (s := { s with toks := s.toks + 1 }) hkey (by rfl) hS fun r hr => ?_)
 refine wpAny_pure ?_
 show wpAny _ _ (ret (Value.bool r.isSome)) _ _ _
 rw [hr]
 exact wpAny_pure hq
theorem junk {m d : Addr} {x : Str} {t : Tok} {Q : Value → Shared → Prop} (ho : s.heap.get? m = some (bmO "set.__contains__" d)) (hdd : s.heap.get? d = some (setO0 led)) (hq : Q (.bool false) { s with toks := s.toks + 1 }) :
 wpAny (model prog w) A (call (.ref m) [.str x t]) Q E s := call_scon ho hdd fun A' => scon_run hdd hq
end
end Mine
namespace Mine
open PySem PySem.W PyProof.Rows PySem.Calls PySem.Spec Builtin Builtin.ObjectAttr
section
variable {prog : Program} {w : World} {A : Around} {E : Value → Shared → Prop} {s : Shared} {K : Type} [DecidableEq K] {knd : KeyKind prog w K} {d : Addr} {es : List DictEntry} {n : Nat} {k : K} {key v : Value}
theorem dc_type (ho : s.heap.get? d = some (dcO es n)) : s.TypeIs (.ref d) "dict" := ⟨_, ho, rfl⟩
theorem dc_map (ho : s.heap.get? d = some (dcO es n)) (hk : KeysOf knd es.toArray) : s.heap.MapOf knd d (fun k => findBy knd.is es.toArray k) := ⟨_, es.toArray, n, ho, ⟨rfl, rfl, rfl⟩, rfl, hk, fun _ => rfl⟩
def Lacks (knd : KeyKind prog w K) (es : List DictEntry) (k : K) : Prop := ∀ e ∈ es, knd.is k e.key = false
theorem Lacks.find (h : Lacks knd es k) : (es.toArray.findIdx? fun e => knd.is k e.key) = none := by
 rw [List.findIdx?_toArray, List.findIdx?_eq_none_iff]
 exact h
theorem set_new {Q : Unit → Shared → Prop} (hkey : knd.is k key = true) (ho : s.heap.get? d = some (dcO es n)) (hk : KeysOf knd es.toArray) (hn : Lacks knd es k) (hz : es.length ≤ 1000)
 (hq : ∀ h', Heap.SameBut d s.heap h' → h'.get? d = some (dcO (es ++ [⟨knd.hash k, key, v⟩]) (n + 1)) → Q () { s with heap := h', toks := s.toks + 1 }) :
 wpAny (model prog w) A (dictSet d key v) Q E s := by
 unfold dictSet
 try with_reducible refine wpAny_holding ?_
 refine wpAny_bind (knd.pyHash hkey ?_)
 unfold dictSetHashed
 try with_reducible refine wpAny_holding ?_
 refine wpAny_bind (wpAny_dictFind_of (s := { s with toks := s.toks + 1 }) hkey ho rfl hk ?_)
 rw [hn.find]
 refine wpAny_bind (wpAny_rule (wpAny_updateDictKeys (hz := by rw [sizeLine_eq, List.size_toArray]; omega) (s := { s with toks := s.toks + 1 }) ho rfl (hq _ (Heap.SameBut.update ..) ?_)))
 rw [Heap.get?_update_self _ ho rfl]
 simp [Obj.mapDictKeys]
theorem setdef_new {Q : Value → Shared → Prop} (hkey : knd.is k key = true) (ho : s.heap.get? d = some (dcO es n)) (hk : KeysOf knd es.toArray) (hn : Lacks knd es k) (hz : es.length ≤ 1000)
 (hq : ∀ h', Heap.SameBut d s.heap h' → h'.get? d = some (dcO (es ++ [⟨knd.hash k, key, v⟩]) (n + 1)) → Q v { s with heap := h', toks := s.toks + 1 }) :
 wpAny (model prog w) A (dictSetDefault d key v) Q E s := by
 unfold dictSetDefault
 try with_reducible refine wpAny_holding ?_
 refine wpAny_bind (knd.pyHash hkey ?_)
 refine wpAny_bind (wpAny_dictFind_of (s := { s with toks := s.toks + 1 }) hkey ho rfl hk ?_)
 rw [hn.find]
 refine wpAny_bind (wpAny_rule (wpAny_bind (wpAny_updateDictKeys (hz := by rw [sizeLine_eq, List.size_toArray]; omega) (s := { s with toks := s.toks + 1 }) ho rfl (wpAny_pure (hq _ (Heap.SameBut.update ..) ?_)))))
 rw [Heap.get?_update_self _ ho rfl]
 simp [Obj.mapDictKeys]
theorem setItem_new {Q : Unit → Shared → Prop} (hkey : knd.is k key = true) (ho : s.heap.get? d = some (dcO es n)) (hk : KeysOf knd es.toArray) (hn : Lacks knd es k) (hz : es.length ≤ 1000)
 (hq : ∀ h', Heap.SameBut d s.heap h' → h'.get? d = some (dcO (es ++ [⟨knd.hash k, key, v⟩]) (n + 1)) → Q () { s with heap := h', toks := s.toks + 1 }) :
 wpAny (model prog w) A (setItem (.ref d) key v) Q E s := by
 have hT := dc_type ho
 unfold setItem
 try with_reducible refine wpAny_holding ?_
 refine wpAny_bind (wpAny_sequenceKey hT (by decide) ?_)
 refine wpAny_bind (wpAny_callSpecial?_slot (name := Str.ofString "__setitem__") hT slot_dict_setitem
  (wpAny_call_entry slot_dict_setitem hT entry_dict_setitem ?_ (args_dict_setitem _ _ _)))
 show wpAny _ _ (Builtin.Dict.notOrdered "__setitem__" ⟨[.ref d, key, v], []⟩ >>= _) _ _ s
 refine wpAny_bind (wpAny_notOrdered_dict hT ?_)
 show wpAny _ _ (dictSet d key v >>= _) _ _ s
 exact wpAny_bind (set_new hkey ho hk hn hz fun h' hs' hm' => wpAny_pure ⟨.none, rfl, wpAny_pure (hq h' hs' hm')⟩)
theorem M_setdef {pos : Pos} {x y : Sem Value} {Q : Value → Shared → Prop} (ho : s.heap.get? d = some (dcO es n)) (hd : d ≠ sysModules)
 (h : wpAny (model prog w) A x (fun key s₁ => wpAny (model prog w) A y (fun v s₂ => ∃ k es n, knd.is k key = true ∧ s₂.heap.get? d = some (dcO es n) ∧ KeysOf knd es.toArray ∧ Lacks knd es k ∧ es.length ≤ 1000 ∧
  ∀ h', Heap.SameBut d s₂.heap h' → h'.get? d = some (dcO (es ++ [⟨knd.hash k, key, v⟩]) (n + 1)) → Q v { s₂ with heap := h', toks := s₂.toks + 1 }) E s₁) E s) :
 MethodOnS prog w A E "setdefault" (.ref d) pos [(false, x), (false, y)] Q s := by
 refine ⟨"dict", "dict.setdefault", PySem.F.plainAttrs_dict, PySem.F.slot_dict_setdefault, PySem.F.type_dict_setdefault, dc_type ho, fun a e => by cases e; exact ⟨_, ho, rfl⟩, ?_⟩
 refine method2_meetsIn PySem.F.slot_dict_setdefault PySem.F.entry_dict_setdefault (wpAny_mono h (fun key s₁ h₁ => wpAny_mono h₁ (fun v s₂ h₂ => ?_) fun _ _ e => e) fun _ _ e => e)
 obtain ⟨k, es, n, hkey, ho, hk, hn, hz, hq⟩ := h₂
 refine ⟨dc_type ho, PySem.F.args_dict_setdefault_3 _ _ _, (fun A R s => s = s₂ ∧ R = wants Q E), MeetsIn.of_wp fun A R s ⟨e1, e2⟩ => ?_, rfl, rfl⟩
 subst e1 e2
 have hd' : (d == sysModules) = false := by simpa using hd
 unfold Builtin.«dict.setdefault»
 refine wpAny_bind ?_
 unfold Builtin.Dict.keyAndDefault
 refine wpAny_bind (wpAny_notOrdered_dict (dc_type ho) ?_)
 show wpAny _ _ (pure (d, key, some v)) _ _ s
 refine wpAny_pure ?_
 show wpAny _ _ (if (d == sysModules) = true then _ else (dictSetDefault d key v >>= _)) _ _ s
 rw [if_neg (by rw [hd']; exact Bool.false_ne_true)]
 exact wpAny_bind (setdef_new hkey ho hk hn hz fun h' a b => wpAny_pure ⟨v, rfl, hq h' a b⟩)
theorem dget_run {dflt : Value} {Q : PySem.Fin → Shared → Prop} (hd : d ≠ sysModules) (hkey : knd.is k key = true) (ho : s.heap.get? d = some (dcO es n)) (hk : KeysOf knd es.toArray)
 (hq : Q (.done (.ret ((findBy knd.is es.toArray k).getD dflt))) { s with toks := s.toks + 1 }) :
 wpAny (model prog w) A (Builtin.«dict.get» ⟨[.ref d, key, dflt], []⟩) Q E s := by
 have hd' : (d == sysModules) = false := by simpa using hd
 have hm := dc_map (knd := knd) ho hk
 show wpAny _ _ (dictGet d key >>= _) _ _ s
 refine wpAny_bind (wpAny_dictGet_of hkey hm ?_)
 cases hf : findBy knd.is es.toArray k with
 | some v =>
  rw [hf] at hq
  exact wpAny_pure hq
 | none =>
  rw [hf] at hq
  show wpAny _ _ (Builtin.Dict.missed d key >>= _) _ _ _
  exact wpAny_bind (wpAny_missed_other hd' (wpAny_pure hq))
theorem M_get {pos : Pos} {x y : Sem Value} {Q : Value → Shared → Prop} (ho : s.heap.get? d = some (dcO es n)) (hd : d ≠ sysModules)
 (h : wpAny (model prog w) A x (fun key s₁ => wpAny (model prog w) A y (fun v s₂ => ∃ k es n, knd.is k key = true ∧ s₂.heap.get? d = some (dcO es n) ∧ KeysOf knd es.toArray ∧
  Q ((findBy knd.is es.toArray k).getD v) { s₂ with toks := s₂.toks + 1 }) E s₁) E s) :
 MethodOnS prog w A E "get" (.ref d) pos [(false, x), (false, y)] Q s := by
 refine ⟨"dict", "dict.get", PySem.F.plainAttrs_dict, PySem.F.slot_dict_get, PySem.F.type_dict_get, dc_type ho, fun a e => by cases e; exact ⟨_, ho, rfl⟩, ?_⟩
 refine wpAny_dict_get2 (knd := knd) (by simpa using hd) (wpAny_mono h (fun key s₁ h₁ => wpAny_mono h₁ (fun v s₂ h₂ => ?_) fun _ _ e => e) fun _ _ e => e)
 obtain ⟨k, es, n, hkey, ho, hk, hq⟩ := h₂
 exact ⟨k, _, hkey, dc_map ho hk, hq⟩
theorem bget {m : Addr} {dflt : Value} {Q : Value → Shared → Prop} (hm : s.heap.get? m = some (bmO "dict.get" d)) (hd : d ≠ sysModules) (hkey : knd.is k key = true) (ho : s.heap.get? d = some (dcO es n)) (hk : KeysOf knd es.toArray)
 (hq : Q ((findBy knd.is es.toArray k).getD dflt) { s with toks := s.toks + 1 }) : wpAny (model prog w) A (call (.ref m) [key, dflt]) Q E s := call_bget hm ho fun A' => dget_run hd hkey ho hk hq
end
end Mine
namespace Mine
open PySem PySem.W PyProof.Rows PySem.Calls PySem.Spec
def B2j (w : World) (g : Heap) (l : List (Str × Tok)) (es : List DictEntry) : Prop :=
 es.length = l.length ∧ ∀ (i : Nat) (x : Str) (t : Tok), l[i]? = some (x, t) → ∃ r k t', es[i]? = some ⟨hashStr w x, .str x t, .ref r⟩ ∧ g.get? r = some (lstObj [.int (i : Int) t'] k)
theorem B2j.up {w : World} {g g' : Heap} (k : Le g g') {l : List (Str × Tok)} {es : List DictEntry} (h : B2j w g l es) : B2j w g' l es :=
 ⟨h.1, fun i x t e => let ⟨r, q, t', a, b⟩ := h.2 i x t e; ⟨r, q, t', a, k _ _ b⟩⟩
theorem B2j.at' {w : World} {g : Heap} {l : List (Str × Tok)} {es : List DictEntry} (h : B2j w g l es) {e : DictEntry} (he : e ∈ es) : ∃ (i : Nat) (x : Str) (t : Tok) (r : Addr), l[i]? = some (x, t) ∧ es[i]? = some e ∧ e = ⟨hashStr w x, .str x t, .ref r⟩ := by
 obtain ⟨i, hi⟩ := List.mem_iff_getElem?.mp he
 have hl : i < l.length := by have := (List.getElem?_eq_some_iff.mp hi).1; rw [h.1] at this; exact this
 obtain ⟨r, k, t', a, b⟩ := h.2 i l[i].1 l[i].2 (by rw [List.getElem?_eq_getElem hl])
 rw [hi] at a
 exact ⟨i, l[i].1, l[i].2, r, by rw [List.getElem?_eq_getElem hl], hi, Option.some.inj a⟩
theorem B2j.keys {prog : Program} {w : World} {g : Heap} {l : List (Str × Tok)} {es : List DictEntry} (h : B2j w g l es) : KeysOf (strKind prog w) es.toArray := by
 intro e he
 rw [List.mem_toArray] at he
 obtain ⟨i, x, t, r, a, b, rfl⟩ := h.at' he
 exact ⟨x, by show Value.isStrOf x (.str x t) = true; simp [Value.isStrOf], rfl⟩
theorem B2j.lacks {prog : Program} {w : World} {g : Heap} {l : List (Str × Tok)} {es : List DictEntry} (h : B2j w g l es) {x : Str} (hx : x ∉ l.map (·.1)) : Lacks (strKind prog w) es x := by
 intro e he
 obtain ⟨i, y, t, r, a, b, rfl⟩ := h.at' he
 show Value.isStrOf x (.str y t) = false
 have : y ≠ x := fun q => hx (by rw [← q]; exact List.mem_map.mpr ⟨_, List.mem_of_getElem? a, rfl⟩)
 simp [Value.isStrOf, this]
theorem B2j.nil {w : World} {g : Heap} : B2j w g [] [] := ⟨rfl, fun i x t e => by simp at e⟩
theorem B2j.snoc {w : World} {g : Heap} {l : List (Str × Tok)} {es : List DictEntry} (h : B2j w g l es) {x : Str} {t t' : Tok} {r k : Nat} (hr : g.get? r = some (lstObj [.int (l.length : Int) t'] k)) : B2j w g (l ++ [(x, t)]) (es ++ [⟨hashStr w x, .str x t, .ref r⟩]) := by
 refine ⟨by simp [h.1], fun i y u e => ?_⟩
 rcases Nat.lt_or_ge i l.length with q | q
 · rw [List.getElem?_append_left q] at e
   obtain ⟨r', k', t'', a, b⟩ := h.2 i y u e
   exact ⟨r', k', t'', by rw [List.getElem?_append_left (by rw [h.1]; exact q)]; exact a, b⟩
 · rw [List.getElem?_append_right q] at e
   have : i = l.length := by
    have := (List.getElem?_eq_some_iff.mp e).1
    simp at this; omega
   subst this
   simp at e
   obtain ⟨rfl, rfl⟩ := e
   exact ⟨r, k, t', by rw [List.getElem?_append_right (by rw [h.1]; exact Nat.le_refl _), h.1]; simp, hr⟩
section
variable {w : World} {A : Around} {s : Shared} {g : Heap} {n : Nat} {x dx : Addr} {od : Obj}
def nChain : List Str := ["self", "b", "b2j", "i", "elt", "indices", "junk", "isjunk", "popular", "n", "ntest", "idxs"]
theorem chain_gives (X : Sm g) (kg : Le g s.heap) (hA : Ok A (n + 2)) (hx : g.get? x = some (instO dx)) (hd : s.heap.get? dx = some od) (hg : g.get? dx = none) {av : Value} {lb kb : Nat} (a : AtO od [.none, av, .ref lb, .bool true, .none, .none, .none])
 (l : List (Str × Tok)) (hl : g.get? lb = some (lstObj (strValues l) kb)) (hnd : (l.map (·.1)).Nodup) (hlen : l.length < 200) :
 Gives pw w A (.call (.ref 188) ⟨[.ref x], []⟩) s [dx] g (fun g' h' v => v = .none ∧ ∃ o db dj dp es n led, h'.get? dx = some o ∧ AtO o [.none, av, .ref lb, .bool true, .none, .none, .none, .ref db, .ref dj, .ref dp] ∧
  g'.get? db = some (dcO es n) ∧ db ≠ sysModules ∧ B2j w g' l es ∧ g'.get? dj = some (setO0 led)) := by
 refine Gives.enter [.ref x] ["self"] ["b", "b2j", "i", "elt", "indices", "junk", "isjunk", "popular", "n", "ntest", "idxs"] ["enumerate", "set", "len"] [(dx, od)] (kg _ _ (X.fnAt 4 rfl)) rfl (X.lim.keeps kg) ((X.cdAt 4 rfl).keeps kg) hA rfl (BindsTo.of_eq rfl) rfl (by decide +kernel) kg (fun p hp => by rw [List.mem_singleton.mp hp]; exact ⟨hd, hg, .head _⟩) (by simp) fun h₁ env A' t' hA' C F => ?_
 dsimp only [List.map_cons, List.map_nil, List.append_nil, List.cons_append, List.nil_append] at F C
 refine wpAny_execs_cons ?_
 refine wpAny_Assign_Name ?_
 refine getE rfl ?_
 refine ld0 C F ?_
 refine gA (pre := []) 2 rfl X hx F a rfl rfl ?_
 refine st1 C F fun h' F => ?_
 dsimp only
 refine wpAny_execs_cons ?_
 refine Asg2 ?_
 refine wpAny_Dict_empty ?_
 have hlow : s.heap.objs.size ≤ h'.objs.size := F.lowSz
 have F := F.own emptyDict
 generalize h'.objs.size = db at F hlow ⊢
 have hbig : 428 < s.heap.objs.size := Heap.lt_size (kg _ _ (X.fnAt 25 rfl))
 have hdbs : db ≠ sysModules := fun e => by
  have h1 : s.heap.objs.size ≤ 1 := Nat.le_trans hlow (Nat.le_of_eq e)
  omega
 refine asgA ?_
 refine ld0 C F ?_
 refine sA (pre := [_]) 7 rfl X hx F a (by simp) fun h' o k a F => ?_
 dsimp only [List.cons_append, List.nil_append] at F
 dsimp only
 refine asgN ?_
 refine st2 C F fun h' F => ?_
 dsimp only
 refine wpAny_execs_cons ?_
 refine For_ ?_
 refine C1 (N_enumerate C X.toStat F.keep (.head _) ?_)
 refine ld1 C F ⟨trivial, ?_⟩
 refine each_enum (fun i g' vs' mu' => Sm g' ∧ ∃ es u1 u2 u3, B2j w g' (l.take i) es ∧ vs' = [some (.ref x), some (.ref lb), some (.ref db), u1, u2, u3, none, none, none, none, none, none] ∧ mu' = [(db, dcO es i), (dx, o)]) hA'.handled F hl ⟨X, [], none, none, none, .nil, rfl, rfl⟩ ?_ ?_
 · rintro i v tv g' g'' vs' mu' e it oe oi h tk hi kg' ⟨X', es, u1, u2, u3, hB, rfl, rfl⟩ kg'' F
   obtain ⟨⟨c, tc⟩, hc, rfl⟩ : ∃ p : Str × Tok, l[i]? = some p ∧ Value.str p.1 p.2 = v := by
    rw [strValues, List.getElem?_map] at hi
    obtain ⟨p, h1, h2⟩ := Option.map_eq_some_iff.mp hi
    exact ⟨p, h1, h2⟩
   have hil : i < l.length := (List.getElem?_eq_some_iff.mp hc).1
   have hlx : c ∉ (l.take i).map (·.1) := by
    intro hm
    obtain ⟨p, h1, h2⟩ := List.mem_map.mp hm
    obtain ⟨j, hj⟩ := List.mem_iff_getElem?.mp h1
    have hji : j < i := by have := (List.getElem?_eq_some_iff.mp hj).1; rw [List.length_take] at this; omega
    rw [List.getElem?_take, if_pos hji] at hj
    have e1 : (l.map (·.1))[j]? = some c := by rw [List.getElem?_map, hj]; simp [h2]
    have e2 : (l.map (·.1))[i]? = some c := by rw [List.getElem?_map, hc]; rfl
    have := (List.getElem?_inj (by simp; omega) hnd).mp (e1.trans e2.symm)
    omega
   refine assignInOrder_cons (assign_Name (st3 C F fun h' F => assignInOrder_cons (assign_Name (st4 C F fun h' F => assignInOrder_nil ?_))))
   dsimp only
   refine wpAny_execs_cons ?_
   refine wpAny_Assign_Name ?_
   refine Call_method2 rfl rfl rfl ?_
   refine ld2 C F ?_
   refine M_setdef (knd := strKind pw w) (es := es) (n := i) (F.mt (db, dcO es i) (by simp)).1 hdbs ?_
   refine ld4 C F ?_
   refine lstE (sp0 ?_)
   refine newOwn F fun r h' F hr => ?_
   refine ⟨c, es, i, by show Value.isStrOf c (.str c tc) = true; simp [Value.isStrOf], (F.mt (db, dcO es i) (by simp)).1, (hB.up kg'').keys, (hB.up kg'').lacks hlx, by rw [hB.1, List.length_take]; omega, fun h' hs he => ?_⟩
   have F := F.turn (pre := [(r, lstObj [] 0), (e, oe), (it, oi)]) (post := [(dx, o)]) rfl hs he
   dsimp only [List.cons_append, List.nil_append] at F
   refine st5 C F fun h' F => ?_
   dsimp only
   refine wpAny_execs_cons ?_
   refine wpAny_Expr ?_ C.inter
   refine appS (h₀ := s.heap) (xt := [dx]) (g₀ := g) (L := env.locals) (N := nChain) (a := r) (xs := []) (j := 0) (pre := []) (post := [(e, oe), (it, oi), (db, dcO (es ++ [⟨hashStr w c, .str c tc, .ref r⟩]) (i + 1)), (dx, o)]) (by simp) ?_
   refine ld5 C F ⟨rfl, ⟨_, (F.mt (r, _) (.head _)).1, rfl, rfl⟩, ?_⟩
   refine ld3 C F ?_
   refine ⟨g'', _, F, fun h' F => ?_⟩
   obtain ⟨g₃, k3, er, F⟩ := F.freeze (pre := []) rfl hr
   dsimp only [List.cons_append, List.nil_append] at F
   refine wpAny_execs_nil ?_
   refine turnE_next k3 F ⟨(X'.up kg'').up k3, _, _, _, _, ?_, rfl, rfl⟩
   have hll : (l.take i).length = i := by rw [List.length_take]; omega
   have := ((hB.up kg'').up k3).snoc (x := c) (t := tc) (t' := tv) (r := r) (k := 1) (by rw [hll]; exact er)
   rw [List.take_add_one, hc]
   exact this
 · rintro g₂ vs' mu' h tk kg₂ ⟨X₂, es, u1, u2, u3, hB, rfl, rfl⟩ F
   have esl : (strValues l).length = l.length := by simp [strValues]
   rw [esl] at F
   rw [esl, List.take_length] at hB
   dsimp only
   have X := X₂
   have hx := kg₂ _ _ hx
   have a₀ := a
   obtain ⟨g₃, k3, edb, F⟩ := F.freeze (pre := []) (post := [(dx, o)]) rfl hlow
   dsimp only [List.nil_append] at F
   have X := X₂.up k3
   have hx := k3 _ _ hx
   refine wpAny_execs_cons ?_
   refine Asg2 ?_
   refine C0 (N_set C X.toStat F.keep (.tail _ (.head _)) ⟨trivial, ?_⟩)
   refine call_set_0 fun led => ?_
   obtain ⟨g₄, k4, edj, F⟩ := F.made (setO0 led)
   have X := X.up k4
   have hx := k4 _ _ hx
   refine asgA ?_
   refine ld0 C F ?_
   refine sA (pre := []) (post := []) 8 rfl X hx F a (by simp [put]) fun h' o1 k a F => ?_
   dsimp only [List.nil_append] at F
   refine asgN ?_
   refine st6 C F fun h' F => ?_
   dsimp only
   refine wpAny_execs_cons ?_
   refine wpAny_Assign_Name ?_
   refine getE rfl ?_
   refine ld0 C F ?_
   refine gA (pre := []) 0 rfl X hx F a rfl rfl ?_
   refine st7 C F fun h' F => ?_
   dsimp only
   refine wpAny_execs_cons ?_
   refine wpAny_If (isTrue_plain (ld7 C F (truthy_none ?_)))
   refine wpAny_execs_nil ?_
   refine wpAny_execs_cons ?_
   refine Asg2 ?_
   refine C0 (N_set C X.toStat F.keep (.tail _ (.head _)) ⟨trivial, ?_⟩)
   refine call_set_0 fun led2 => ?_
   obtain ⟨g₅, k5, edp, F⟩ := F.made (setO0 led2)
   have X := X.up k5
   have hx := k5 _ _ hx
   refine asgA ?_
   refine ld0 C F ?_
   refine sA (pre := []) (post := []) 9 rfl X hx F a (by simp [put]) fun h' o2 k a F => ?_
   dsimp only [List.nil_append] at F
   refine asgN ?_
   refine st8 C F fun h' F => ?_
   dsimp only
   refine wpAny_execs_cons ?_
   refine wpAny_Assign_Name ?_
   refine C1 (N_len C X.toStat F.keep (.tail _ (.tail _ (.head _))) (ld1 C F ⟨trivial, ?_⟩))
   refine lenL F.keep (k5 _ _ (k4 _ _ (k3 _ _ (kg₂ _ _ hl)))) (by simp [strValues]; omega) fun t t' => ?_
   refine st9 C F fun h' F => ?_
   dsimp only
   refine wpAny_execs_cons ?_
   refine wpAny_If (isTrue_and (isTrue_plain ?_))
   refine getE rfl ?_
   refine ld0 C F ?_
   refine gA (pre := []) 3 rfl X hx F a rfl rfl ?_
   refine wpAny_truthy_bool ?_
   dsimp only
   refine isTrue_and (wpAny_isTrue_Compare1 (ld9 C F (wpAny_Constant_int (P.ge_int (wpAny_truthy_bool ?_)))))
   rw [if_neg (by simp; omega)]
   refine wpAny_execs_nil (wpAny_execs_nil ?_)
   refine endsN F ⟨rfl, o2, db, _, _, es, _, led, (F.mt _ (.head _)).1, a, k5 _ _ (k4 _ _ edb), hdbs, ((hB.up k3).up k4).up k5, k5 _ _ edj⟩
end
section
variable {prog : Program} {w : World} {A : Around} {E : Value → Shared → Prop} {s : Shared} {env : Env}
variable {h₀ g₀ g : Heap} {xt : List Addr} {L : Addr} {N : List Str} {vs : List (Option Value)} {mu : List (Addr × Obj)} {I : Addr} {oI : Obj}
theorem St.callHas {h h' g' : Heap} {o : Obj} (F : St h₀ xt g₀ g L N vs ((I, oI) :: mu) h) (O : Out h [I] g g' h') (ho : h'.get? I = some o) : St h₀ xt g₀ g' L N vs ((I, o) :: mu) h' := by
 have F₁ := F.callBut O
 have mI := F.mt (I, oI) (.head _)
 have hg : g'.get? I = none := by
  cases q : g'.get? I with
  | none => rfl
  | some x => exact absurd (O.fresh I x q mI.2.2.1) (Nat.not_le.mpr (Heap.lt_size mI.1))
 exact ⟨F₁.len, F₁.ns, F₁.base, F₁.keep, F₁.low, F₁.outg, fun p hp => (List.mem_cons.mp hp).elim (fun e => by subst e; exact ⟨ho, mI.2.1, hg, mI.2.2.2⟩) fun hp => F₁.mt p hp, F.nd, F₁.mono, F₁.fresh⟩
theorem call_x {f : Value} {args : List Value} {P : Heap → Heap → Value → Prop} {Q : Value → Shared → Prop} (F : St h₀ xt g₀ g L N vs ((I, oI) :: mu) s.heap) (G : Gives prog w A (.call f ⟨args, []⟩) s [I] g P)
 (h : ∀ g' h' t' v, Le g g' → (∀ o, h'.get? I = some o → St h₀ xt g₀ g' L N vs ((I, o) :: mu) h') → P g' h' v → Q v { s with heap := h', toks := t' }) : wpAny (model prog w) A (call f args []) Q E s :=
 wpAny_call (G _ fun g' h' t' v o p => h g' h' t' v o.mono (fun ob e => F.callHas o e) p)
end
section
variable {w : World} {A : Around} {s : Shared} {g : Heap} {n : Nat} {x dx : Addr} {od : Obj}
structure Chained (w : World) (g' h' : Heap) (dx la lb : Addr) (l : List (Str × Tok)) : Prop where
 ex : ∃ o db dj dp es n led, h'.get? dx = some o ∧ AtO o [.none, .ref la, .ref lb, .bool true, .none, .none, .none, .ref db, .ref dj, .ref dp] ∧
  g'.get? db = some (dcO es n) ∧ db ≠ sysModules ∧ B2j w g' l es ∧ g'.get? dj = some (setO0 led)
theorem seq2_gives (X : Sm g) (kg : Le g s.heap) (hA : Ok A (n + 3)) (hx : g.get? x = some (instO dx)) (hd : s.heap.get? dx = some od) (hg : g.get? dx = none) {la lb kb : Nat} (a : AtO od [.none, .ref la, .none, .bool true, .none, .none])
 (l : List (Str × Tok)) (hl : g.get? lb = some (lstObj (strValues l) kb)) (hnd : (l.map (·.1)).Nodup) (hlen : l.length < 200) :
 Gives pw w A (.call (.ref 181) ⟨[.ref x, .ref lb], []⟩) s [dx] g (fun g' h' v => v = .none ∧ Chained w g' h' dx la lb l) := by
 refine Gives.enter [.ref x, .ref lb] ["self", "b"] [] [] [(dx, od)] (kg _ _ (X.fnAt 3 rfl)) rfl (X.lim.keeps kg) ((X.cdAt 3 rfl).keeps kg) hA rfl (BindsTo.of_eq rfl) rfl (by decide +kernel) kg (fun p hp => by rw [List.mem_singleton.mp hp]; exact ⟨hd, hg, .head _⟩) (by simp) fun h₁ env A' t' hA' C F => ?_
 dsimp only [List.map_cons, List.map_nil, List.append_nil, List.cons_append, List.nil_append] at F C
 refine doc_ C fun t' => ?_
 refine wpAny_execs_cons ?_
 refine wpAny_If (wpAny_isTrue_Compare1 ?_)
 refine ld1 C F ?_
 refine getE rfl ?_
 refine ld0 C F ?_
 refine gA (pre := []) 2 rfl X hx F a rfl rfl ?_
 refine is_none (wpAny_truthy_bool ?_)
 refine wpAny_execs_nil ?_
 refine wpAny_execs_cons ?_
 refine Asg1 ?_
 refine ld1 C F ?_
 refine ld0 C F ?_
 refine sA (pre := []) 2 rfl X hx F a (by simp) fun h' o k a F => ?_
 dsimp only
 refine wpAny_execs_cons ?_
 refine Asg2 ?_
 refine wpAny_Constant_none ?_
 refine asgA ?_
 refine ld0 C F ?_
 refine sA (pre := []) 4 rfl X hx F a (by simp [put]) fun h' o k a F => ?_
 dsimp only
 refine asgA ?_
 refine ld0 C F ?_
 refine sA (pre := []) 5 rfl X hx F a (by simp [put]) fun h' o k a F => ?_
 dsimp only
 refine wpAny_execs_cons ?_
 refine Asg1 ?_
 refine wpAny_Constant_none ?_
 refine ld0 C F ?_
 refine sA (pre := []) 6 rfl X hx F a (by simp [put]) fun h' o k a F => ?_
 dsimp only [List.nil_append] at F
 dsimp only
 refine wpAny_execs_cons ?_
 refine wpAny_Expr ?_ C.inter
 refine ME0 rfl rfl ?_
 refine ld0 C F ?_
 intro pl
 have hy : typeLookup (.type "object") "_SequenceMatcher__chain_b" = pure none := by rw [typeLookup_type, builtinLookup_eq_fast]; kernel_rfl
 refine methA (f := 188) (fd := fdChainB) X F.keep (Me.of (pre := []) hx F a) (by decide) (by decide +kernel) (X.fnAt 4 rfl) hy ?_
 refine ⟨⟨_, F.keep _ _ (X.fnAt 4 rfl)⟩, ?_⟩
 refine call_x F (chain_gives X F.keep hA' hx (F.mt (dx, o) (.head _)).1 (F.mt (dx, o) (.head _)).2.2.1 (l := l) (by exact a) hl hnd hlen) fun g₂ h₂ t₂ v k₂ F₂ p => ?_
 obtain ⟨rfl, o₂, db, dj, dp, es, m, led, p1, p2, p3, p4, p5, p6⟩ := p
 have F := F₂ o₂ p1
 refine wpAny_execs_nil ?_
 exact endsN F ⟨rfl, o₂, db, dj, dp, es, m, led, p1, p2, p3, p4, p5, p6⟩
theorem seqs_gives (X : Sm g) (kg : Le g s.heap) (hA : Ok A (n + 4)) (hx : g.get? x = some (instO dx)) (hd : s.heap.get? dx = some od) (hg : g.get? dx = none) {la lb kb : Nat} (a : AtO od [.none, .none, .none, .bool true])
 (l : List (Str × Tok)) (hl : g.get? lb = some (lstObj (strValues l) kb)) (hnd : (l.map (·.1)).Nodup) (hlen : l.length < 200) :
 Gives pw w A (.call (.ref 167) ⟨[.ref x, .ref la, .ref lb], []⟩) s [dx] g (fun g' h' v => v = .none ∧ Chained w g' h' dx la lb l) := by
 refine Gives.enter [.ref x, .ref la, .ref lb] ["self", "a", "b"] [] [] [(dx, od)] (kg _ _ (X.fnAt 1 rfl)) rfl (X.lim.keeps kg) ((X.cdAt 1 rfl).keeps kg) hA rfl (BindsTo.of_eq rfl) rfl (by decide +kernel) kg (fun p hp => by rw [List.mem_singleton.mp hp]; exact ⟨hd, hg, .head _⟩) (by simp) fun h₁ env A' t' hA' C F => ?_
 dsimp only [List.map_cons, List.map_nil, List.append_nil, List.cons_append, List.nil_append] at F C
 refine doc_ C fun t' => ?_
 refine wpAny_execs_cons ?_
 refine wpAny_Expr ?_ C.inter
 refine ME1 rfl rfl ?_
 refine ld0 C F ?_
 intro pl
 have hy : typeLookup (.type "object") "set_seq1" = pure none := by rw [typeLookup_type, builtinLookup_eq_fast]; kernel_rfl
 refine methA (f := 174) (fd := fdSetSeq1) X F.keep (Me.of (pre := []) hx F a) (by decide) (by decide +kernel) (X.fnAt 2 rfl) hy ?_
 refine ld1 C F ?_
 refine ⟨⟨_, F.keep _ _ (X.fnAt 2 rfl)⟩, ?_⟩
 refine call_x F (seq1_gives (n := n) X F.keep (hA'.le (by omega)) hx (F.mt (dx, od) (.head _)).1 (F.mt (dx, od) (.head _)).2.2.1 a la) fun g₂ h₂ t₂ v k₂ F₂ p => ?_
 obtain ⟨rfl, o₂, p1, a⟩ := p
 have F := F₂ o₂ p1
 have X := X.up k₂
 have hx := k₂ _ _ hx
 refine wpAny_execs_cons ?_
 refine wpAny_Expr ?_ C.inter
 refine ME1 rfl rfl ?_
 refine ld0 C F ?_
 intro pl
 have hy : typeLookup (.type "object") "set_seq2" = pure none := by rw [typeLookup_type, builtinLookup_eq_fast]; kernel_rfl
 refine methA (f := 181) (fd := fdSetSeq2) X F.keep (Me.of (pre := []) hx F a) (by decide) (by decide +kernel) (X.fnAt 3 rfl) hy ?_
 refine ld2 C F ?_
 refine ⟨⟨_, F.keep _ _ (X.fnAt 3 rfl)⟩, ?_⟩
 refine call_x F (seq2_gives (n := n) X F.keep (hA'.le (by omega)) hx (F.mt (dx, o₂) (.head _)).1 (F.mt (dx, o₂) (.head _)).2.2.1 a l (k₂ _ _ hl) hnd hlen) fun g₃ h₃ t₃ v k₃ F₃ p => ?_
 obtain ⟨rfl, ⟨o₃, db, dj, dp, es, m, led, p1, p2, p3⟩⟩ := p
 have F := F₃ o₃ p1
 refine wpAny_execs_nil ?_
 exact endsN F ⟨rfl, o₃, db, dj, dp, es, m, led, p1, p2, p3⟩
theorem init_gives (X : Sm g) (kg : Le g s.heap) (hA : Ok A (n + 5)) (hx : g.get? x = some (instO dx)) (hd : s.heap.get? dx = some od) (hg : g.get? dx = none) {la lb kb : Nat} (a : AtO od [])
 (l : List (Str × Tok)) (hl : g.get? lb = some (lstObj (strValues l) kb)) (hnd : (l.map (·.1)).Nodup) (hlen : l.length < 200) :
 Gives pw w A (.call (.ref 160) ⟨[.ref x, .none, .ref la, .ref lb], []⟩) s [dx] g (fun g' h' v => v = .none ∧ Chained w g' h' dx la lb l) := by
 refine Gives.enter [.ref x, .none, .ref la, .ref lb, .bool true] ["self", "isjunk", "a", "b", "autojunk"] [] [] [(dx, od)] (kg _ _ (X.fnAt 0 rfl)) rfl (X.lim.keeps kg) ((X.cdAt 0 rfl).keeps kg) hA rfl (BindsTo.of_defaults rfl (kg _ _ (X.obAt 2 rfl)) rfl rfl rfl) rfl (by decide +kernel) kg (fun p hp => by rw [List.mem_singleton.mp hp]; exact ⟨hd, hg, .head _⟩) (by simp) fun h₁ env A' t' hA' C F => ?_
 dsimp only [List.map_cons, List.map_nil, List.append_nil, List.cons_append, List.nil_append] at F C
 refine doc_ C fun t' => ?_
 refine wpAny_execs_cons ?_
 refine Asg1 ?_
 refine ld1 C F ?_
 refine ld0 C F ?_
 refine sA (pre := []) 0 rfl X hx F a (by simp) fun h' o k a F => ?_
 dsimp only
 refine wpAny_execs_cons ?_
 refine Asg2 ?_
 refine wpAny_Constant_none ?_
 refine asgA ?_
 refine ld0 C F ?_
 refine sA (pre := []) 1 rfl X hx F a (by simp [put]) fun h' o k a F => ?_
 dsimp only
 refine asgA ?_
 refine ld0 C F ?_
 refine sA (pre := []) 2 rfl X hx F a (by simp [put]) fun h' o k a F => ?_
 dsimp only
 refine wpAny_execs_cons ?_
 refine Asg1 ?_
 refine ld4 C F ?_
 refine ld0 C F ?_
 refine sA (pre := []) 3 rfl X hx F a (by simp [put]) fun h' o k a F => ?_
 dsimp only [List.nil_append] at F
 dsimp only
 refine wpAny_execs_cons ?_
 refine wpAny_Expr ?_ C.inter
 refine ME2 rfl rfl ?_
 refine ld0 C F ?_
 intro pl
 have hy : typeLookup (.type "object") "set_seqs" = pure none := by rw [typeLookup_type, builtinLookup_eq_fast]; kernel_rfl
 refine methA (f := 167) (fd := fdSetSeqs) X F.keep (Me.of (pre := []) hx F a) (by decide) (by decide +kernel) (X.fnAt 1 rfl) hy ?_
 refine ld2 C F ?_
 refine ld3 C F ?_
 refine ⟨⟨_, F.keep _ _ (X.fnAt 1 rfl)⟩, ?_⟩
 refine call_x F (seqs_gives (n := n) X F.keep (hA'.le (by omega)) hx (F.mt (dx, o) (.head _)).1 (F.mt (dx, o) (.head _)).2.2.1 a l hl hnd hlen) fun g₃ h₃ t₃ v k₃ F₃ p => ?_
 obtain ⟨rfl, ⟨o₃, db, dj, dp, es, m, led, p1, p2, p3⟩⟩ := p
 have F := F₃ o₃ p1
 refine wpAny_execs_nil ?_
 exact endsN F ⟨rfl, o₃, db, dj, dp, es, m, led, p1, p2, p3⟩
end
structure Sm2 (g : Heap) : Prop extends Sm g where
 cst : ∃ m, g.Ns cStatics m ∧ m "thirdparty.any" = none
theorem Sm2.up {g g' : Heap} (X : Sm2 g) (k : Le g g') : Sm2 g' := ⟨X.toSm.up k, let ⟨m, a, b⟩ := X.cst; ⟨m, a.keeps k, b⟩⟩
theorem nsIn_of {K : Frag} {ns : Addr} {o : Obj} {es : Array DictEntry} {ep : Nat} {m : Str → Option Value} (hk : K.lookup ns = some o) (hd : o.data = .dict es ep) (hs : StrKeys es) (hf : ∀ n, nsFind es n = m n) (name : Str) : nsIn K ns name = some (m name) := by
 obtain ⟨oc, od, oda, osl⟩ := o
 dsimp only at hd
 subst hd
 unfold nsIn
 rw [hk]
 dsimp only
 have h := hf name
 unfold nsFind findBy at h
 rw [← Array.find?_toList] at h
 cases q : es.toList.find? (fun e => e.key.isStr name) with
 | some e => rw [q] at h; rw [← h]; rfl
 | none =>
  rw [q] at h
  have hr : es.toList.any (·.refKey) = false := by
   rw [List.any_eq_false]
   intro e he
   obtain ⟨n, t, z⟩ := hs e (Array.mem_toList_iff.mp he)
   simp [DictEntry.refKey, z]
  rw [hr, if_neg (by decide), ← h]
  rfl
theorem mem_lk {β : Type} : ∀ {l : List (Addr × β)} {a : Addr} {o : β}, l.lookup a = some o → (a, o) ∈ l
 | [], _, _, h => by cases h
 | (b, p) :: r, a, o, h => by
  rw [List.lookup_cons] at h
  cases q : a == b with
  | true => rw [q] at h; cases h; rw [eq_of_beq q]; exact .head _
  | false => rw [q] at h; exact .tail _ (mem_lk h)
def KM (oN oS : Obj) : Frag := [(135, mtCls), (134, oN), (cStatics, oS), (136, { cls := .type "staticmethod", data := .fields #[.ref 82] }), (91, { cls := .type "classmethod", dict := some 90, data := .fields #[.ref 89, .bool false] }), (89, fnObj fdMMake), (82, fnObj fdMNew)]
structure KMok (oN oS : Obj) : Prop where
 ns : ∃ m : Str → Option Value, (∀ n, nsIn (KM oN oS) 134 n = some (m n)) ∧ ∀ p ∈ mtHas, m p.1 = p.2
 st : nsIn (KM oN oS) cStatics "thirdparty.any" = some none
theorem km_in {g : Heap} (X : Sm2 g) : ∃ oN oS, (KM oN oS).In g ∧ KMok oN oS := by
 obtain ⟨m, ⟨oN, es, ep, a1, a2, a3, a4⟩, b⟩ := X.mns
 obtain ⟨mc, ⟨oS, es', ep', c1, c2, c3, c4⟩, d⟩ := X.cst
 refine ⟨oN, oS, fun a o e => ?_, ⟨m, fun n => nsIn_of rfl a2 a3 a4 n, b⟩, by rw [nsIn_of (K := KM oN oS) rfl c2 c3 c4, d]⟩
 have hm : (a, o) ∈ KM oN oS := mem_lk e
 simp only [KM, List.mem_cons, List.not_mem_nil, or_false, Prod.mk.injEq] at hm
 rcases hm with ⟨rfl, rfl⟩ | ⟨rfl, rfl⟩ | ⟨rfl, rfl⟩ | ⟨rfl, rfl⟩ | ⟨rfl, rfl⟩ | ⟨rfl, rfl⟩ | ⟨rfl, rfl⟩
 · exact X.ob2 _ (.tail _ (.head _))
 · exact a1
 · exact c1
 · exact X.ob2 _ (.tail _ (.tail _ (.head _)))
 · exact X.ob2 _ (.tail _ (.tail _ (.tail _ (.head _))))
 · exact X.ob2 _ (.tail _ (.tail _ (.tail _ (.tail _ (.head _)))))
 · exact X.fnAt 8 rfl
section
variable {oN oS : Obj}
theorem own_m (h : KMok oN oS) {i : Nat} {n : Str} {v : Option Value} (hi : mtHas[i]? = some (n, v)) : ownIn (KM oN oS) n (.ref 135) = some v := by
 obtain ⟨m, a, b⟩ := h.ns
 show nsIn (KM oN oS) 134 n = _
 rw [a, b _ (List.mem_of_getElem? hi)]
theorem find_new (h : KMok oN oS) : findIn (KM oN oS) (.ref 135) "__new__" = some (some (.ref 136)) := by
 show alongIn (KM oN oS) _ [.ref 135, .type "tuple", .type "object"] = _
 unfold alongIn
 rw [own_m h (i := 0) rfl]
theorem find_make (h : KMok oN oS) : findIn (KM oN oS) (.ref 135) "_make" = some (some (.ref 91)) := by
 show alongIn (KM oN oS) _ [.ref 135, .type "tuple", .type "object"] = _
 unfold alongIn
 rw [own_m h (i := 1) rfl]
theorem find_init (h : KMok oN oS) : findIn (KM oN oS) (.ref 135) "__init__" = some (some (.builtin "object.__init__")) := by
 show alongIn (KM oN oS) _ [.ref 135, .type "tuple", .type "object"] = _
 unfold alongIn
 rw [own_m h (i := 2) rfl]
 kernel_rfl
theorem reads_m (h : KMok oN oS) : readsIn (KM oN oS) 135 (.type "type") = true := by
 unfold readsIn
 rw [h.st]
 kernel_rfl
theorem cls_new (h : KMok oN oS) : findCls (KM oN oS) (.ref 135) (.type "type") "__new__" = some (.get (.builtin "staticmethod.__get__") (.ref 136) .none (.ref 135)) := by
 unfold findCls
 rw [show findIn (KM oN oS) (.type "type") "__new__" = some (some (.builtin "type.__new__")) by kernel_rfl, find_new h]
 kernel_rfl
theorem cls_make (h : KMok oN oS) : findCls (KM oN oS) (.ref 135) (.type "type") "_make" = some (.get (.builtin "classmethod.__get__") (.ref 91) .none (.ref 135)) := by
 unfold findCls
 rw [show findIn (KM oN oS) (.type "type") "_make" = some none by kernel_rfl, find_make h]
 kernel_rfl
end
section
variable {M : Model} {h : Heap} {oN oS : Obj}
theorem L_type (X : (KM oN oS).In h) : Looks M h (isType (.ref 135)) true := (Looks.ld (part := some headPart) (X 135 mtCls rfl)).andThen .now
theorem L_sub (X : (KM oN oS).In h) : Looks M h (isSubtype (.ref 135) (.type "tuple")) true := looks_mroIn X (by kernel_rfl)
theorem L_made (X : (KM oN oS).In h) : Looks M h (Bind.madeBy (.ref 135)) none := Looks.of_peek X (by kernel_rfl)
theorem L_check (X : (KM oN oS).In h) (v : Value) : Looks M h (checkBuiltinCall "tuple.__new__" ⟨[.ref 135, v], []⟩) () := Looks.of_peek X (by kernel_rfl)
theorem L_here (X : (KM oN oS).In h) : Looks M h (Bind.madeHere "tuple.__new__" (.ref 135)) () := Looks.of_peek X (by kernel_rfl)
theorem L_init (X : (KM oN oS).In h) (k : KMok oN oS) : Looks M h (typeLookup (.ref 135) "__init__") (some (.builtin "object.__init__")) := looks_findIn X (find_init k)
end
abbrev mtO (dx : Addr) (vs : List Value) : Obj := { cls := .ref 135, dict := some dx, data := .seq vs.toArray }
section
variable {prog : Program} {w : World} {A : Around} {E : Value → Shared → Prop} {h : Heap} {g : Array GenState} {d : Drawn} {t : Nat} {os : OsState} {oN oS : Obj}
theorem tnew_run {T : Addr} {vs : List Value} {Q : PySem.Fin → Shared → Prop} (X : (KM oN oS).In h) (k : KMok oN oS) (hT : h.get? T = some (tupObj vs) ∨ ∃ n, h.get? T = some (lstObj vs n)) (hz : vs.length ≤ 1000)
 (hq : ∀ h', Le h h' → Q (.done (.ret (.ref (h'.objs.size + 1)))) ⟨(h'.push emptyDict).push (mtO h'.objs.size vs), g, d, t, os⟩) :
 wpAny (model prog w) A (Builtin.«tuple.__new__» ⟨[.ref 135, .ref T], []⟩) Q E ⟨h, g, d, t, os⟩ := by
 have l1 := L_type (M := model prog w) X
 have l2 := L_sub (M := model prog w) X
 have l3 := L_here (M := model prog w) X
 have l4 := L_init (M := model prog w) X k
 unfold Builtin.«tuple.__new__»
 repeat (any_goals (first | (fail_if_success (show wpAny _ _ (collect _) _ _ _)); lk))
 show wpAny _ _ (collect _) _ _ _
 have fin : ∀ h', Le h h' → wpAny (model prog w) A (do
  let xs ← pure vs.toArray
  let dd ← alloc { cls := .type "dict", data := .dict #[] }
  let r ← newObj (.ref 135) (.seq xs) (some dd)
  ret r) Q E ⟨h', g, d, t, os⟩ := by
  intro h' k'
  refine wpAny_bind (wpAny_pure (wpAny_bind (wpAny_alloc (wpAny_bind ?_))))
  have hC : ((h'.push emptyDict).push (mtO h'.objs.size vs)).get? 135 = some mtCls := Heap.get?_push_of_some _ (Heap.get?_push_of_some _ (k' _ _ (X 135 mtCls rfl)))
  unfold newObj
  dsimp only
  rw [if_neg (by rw [List.size_toArray, sizeLine_eq]; omega)]
  unfold newObjAsIs classHasDel
  refine wpAny_bind (wpAny_alloc (wpAny_bind (wpAny_bind (wpAny_load hC (wpAny_pure ?_)))))
  refine wpAny_pure (wpAny_pure ?_)
  show Q _ _
  rw [Heap.size_push]
  exact hq h' k'
 rcases hT with hT | ⟨n, hT⟩
 · exact wpAny_collect_seq T (T := "tuple") (n := 0) (.inr rfl) hT rfl rfl (fun h' k' => fin h' k') (by rw [sizeLine_eq]; simp; omega)
 · exact wpAny_collect_seq T (T := "list") (n := n) (.inl rfl) hT rfl rfl (fun h' k' => fin h' k') (by rw [sizeLine_eq]; simp; omega)
end
section
variable {w : World} {A : Around} {E : Value → Shared → Prop} {s : Shared} {h₀ g₀ g : Heap} {xt : List Addr} {L : Addr} {N : List Str} {vs : List (Option Value)} {mu : List (Addr × Obj)}
theorem tnew {T : Addr} {items : List Value} {Q : Value → Shared → Prop} (F : St h₀ xt g₀ g L N vs mu s.heap) (X : Sm2 g) (hT : g.get? T = some (tupObj items) ∨ ∃ n, g.get? T = some (lstObj items n)) (hz : items.length ≤ 1000)
 (hq : ∀ m dx g' h', Le g g' → g'.get? m = some (mtO dx items) → St h₀ xt g₀ g' L N vs mu h' → Q (.ref m) { s with heap := h' }) :
 wpAny (model pw w) A (call (.builtin "tuple.__new__") [.ref 135, .ref T]) Q E s := by
 obtain ⟨oN, oS, X', k⟩ := km_in X
 obtain ⟨h, gg, d, t, os⟩ := s
 have X'' : (KM oN oS).In h := X'.keeps F.keep
 have l0 := L_check (M := model pw w) X'' (.ref T)
 refine wpAny_call (codeAny_call_builtin_code (Code.quiet_builtin _ (by decide +kernel)) (l0.here ?_))
 refine codeAny_builtin PySem.F.entry_tuple_new (tnew_run X'' k (hT.imp (fun e => F.keep _ _ e) fun ⟨n, e⟩ => ⟨n, F.keep _ _ e⟩) hz fun h' k' => ?_)
 have F₁ := (F.more k').more (fun b o e => Heap.get?_push_of_some emptyDict e)
 obtain ⟨g', k2, e, F₂⟩ := F₁.made (mtO h'.objs.size items)
 rw [Heap.size_push] at e
 exact hq _ _ g' _ k2 e F₂
end
theorem Ok.under {A : Around} {n : Nat} {c : Code} (h : Ok A (n + 1)) (hw : c.weight ≤ 8) (hu : c.cUnits ≤ 24) : Ok (A.under c) n :=
 ⟨h.handled, by have := h.depth; show A.depth + c.weight + 8 * n < 900; omega, by have := h.units; show A.units + c.cUnits + 24 * n < 9800; omega⟩
theorem w_tc (C : Addr) (rest : List Value) : (Code.builtin "type.__call__" ⟨.ref C :: rest, []⟩).weight ≤ 8 := by
 have : (Code.builtin "type.__call__" ⟨.ref C :: rest, []⟩).weight = 1 := by rfl
 omega
theorem u_tc (C : Addr) (rest : List Value) : (Code.builtin "type.__call__" ⟨.ref C :: rest, []⟩).cUnits ≤ 24 := by
 have : (Code.builtin "type.__call__" ⟨.ref C :: rest, []⟩).cUnits = 1 := by rfl
 omega
section
variable {w : World} {A : Around} {E : Value → Shared → Prop} {s : Shared} {env : Env}
theorem meth_type {T : String} {name : Str} {v : Value} {pl : Sem Bool} {Q : Value × List Value → Shared → Prop} (ht : typeOf (.type T) = pure (.type "type")) (hs : Manifest.isStub T = false)
 (e : findCls [] (.type T) (.type "type") name = some (.val v)) (hh : handedIn v = true) (h : Q (v, []) { s with toks := s.toks + 1 }) : wpAny (model pw w) A (getMethod (.type T) name pl) Q E s := by
 have X : Frag.In [] s.heap := fun a o e => by cases e
 have hstub : opaqueClassAbove (.type T) = pure none := by unfold opaqueClassAbove; dsimp only; rw [hs]; rfl
 have L0 : Looks (model pw w) s.heap (typeOf (.type T)) (.type "type") := Looks.of_pure ht
 have hg : findIn [] (.type "type") "__getattribute__" = some (some (.builtin "type.__getattribute__")) := type_tga
 unfold getMethod specialOf
 refine wpAny_bind (wpAny_bind (L0.here ((looks_findIn X hg).here ?_)))
 dsimp only
 rw [if_pos canon_tga]
 refine wpAny_bind (wpAny_mono (Q := fun v => Q (v, [])) (E := E) ?_ (fun _ _ z => wpAny_pure z) fun _ _ z => z)
 have LO : Looks (model pw w) s.heap (opaqueClassAbove (.type T)) none := Looks.of_pure hstub
 refine cls_open X LO L0 hg (looks_hook X (r := none) (by rfl)) (by show subIn [] _ _ = _; rfl) e
  (wpAny_pure (by show wpAny _ _ (handedOut v) _ _ _; rw [handedOut_of hh]; exact wpAny_pure h))
theorem find_tnew : findCls [] (.type "tuple") (.type "type") "__new__" = some (.val (.builtin "tuple.__new__")) := by kernel_rfl
theorem ty_tuple : typeOf (.type "tuple") = pure (.type "type") := by kernel_rfl
theorem st_tuple : Manifest.isStub "tuple" = false := by decide +kernel
theorem hi_tnew : handedIn (.builtin "tuple.__new__") = true := by decide +kernel
variable {g : Heap} {n : Nat}
theorem mnew_gives (X : Sm2 g) (kg : Le g s.heap) (hA : Ok A (n + 1)) (v1 v2 v3 : Value) :
 Gives pw w A (.call (.ref 82) ⟨[.ref 135, v1, v2, v3], []⟩) s [] g (fun g' _ v => ∃ m dx, v = .ref m ∧ g'.get? m = some (mtO dx [v1, v2, v3])) := by
 refine Gives.go 8 [.ref 135, v1, v2, v3] ["_cls", "a", "b", "size"] [] ["tuple"] rfl X.toStat kg hA rfl (BindsTo.of_eq rfl) rfl (by decide +kernel) fun h₁ env A' t' hA' C F => ?_
 dsimp only [List.map_cons, List.map_nil, List.append_nil, List.cons_append, List.nil_append] at F C
 refine doc_ C fun t' => ?_
 refine wpAny_execs_cons ?_
 refine wpAny_Return_some ?_
 refine ME2 rfl rfl ?_
 refine N_tuple C X.toStat F.keep (.head _) ?_
 intro pl
 dsimp only
 refine meth_type (T := "tuple") (name := "__new__") (v := .builtin "tuple.__new__") ty_tuple st_tuple find_tnew hi_tnew ?_
 dsimp only
 refine ld0 C F ?_
 refine tupE ?_
 refine sp1 (ld1 C F ?_)
 refine sp1 (ld2 C F ?_)
 refine sp1 (ld3 C F ?_)
 refine sp0 ?_
 refine newTup F fun T g₂ h' k2 hT F => ?_
 refine ⟨trivial, ?_⟩
 refine tnew F (X.up k2) (.inl hT) (by simp) fun m dx g₃ h' k3 hm F => ?_
 exact ends F ⟨m, dx, rfl, hm⟩
end
section
variable {M : Model} {h : Heap} {oN oS : Obj}
theorem L_call (X : (KM oN oS).In h) : Looks M h (specialOf (.ref 135) "__call__") (some (.builtin "type.__call__")) := looks_specialIn X (by kernel_rfl)
theorem L_inst (X : (KM oN oS).In h) : Looks M h (isInstance (.ref 135) (.type "type")) true := looks_instIn X (by kernel_rfl)
theorem L_mro (X : (KM oN oS).In h) : Looks M h (mroOf (.ref 135)) [.ref 135, .type "tuple", .type "object"] := Looks.of_peek X (by kernel_rfl)
theorem L_self (X : (KM oN oS).In h) : Looks M h (isSubtype (.ref 135) (.ref 135)) true := looks_mroIn X (by kernel_rfl)
theorem L_top (X : (KM oN oS).In h) : Looks M h (isSubtype (.ref 135) (.type "object")) true := looks_mroIn X (by kernel_rfl)
end
section
variable {w : World} {A : Around} {E : Value → Shared → Prop} {s : Shared} {oN oS : Obj}
theorem slot_sg : Slot "staticmethod" "__get__" "staticmethod.__get__" :=
 .of (owner := "staticmethod") (n := "__get__") (by rw [typeLookup_type, builtinLookup_eq_fast]; kernel_rfl) (by decide +kernel) (by decide +kernel) (by decide +kernel) (by first | exact .inl (by decide +kernel) | exact .inr (by decide +kernel)) (by rw [isSubtype_type]; kernel_rfl)
theorem slot_cg : Slot "classmethod" "__get__" "classmethod.__get__" :=
 .of (owner := "classmethod") (n := "__get__") (by rw [typeLookup_type, builtinLookup_eq_fast]; kernel_rfl) (by decide +kernel) (by decide +kernel) (by decide +kernel) (by first | exact .inl (by decide +kernel) | exact .inr (by decide +kernel)) (by rw [isSubtype_type]; kernel_rfl)
theorem entry_sg : entryFor table "staticmethod.__get__" = some Builtin.«staticmethod.__get__» := entryFor_of_tree (by kernel_rfl)
theorem entry_cg : entryFor table "classmethod.__get__" = some Builtin.«classmethod.__get__» := entryFor_of_tree (by kernel_rfl)
theorem args_sg (a b c : Value) : argsOk "staticmethod.__get__" ⟨[a, b, c], []⟩ := by unfold argsOk; kernel_rfl
theorem args_cg (a b c : Value) : argsOk "classmethod.__get__" ⟨[a, b, c], []⟩ := by unfold argsOk; kernel_rfl
theorem sget {Q : Value → Shared → Prop} (X : (KM oN oS).In s.heap) (h : Q (.ref 82) s) : wpAny (model pw w) A (call (.builtin "staticmethod.__get__") [.ref 136, .none, .ref 135]) Q E s := by
 have ho := X 136 { cls := .type "staticmethod", data := .fields #[.ref 82] } rfl
 obtain ⟨hp, g, d, t, os⟩ := s
 dsimp only at ho
 refine wpAny_call (codeAny_call_builtin slot_sg.plain entry_sg (slot_sg.check _ _ _ _ _ _ _ _ (show (⟨hp, g, d, t, os⟩ : Shared).TypeIs (.ref 136) "staticmethod" from ⟨_, ho, rfl⟩) (args_sg _ _ _) ?_))
 unfold Builtin.«staticmethod.__get__»
 repeat (any_goals (first | assumption | with_reducible refine wpAny_loadPart_at ho ?_ | wp_step))
abbrev bdO : Obj := { cls := .type "method", data := .fields #[.ref 89, .ref 135] }
theorem cget {Q : Value → Shared → Prop} (X : (KM oN oS).In s.heap) (h : Q (.ref s.heap.objs.size) { s with heap := s.heap.push bdO }) : wpAny (model pw w) A (call (.builtin "classmethod.__get__") [.ref 91, .none, .ref 135]) Q E s := by
 have ho := X 91 { cls := .type "classmethod", dict := some 90, data := .fields #[.ref 89, .bool false] } rfl
 obtain ⟨hp, g, d, t, os⟩ := s
 dsimp only at ho
 refine wpAny_call (codeAny_call_builtin slot_cg.plain entry_cg (slot_cg.check _ _ _ _ _ _ _ _ (show (⟨hp, g, d, t, os⟩ : Shared).TypeIs (.ref 91) "classmethod" from ⟨_, ho, rfl⟩) (args_cg _ _ _) ?_))
 unfold Builtin.«classmethod.__get__»
 repeat (any_goals (first | assumption | with_reducible refine wpAny_loadPart_at ho ?_ | wp_step))
variable {h₀ g₀ g : Heap} {xt : List Addr} {L : Addr} {N : List Str} {vs : List (Option Value)} {mu : List (Addr × Obj)} {n : Nat}
theorem make_attr {expr : Bool} {Q : Value → Shared → Prop} (F : St h₀ xt g₀ g L N vs mu s.heap) (X : Sm2 g)
 (h : ∀ a g' h' t', Le g g' → g'.get? a = some bdO → St h₀ xt g₀ g' L N vs mu h' → Q (.ref a) { s with heap := h', toks := t' }) : wpAny (model pw w) A (getAttr (.ref 135) "_make" expr) Q E s := by
 obtain ⟨oN, oS, X', k⟩ := km_in X
 have X'' : (KM oN oS).In s.heap := X'.keeps F.keep
 refine cls_bind X'' (reads_m k) (cls_make k) ?_
 refine cget X'' ?_
 obtain ⟨g', k2, e, F₂⟩ := F.made bdO
 refine wpAny_of_eq (a := Value.ref s.heap.objs.size) rfl ?_
 exact h _ g' _ _ k2 e F₂
theorem match_call {v1 v2 v3 : Value} {Q : Value → Shared → Prop} (hA : Ok A (n + 3)) (F : St h₀ xt g₀ g L N vs mu s.heap) (X : Sm2 g)
 (h : ∀ m dx g' h' t', Le g g' → g'.get? m = some (mtO dx [v1, v2, v3]) → St h₀ xt g₀ g' L N vs mu h' → Q (.ref m) { s with heap := h', toks := t' }) :
 wpAny (model pw w) A (call (.ref 135) [v1, v2, v3]) Q E s := by
 obtain ⟨oN, oS, X', k⟩ := km_in X
 have XX : (KM oN oS).In s.heap := X'.keeps F.keep
 have hC := XX 135 mtCls rfl
 have lc := L_call (M := model pw w) XX
 have li := L_inst (M := model pw w) XX
 have lm := L_mro (M := model pw w) XX
 have lb := L_made (M := model pw w) XX
 refine wpAny_call (codeAny_of_tree ?_)
 show wpAny _ _ (callAny (.ref 135) _) _ _ _
 refine nd_load hC ?_
 show wpAny _ _ (callAny.viaDunder (.ref 135) _) _ _ _
 unfold callAny.viaDunder
 refine wpAny_bind (lc.here ?_)
 dsimp only
 rw [tc_bind]
 refine wpAny_bind (wpAny_pure (wpAny_bind (wpAny_pure ?_)))
 refine wpAny_pure (a := Fin.again (.call (.builtin "type.__call__") ⟨[.ref 135, v1, v2, v3], []⟩)) (And.intro rfl ?_)
 refine codeAny_call_builtin_at (Code.quiet_builtin _ (by decide +kernel)) entry_typeCall (check_slot tc_kind tc_split li (tc_args _ _ _) ?_)
 unfold Builtin.«type.__call__»
 dsimp only
 rw [if_neg (by decide)]
 refine wpAny_bind (lm.here ?_)
 rw [if_neg (by decide)]
 refine wpAny_bind (lb.here ?_)
 dsimp only
 refine wpAny_bind ?_
 refine cls_bind XX (reads_m k) (cls_new k) ?_
 refine sget XX ?_
 refine wpAny_of_eq (a := Value.ref 82) rfl ?_
 refine wpAny_bind (wpAny_holding ?_)
 refine call_c (s := { s with toks := s.toks + 1 }) F (mnew_gives (n := n) (s := { s with toks := s.toks + 1 }) X F.keep ((hA.under (w_tc 135 [v1, v2, v3]) (u_tc 135 [v1, v2, v3])).le (by omega)) v1 v2 v3) fun g₂ h₂ t₂ v k₂ F₂ p => ?_
 obtain ⟨m, dx, rfl, hm⟩ := p
 have X₂ := X'.keeps (k₂.tr F₂.keep)
 have hmm := F₂.keep _ _ hm
 have ls := L_self (M := model pw w) X₂
 have lt := L_top (M := model pw w) X₂
 have ty : Looks (model pw w) h₂ (typeOf (.ref m)) (.ref 135) := (Looks.ld hmm).andThen .now
 have l1 : Looks (model pw w) h₂ (isInstance (.ref m) (.ref 135)) true := ty.andThen ls
 refine wpAny_bind (l1.here ?_)
 rw [if_neg (by decide)]
 refine wpAny_bind (wpAny_holding ?_)
 have l2 := L_init (M := model pw w) X₂ k
 have l3 := L_made (M := model pw w) X₂
 have fin : ∀ A'', wpAny (model pw w) A'' (call (.builtin "object.__init__") [.ref m, v1, v2, v3]) (fun v s' => v = .none ∧ Q (.ref m) s') (fun _ _ => False) { s with heap := h₂, toks := t₂ } := by
  intro A''
  refine wpAny_call (codeAny_call_builtin oi_plain entry_oi (@check_slot (model pw w) _ _ _ "object.__init__" "object" "__init__" (.ref m) [v1, v2, v3] [] _ oi_kind oi_split (ty.andThen lt) (by unfold argsOk; kernel_rfl) ?_))
  unfold Builtin.«object.__init__»
  dsimp only
  rw [if_pos (by rfl)]
  refine wpAny_bind (ty.here ?_)
  refine wpAny_bind (l2.here ?_)
  refine wpAny_bind (l3.here ?_)
  rw [if_neg (by decide), if_neg (by decide)]
  exact wpAny_pure ⟨rfl, h m dx g₂ h₂ t₂ k₂ hm F₂⟩
 unfold callSpecial? specialOf
 refine wpAny_bind (wpAny_bind (ty.here ?_))
 refine l2.here ?_
 dsimp only
 refine wpAny_holding (wpAny_bind ?_)
 rw [oi_bind]
 refine wpAny_pure (wpAny_bind (wpAny_mono (fin _) (fun v s' z => ?_) fun _ _ z => z.elim))
 obtain ⟨rfl, z⟩ := z
 refine wpAny_pure ?_
 dsimp only
 rw [if_neg (by decide)]
 exact wpAny_pure z
end
section
variable {oN oS : Obj} {M : Model} {h : Heap}
theorem find_len (h : KMok oN oS) : findIn (KM oN oS) (.ref 135) "__len__" = some (some (.builtin "tuple.__len__")) := by
 show alongIn (KM oN oS) _ [.ref 135, .type "tuple", .type "object"] = _
 unfold alongIn
 rw [own_m h (i := 5) rfl]
 kernel_rfl
end
section
variable {w : World} {A : Around} {E : Value → Shared → Prop} {s : Shared} {oN oS : Obj}
variable {h₀ g₀ g : Heap} {xt : List Addr} {L : Addr} {N : List Str} {vs : List (Option Value)} {mu : List (Addr × Obj)} {n : Nat}
theorem tl_kind : builtinKind "tuple.__len__" = some .slot := by decide +kernel
theorem tl_split : splitId "tuple.__len__" = some ("tuple", "__len__") := by decide +kernel
theorem tl_args (a : Value) : argsOk "tuple.__len__" ⟨[a], []⟩ := by unfold argsOk; kernel_rfl
theorem tl_plain : plainId "tuple.__len__" = true := by decide +kernel
theorem tl_entry : entryFor table "tuple.__len__" = some Builtin.«tuple.__len__» := entryFor_of_tree (by kernel_rfl)
theorem tl_bind (self : Value) : bindSpecial (.builtin "tuple.__len__") self = pure (.builtin "tuple.__len__", [self]) :=
 (Slot.of (T := "tuple") (name := "__len__") (owner := "tuple") (n := "__len__") (by rw [typeLookup_type, builtinLookup_eq_fast]; kernel_rfl) (by decide +kernel) (by decide +kernel) (by decide +kernel)
  (.inl (by decide +kernel)) (by rw [isSubtype_type]; kernel_rfl)).bind self
theorem len_mt {m dx : Addr} {items : List Value} {Q : Value → Shared → Prop} (X : Sm2 g) (kg : Le g s.heap) (hm : g.get? m = some (mtO dx items)) (hz : items.length ≤ 1000)
 (hq : ∀ t t', Q (.int (items.length : Int) t) { s with toks := t' }) : wpAny (model pw w) A (call (.builtin "len") [.ref m]) Q E s := by
 obtain ⟨oN, oS, X', k⟩ := km_in X
 have XX : (KM oN oS).In s.heap := X'.keeps kg
 have hmm := kg _ _ hm
 have ty : Looks (model pw w) s.heap (typeOf (.ref m)) (.ref 135) := (Looks.ld hmm).andThen .now
 have l0 := looks_findIn (M := model pw w) XX (find_len k)
 have l1 := L_sub (M := model pw w) XX
 refine call_function_entry kind_len plain_len entry_len (args_len1 _) ?_
 unfold Builtin.«len»
 refine wpAny_bind (m := oneArg "len" _) (wpAny_pure ?_)
 refine wpAny_bind (m := callSpecial? (.ref m) (Str.ofString "__len__")) ?_
 unfold callSpecial? specialOf
 refine wpAny_bind (wpAny_bind (ty.here (l0.here ?_)))
 dsimp only
 refine wpAny_holding (wpAny_bind ?_)
 rw [tl_bind]
 refine wpAny_pure (wpAny_bind ?_)
 refine wpAny_call (codeAny_call_builtin tl_plain tl_entry (@check_slot (model pw w) _ _ _ "tuple.__len__" "tuple" "__len__" (.ref m) [] [] _ tl_kind tl_split (ty.andThen l1) (tl_args _) ?_))
 unfold Builtin.«tuple.__len__»
 refine wpAny_bind (m := slotArgs _ _ _) (wpAny_pure ?_)
 dsimp only
 unfold Builtin.Tuple.tupleItemsOf seqItems?
 repeat (first | with_reducible refine wpAny_loadPart hmm ?_ | with_reducible refine wpAny_load hmm ?_ | with_reducible refine wpAny_bind ?_ | with_reducible refine wpAny_pure ?_)
 refine wpAny_mono (Q := fun fin s' => ∃ v, fin = .done (.ret v) ∧ v = .int (items.toArray.size : Int) s.toks ∧ s' = { s with toks := s.toks + 1 }) (E := fun _ _ => False) (wpAny_ret_mkInt ⟨rfl, rfl⟩) (fun fin s' z => ?_) fun _ _ z => z.elim
 obtain ⟨_, rfl, rfl, rfl⟩ := z
 dsimp only
 refine wpAny_pure ?_
 dsimp only
 refine wpAny_bind (wpAny_holding (wpAny_pure ?_))
 refine wpAny_bind (wpAny_letGo ?_)
 show wpAny _ _ (if ((items.toArray.size : Nat) : Int) < 0 then _ else _) _ _ _
 rw [if_neg (by omega)]
 show wpAny _ _ (if ((items.toArray.size : Nat) : Int) ≥ 2 ^ 63 then _ else _) _ _ _
 rw [if_neg (by simp; omega)]
 refine wpAny_bind (wpAny_mkInt (wpAny_pure ⟨_, rfl, ?_⟩))
 simpa using hq _ _
theorem make_gives {T : Addr} {items : List Value} (X : Sm2 g) (kg : Le g s.heap) (hA : Ok A (n + 1)) (hT : g.get? T = some (tupObj items)) (h3 : items.length = 3) :
 Gives pw w A (.call (.ref 89) ⟨[.ref 135, .ref T], []⟩) s [] g (fun g' _ v => ∃ m dx, v = .ref m ∧ g'.get? m = some (mtO dx items)) := by
 have h89 := X.ob2 (89, fnObj fdMMake) (.tail _ (.tail _ (.tail _ (.tail _ (.head _)))))
 refine Gives.enter (fd := fdMMake) (body := bodyMMake) [.ref 135, .ref T] ["cls", "iterable"] ["result"] ["tuple", "len", "TypeError"] [] (kg _ _ h89) rfl (X.lim.keeps kg) (X.mkrec.keeps kg) hA rfl (BindsTo.of_eq rfl) rfl (by decide +kernel) kg (fun p hp => nomatch hp) .nil fun h₁ env A' t' hA' C F => ?_
 dsimp only [List.map_cons, List.map_nil, List.append_nil, List.cons_append, List.nil_append] at F C
 refine doc_ C fun t' => ?_
 refine wpAny_execs_cons ?_
 refine wpAny_Assign_Name ?_
 refine ME2 rfl rfl ?_
 refine N_tuple C X.toStat F.keep (.head _) ?_
 intro pl
 dsimp only
 refine meth_type (T := "tuple") (name := "__new__") (v := .builtin "tuple.__new__") ty_tuple st_tuple find_tnew hi_tnew ?_
 dsimp only
 refine ld0 C F ?_
 refine ld1 C F ?_
 refine ⟨trivial, ?_⟩
 refine tnew F X (.inl hT) (by omega) fun m dx g₃ h' k3 hm F => ?_
 refine st2 C F fun h' F => ?_
 dsimp only
 refine wpAny_execs_cons ?_
 refine wpAny_If (wpAny_isTrue_Compare1 ?_)
 refine C1 (N_len C (X.up k3).toStat F.keep (.tail _ (.head _)) ?_)
 refine ld2 C F ⟨trivial, ?_⟩
 refine len_mt (X.up k3) F.keep hm (by omega) fun t t' => ?_
 refine wpAny_Constant_int (P.ne_int (wpAny_truthy_bool ?_))
 rw [if_neg (by simp [h3])]
 refine wpAny_execs_nil ?_
 refine wpAny_execs_cons ?_
 refine wpAny_Return_some ?_
 refine ld2 C F ?_
 exact ends F ⟨m, dx, rfl, hm⟩
theorem bd_call {a : Addr} {v : Value} {Q : Value → Shared → Prop} (ha : s.heap.get? a = some bdO) (h : ∀ R : Result → Shared → Prop, (∀ v s', Q v s' → R (.ok (.ret v)) s') → codeAny (model pw w) A (.call (.ref 89) ⟨[.ref 135, v], []⟩) R s) : wpAny (model pw w) A (call (.ref a) [v]) Q E s := by
 refine wpAny_call (codeAny_of_tree ?_)
 show wpAny _ _ (callAny (.ref a) _) _ _ _
 unfold callAny
 refine wpAny_bind (wpAny_load ha ?_)
 dsimp only
 rw [if_pos (by decide)]
 show wpAny _ _ (again (.call (.ref 89) ⟨[.ref 135, v], []⟩)) _ _ _
 exact wpAny_pure ⟨rfl, h _ fun v s' z => z⟩
end
section
variable {prog : Program} {w : World} {A : Around} {s : Shared} {env : Env} {E : Value → Shared → Prop} {N Gl : List Str}
theorem swp3 {a b c : Str} {pa pb pc tp p2 : Pos} {k k2 : Nat} {e1 e2 e3 : Expr} (C : Cx env N Gl) (i j l : Nat) (hi : N[i]? = some a) (hj : N[j]? = some b) (hl : N[l]? = some c) (hab : i ≠ j) (hac : i ≠ l) (hbc : j ≠ l) (l1 : (pb.line == pa.line) = true := by rfl) (l2 : (pc.line == pa.line) = true := by rfl)
 (n1 : (match e1 with | .Starred _ _ => true | _ => false) = false := by rfl) (n2 : (match e2 with | .Starred _ _ => true | _ => false) = false := by rfl) (n3 : (match e3 with | .Starred _ _ => true | _ => false) = false := by rfl)
 (h2 : [e1, e2, e3].all (foldedForSure 8) = false := by rfl) (h3 : [e1, e2, e3].all (constantsAlone 8) = false := by rfl) :
 swappedStores [.Tuple [.Name a pa, .Name b pb, .Name c pc] k tp] (.Tuple [e1, e2, e3] k2 p2) env = pure (some [a, b, c]) := by
 have hk : (env.blockKind != ScopeKind.function) = false := by have := C.kind; simp [Env.blockKind, this, ScopeKind.isAnnotationScope]
 have ka := (C.loc i a hi).1
 have kb := (C.loc j b hj).1
 have kc := (C.loc l c hl).1
 have ne : ∀ {x y : Nat} {p q : Str}, N[x]? = some p → N[y]? = some q → x ≠ y → p ≠ q := fun hx hy hxy z => by
  subst z
  obtain ⟨li, ei⟩ := List.getElem?_eq_some_iff.mp hx
  obtain ⟨lj, ej⟩ := List.getElem?_eq_some_iff.mp hy
  exact hxy ((List.getElem_inj C.nodup).mp (ei.trans ej.symm))
 have nab := ne hi hj hab
 have nac := ne hi hl hac
 have nbc := ne hj hl hbc
 unfold swappedStores
 simp only [List.length_cons, List.length_nil, hk, List.any_cons, List.any_nil, n1, n2, n3, h2, h3, List.head?_cons, Option.map_some, Option.getD_some, Expr.pos, List.filterMap_cons, List.filterMap_nil, ka, kb, kc, l1, l2, beq_self_eq_true, Bool.and_self, if_true, Nat.reduceAdd, Bool.or_false, Bool.not_true, Bool.false_or, bne_self_eq_false, Bool.or_self, Bool.false_eq_true, if_false]
 simp [List.eraseDups_cons, nab, nac, nbc, Ne.symm nab, Ne.symm nac, Ne.symm nbc]
 rintro (h | h | h)
 · exact absurd (n1.symm.trans h) (by decide)
 · exact absurd (n2.symm.trans h) (by decide)
 · exact absurd (n3.symm.trans h) (by decide)
end
structure SS where
 bi : Nat
 bj : Nat
 bk : Nat
 prev : Option (Nat × Nat)
def ranOn (p : Option (Nat × Nat)) (j : Nat) : Nat := match p with | some (j', k') => if j' + 1 = j then k' else 0 | none => 0
def hit (blo bhi i j : Nat) (s : SS) : SS :=
 if j < blo ∨ bhi ≤ j then { s with prev := none }
 else if s.bk < ranOn s.prev j + 1 then ⟨i + 1 - (ranOn s.prev j + 1), j + 1 - (ranOn s.prev j + 1), ranOn s.prev j + 1, some (j, ranOn s.prev j + 1)⟩
 else { s with prev := some (j, ranOn s.prev j + 1) }
def row (A B : List Str) (blo bhi i : Nat) (s : SS) : SS :=
 match (A[i]?).bind fun x => B.idxOf? x with
 | none => { s with prev := none }
 | some j => hit blo bhi i j s
def scan (A B : List Str) (blo bhi : Nat) : Nat → Nat → SS → SS
 | 0, _, s => s
 | n + 1, i, s => scan A B blo bhi n (i + 1) (row A B blo bhi i s)
theorem scan_snoc (A B : List Str) (blo bhi : Nat) : ∀ (n i : Nat) (s : SS), scan A B blo bhi (n + 1) i s = row A B blo bhi (i + n) (scan A B blo bhi n i s)
 | 0, i, s => rfl
 | n + 1, i, s => by
  rw [scan, scan_snoc A B blo bhi n (i + 1), scan, show i + 1 + n = i + (n + 1) by omega]
def SSok (i : Nat) (s : SS) : Prop := ∀ j k, s.prev = some (j, k) → k ≤ i ∧ k ≤ j + 1
theorem ranOn_le {i j : Nat} {s : SS} (h : SSok i s) : ranOn s.prev j ≤ i ∧ ranOn s.prev j ≤ j := by
 unfold ranOn
 cases q : s.prev with
 | none => simp
 | some p =>
  obtain ⟨j', k'⟩ := p
  have := h j' k' q
  dsimp only
  split <;> omega
theorem hit_ok {blo bhi i j : Nat} {s : SS} (h : SSok i s) : SSok (i + 1) (hit blo bhi i j s) := by
 have := ranOn_le (j := j) h
 intro j' k' e
 unfold hit at e
 split at e
 · cases e
 · split at e
   · simp at e; omega
   · simp at e; omega
theorem row_ok {A B : List Str} {blo bhi i : Nat} {s : SS} (h : SSok i s) : SSok (i + 1) (row A B blo bhi i s) := by
 unfold row
 split
 · intro j k e; cases e
 · exact hit_ok h
theorem scan_ok {A B : List Str} {blo bhi : Nat} : ∀ {n i : Nat} {s : SS}, SSok i s → SSok (i + n) (scan A B blo bhi n i s)
 | 0, i, s, h => h
 | n + 1, i, s, h => by
  rw [scan_snoc]
  exact row_ok (scan_ok h)
def first (alo blo : Nat) : SS := ⟨alo, blo, 0, none⟩
theorem first_ok (alo blo : Nat) : SSok alo (first alo blo) := fun j k e => by cases e
def Pv (p : Option (Nat × Nat)) (es : List DictEntry) : Prop := match p with
 | none => es = []
 | some (j, k) => ∃ t u, es = [⟨hashInt j, .int j t, .int k u⟩]
theorem Pv.keys {prog : Program} {w : World} {p : Option (Nat × Nat)} {es : List DictEntry} (h : Pv p es) : KeysOf (intKind prog w) es.toArray := by
 intro e he
 rw [List.mem_toArray] at he
 unfold Pv at h
 split at h
 · subst h; simp at he
 · rename_i j k
   obtain ⟨t, u, rfl⟩ := h
   rw [List.mem_singleton] at he
   subst he
   exact ⟨(j : Int), by show Value.isInt (j : Int) (.int (j : Int) t) = true; simp [Value.isInt], rfl⟩
theorem Pv.find {prog : Program} {w : World} {p : Option (Nat × Nat)} {es : List DictEntry} (h : Pv p es) (j : Nat) (u₀ : Tok) : ∃ u, (findBy (intKind prog w).is es.toArray ((j : Int) - 1)).getD (.int 0 u₀) = .int (ranOn p j : Int) u := by
 unfold Pv at h
 split at h
 · subst h; exact ⟨u₀, rfl⟩
 · rename_i j' k'
   obtain ⟨t, u, rfl⟩ := h
   unfold findBy ranOn
   rw [List.find?_toArray, List.find?_cons]
   show ∃ u₁, (Option.map _ (match Value.isInt ((j : Int) - 1) (.int (j' : Int) t) with | true => _ | false => _)).getD _ = _
   dsimp only
   by_cases q : j' + 1 = j
   · subst q
     rw [if_pos rfl]
     have : Value.isInt (((j' + 1 : Nat) : Int) - 1) (.int (j' : Int) t) = true := by simp [Value.isInt]
     rw [this]
     exact ⟨u, rfl⟩
   · rw [if_neg q]
     have : Value.isInt ((j : Int) - 1) (.int (j' : Int) t) = false := by simp [Value.isInt]; omega
     rw [this]
     exact ⟨u₀, rfl⟩
theorem idx_at {B : List Str} {x : Str} {j : Nat} (h : B.idxOf? x = some j) : B[j]? = some x := by
 rw [List.idxOf?, List.findIdx?_eq_some_iff_getElem] at h
 obtain ⟨l, a1, _⟩ := h
 rw [List.getElem?_eq_getElem l, eq_of_beq a1]
theorem idx_of {B : List Str} (hn : B.Nodup) {x : Str} {j : Nat} (h : B[j]? = some x) : B.idxOf? x = some j := by
 cases q : B.idxOf? x with
 | none =>
  rw [List.idxOf?, List.findIdx?_eq_none_iff] at q
  have := q x (List.mem_of_getElem? h)
  simp at this
 | some i =>
  have e := idx_at q
  have := (List.getElem?_inj (List.getElem?_eq_some_iff.mp e).1 hn).mp (e.trans h.symm)
  rw [this]
theorem B2j.find {prog : Program} {w : World} {g : Heap} {l : List (Str × Tok)} {es : List DictEntry} (h : B2j w g l es) (hn : (l.map (·.1)).Nodup) (x : Str) :
 ((l.map (·.1)).idxOf? x = none ∧ findBy (strKind prog w).is es.toArray x = none) ∨ ∃ j r k t, (l.map (·.1)).idxOf? x = some j ∧ findBy (strKind prog w).is es.toArray x = some (.ref r) ∧ g.get? r = some (lstObj [.int (j : Int) t] k) := by
 unfold findBy
 rw [List.find?_toArray]
 cases q : es.find? (fun e => (strKind prog w).is x e.key) with
 | some e =>
  refine .inr ?_
  obtain ⟨i, y, t, r, a, b, rfl⟩ := h.at' (List.mem_of_find?_eq_some q)
  have z := List.find?_some q
  have z' : (y == x) = true := z
  have := eq_of_beq z'
  subst this
  obtain ⟨r', k, t', a', b'⟩ := h.2 i y t a
  rw [b] at a'
  have er : r = r' := by simpa using a'
  subst er
  exact ⟨i, r, k, t', idx_of hn (by rw [List.getElem?_map, a]; rfl), rfl, b'⟩
 | none =>
  refine .inl ⟨?_, rfl⟩
  cases q2 : (l.map (·.1)).idxOf? x with
  | none => rfl
  | some i =>
   have e := idx_at q2
   rw [List.getElem?_map] at e
   obtain ⟨⟨y, t⟩, a, rfl⟩ := Option.map_eq_some_iff.mp e
   obtain ⟨r, k, t', b, _⟩ := h.2 i y t a
   have := List.find?_eq_none.mp q _ (List.mem_of_getElem? b)
   exact absurd (show (strKind prog w).is y (.str y t) = true by show Value.isStrOf y (.str y t) = true; simp [Value.isStrOf]) this
theorem int_is {prog : Program} {w : World} {k : Int} {t : Tok} : (intKind prog w).is k (.int k t) = true := by show Value.isInt k (.int k t) = true; simp [Value.isInt]
section
variable {M : Model} {A : Around} {E : Value → Shared → Prop} {s : Shared} {env : Env}
theorem C1b {id : Str} {p pos : Pos} {a : Expr} {Q : Value → Shared → Prop} (h : wpAny M A (eval (.Name id p) env) (fun f s₁ => ∃ m, f = .ref m ∧ wpAny M A (eval a env) (fun v s₂ => ∃ d i, s₂.heap.get? m = some (bmO i d) ∧ wpAny M A (call f [v]) Q E s₂) E s₁) E s)
 (he : starEach [a] env = [(false, eval a env)] := by rfl) : wpAny M A (eval (.Call (.Name id p) [a] [] pos) env) Q E s := by
 rw [arm_eval_Call_Name', he]
 refine wpAny_bind (wpAny_mono h (fun f s₁ h₁ => ?_) fun _ _ e => e)
 obtain ⟨m, rfl, h₁⟩ := h₁
 unfold callWith
 refine wpAny_bind (wpAny_holding (wpAny_mono (Q := fun x s₂ => ∃ d i, s₂.heap.get? m = some (bmO i d) ∧ wpAny M A (call (.ref m) x.pos x.kw) Q E s₂) (evalArgs_plain (spliced_cons (wpAny_mono h₁ (fun v s₂ h₂ => spliced_nil h₂) fun _ _ e => e))) (fun x s₂ h₂ => wpAny_bind (wpAny_standAt ?_)) fun _ _ e => e))
 obtain ⟨d, i, ho, hc⟩ := h₂
 have tail : ∀ {t : Sem Value}, wpAny M A t Q E s₂ → wpAny M A (t >>= fun r => holding [r] point >>= fun _ => pure r) Q E s₂ :=
  fun ht => wpAny_bind (wpAny_mono ht (fun r s₂ hr => wpAny_bind (wpAny_holding (wpAny_point (wpAny_pure hr)))) fun _ _ x => x)
 simp only [List.any_cons, List.any_nil, Bool.or_false]
 refine wpAny_bind (m := keeperOf (.ref m)) ?_
 unfold keeperOf
 refine wpAny_bind (wpAny_load ho ?_)
 refine wpAny_pure ?_
 rw [if_pos (by rfl)]
 exact tail hc
theorem C2b {id : Str} {p pos : Pos} {a b : Expr} {Q : Value → Shared → Prop} (h : wpAny M A (eval (.Name id p) env) (fun f s₁ => ∃ m, f = .ref m ∧ wpAny M A (eval a env) (fun v s₂ => wpAny M A (eval b env) (fun u s₃ => ∃ d i, s₃.heap.get? m = some (bmO i d) ∧ wpAny M A (call f [v, u]) Q E s₃) E s₂) E s₁) E s)
 (he : starEach [a, b] env = [(false, eval a env), (false, eval b env)] := by rfl) : wpAny M A (eval (.Call (.Name id p) [a, b] [] pos) env) Q E s := by
 rw [arm_eval_Call_Name', he]
 refine wpAny_bind (wpAny_mono h (fun f s₁ h₁ => ?_) fun _ _ e => e)
 obtain ⟨m, rfl, h₁⟩ := h₁
 unfold callWith
 refine wpAny_bind (wpAny_holding (wpAny_mono (Q := fun x s₂ => ∃ d i, s₂.heap.get? m = some (bmO i d) ∧ wpAny M A (call (.ref m) x.pos x.kw) Q E s₂) (evalArgs_plain (spliced_cons (wpAny_mono h₁ (fun v s₂ h₂ => spliced_cons (wpAny_mono h₂ (fun u s₃ h₃ => spliced_nil h₃) fun _ _ e => e)) fun _ _ e => e))) (fun x s₂ h₂ => wpAny_bind (wpAny_standAt ?_)) fun _ _ e => e))
 obtain ⟨d, i, ho, hc⟩ := h₂
 have tail : ∀ {t : Sem Value}, wpAny M A t Q E s₂ → wpAny M A (t >>= fun r => holding [r] point >>= fun _ => pure r) Q E s₂ :=
  fun ht => wpAny_bind (wpAny_mono ht (fun r s₂ hr => wpAny_bind (wpAny_holding (wpAny_point (wpAny_pure hr)))) fun _ _ x => x)
 simp only [List.any_cons, List.any_nil, Bool.or_false]
 refine wpAny_bind (m := keeperOf (.ref m)) ?_
 unfold keeperOf
 refine wpAny_bind (wpAny_load ho ?_)
 refine wpAny_pure ?_
 rw [if_pos (by rfl)]
 exact tail hc
theorem asgS {o i : Expr} {pos : Pos} {v : Value} {Q : Unit → Shared → Prop} (h : wpAny M A (eval o env) (fun ov s₁ => wpAny M A (eval i env) (fun iv s₂ => wpAny M A (setItem ov iv v) (fun _ => Q ()) E s₂) E s₁) E s) : wpAny M A (assign (.Subscript o i pos) env v) Q E s := by
 intro Γ p hΓ
 simp only [arm_assign_Subscript, Sem.wp_bind', Sem.wp_holding, Sem.wp_cmd_standAt, Sem.wp_release, Sem.wp_pure']
 exact Sem.wp_mono M Γ _ (fun ov p₁ s₁ h₁ => Sem.wp_mono M Γ _ (fun iv _ s₂ h₂ => h₂ Γ _ hΓ) (fun _ _ _ h' => h') _ _ (h₁ Γ p₁ hΓ)) (fun _ _ _ h' => h') _ _ (h Γ p hΓ)
theorem C3k {id : Str} {p pos : Pos} {a b c : Expr} {Q : Value → Shared → Prop} (h : wpAny M A (eval (.Name id p) env) (fun f s₁ => ∃ m, f = .ref m ∧ wpAny M A (eval a env) (fun v s₂ => wpAny M A (eval b env) (fun u s₃ => wpAny M A (eval c env) (fun x s₄ =>
 (∃ oc od cd sl, s₄.heap.get? m = some ⟨oc, od, .cls cd, sl⟩) ∧ Looks M s₄.heap (specialOf (.ref m) "__call__") (some (.builtin "type.__call__")) ∧ wpAny M A (call f [v, u, x]) Q E s₄) E s₃) E s₂) E s₁) E s)
 (he : starEach [a, b, c] env = [(false, eval a env), (false, eval b env), (false, eval c env)] := by rfl) : wpAny M A (eval (.Call (.Name id p) [a, b, c] [] pos) env) Q E s := by
 rw [arm_eval_Call_Name', he]
 refine wpAny_bind (wpAny_mono h (fun f s₁ h₁ => ?_) fun _ _ e => e)
 obtain ⟨m, rfl, h₁⟩ := h₁
 unfold callWith
 refine wpAny_bind (wpAny_holding (wpAny_mono (Q := fun x s₂ => (∃ oc od cd sl, s₂.heap.get? m = some ⟨oc, od, .cls cd, sl⟩) ∧ Looks M s₂.heap (specialOf (.ref m) "__call__") (some (.builtin "type.__call__")) ∧ wpAny M A (call (.ref m) x.pos x.kw) Q E s₂) (evalArgs_plain (spliced_cons (wpAny_mono h₁ (fun v s₂ h₂ => spliced_cons (wpAny_mono h₂ (fun u s₃ h₃ => spliced_cons (wpAny_mono h₃ (fun z s₄ h₄ => spliced_nil h₄) fun _ _ e => e)) fun _ _ e => e)) fun _ _ e => e))) (fun x s₂ h₂ => wpAny_bind (wpAny_standAt ?_)) fun _ _ e => e))
 obtain ⟨⟨oc, od, cd, sl, ho⟩, hl, hc⟩ := h₂
 have tail : ∀ {t : Sem Value}, wpAny M A t Q E s₂ → wpAny M A (t >>= fun r => holding [r] point >>= fun _ => pure r) Q E s₂ :=
  fun ht => wpAny_bind (wpAny_mono ht (fun r s₂ hr => wpAny_bind (wpAny_holding (wpAny_point (wpAny_pure hr)))) fun _ _ x => x)
 simp only [List.any_cons, List.any_nil, Bool.or_false]
 refine wpAny_bind (m := keeperOf (.ref m)) ?_
 unfold keeperOf
 refine wpAny_bind (wpAny_load ho ?_)
 dsimp only
 refine wpAny_bind (hl.here ?_)
 refine wpAny_pure ?_
 rw [if_pos (by rfl)]
 exact tail hc
end
section
variable {w : World} {A : Around} {E : Value → Shared → Prop} {s : Shared} {env : Env}
theorem addZ {a b : Int} {c : Nat} {t u : Tok} {Q : Value → Shared → Prop} (e : a + b = (c : Int)) (h : Q (.int (c : Int) s.toks) { s with toks := s.toks + 1 }) : wpAny (model pw w) A (binaryOp .Add (.int a t) (.int b u)) Q E s :=
 wpAny_add_int (by rw [e]; exact h)
theorem subZ {a b : Int} {c : Nat} {t u : Tok} {Q : Value → Shared → Prop} (e : a - b = (c : Int)) (h : Q (.int (c : Int) s.toks) { s with toks := s.toks + 1 }) : wpAny (model pw w) A (binaryOp .Sub (.int a t) (.int b u)) Q E s :=
 P.sub_int (by rw [e]; exact h)
theorem attrG {a : Addr} {es : List DictEntry} {n : Nat} {Q : Value → Shared → Prop} (ho : s.heap.get? a = some (dcO es n)) (hq : Q (.ref s.heap.objs.size) { s with heap := s.heap.push (bmO "dict.get" a), toks := s.toks + 1 }) :
 wpAny (model pw w) A (getAttr (.ref a) "get" true) Q E s := by
 obtain ⟨h, g, d, t, os⟩ := s
 exact attr_get ho hq
theorem attrC {a : Addr} {led : Bool} {Q : Value → Shared → Prop} (ho : s.heap.get? a = some (setO0 led)) (hq : Q (.ref s.heap.objs.size) { s with heap := s.heap.push (bmO "set.__contains__" a), toks := s.toks + 1 }) :
 wpAny (model pw w) A (getAttr (.ref a) "__contains__" true) Q E s := by
 obtain ⟨h, g, d, t, os⟩ := s
 exact attr_con ho hq
end
structure Ready (w : World) (g h : Heap) (x dx la lb db dj dp : Addr) (TA TB : List (Str × Tok)) (mb oc : Value) : Prop where
 hx : g.get? x = some (instO dx)
 me : Me h x dx [.none, .ref la, .ref lb, .bool true, mb, oc, .none, .ref db, .ref dj, .ref dp]
 a : ∃ k, g.get? la = some (lstObj (strValues TA) k)
 b : ∃ k, g.get? lb = some (lstObj (strValues TB) k)
 b2 : ∃ es n, g.get? db = some (dcO es n) ∧ B2j w g TB es
 dbs : db ≠ sysModules
 jk : ∃ led, g.get? dj = some (setO0 led)
 nb : (TB.map (·.1)).Nodup
 szA : TA.length < 200
 szB : TB.length < 200
def HiOk (v : Value) (len n : Nat) : Prop := (∃ t, v = .int (n : Int) t) ∨ (v = .none ∧ n = len)
structure Stop (A B : List Str) (alo ahi blo bhi : Nat) (S : SS) : Prop where
 bef : alo < S.bi → blo < S.bj → A[S.bi - 1]? ≠ B[S.bj - 1]?
 aft : S.bi + S.bk < ahi → S.bj + S.bk < bhi → A[S.bi + S.bk]? ≠ B[S.bj + S.bk]?
 li : S.bi + S.bk ≤ A.length
 lj : S.bj + S.bk ≤ B.length
section
variable {w : World} {A : Around} {s : Shared} {g : Heap} {n : Nat} {x dx la lb db dj dp : Addr} {TA TB : List (Str × Tok)} {mb oc : Value}
abbrev nFind : List Str := ["self", "alo", "ahi", "blo", "bhi", "a", "b", "b2j", "isbjunk", "besti", "bestj", "bestsize", "j2len", "nothing", "i", "j2lenget", "newj2len", "j", "k"]
set_option maxHeartbeats 4000000 in
set_option maxHeartbeats 4000000 in
theorem find_gives (X : Sm2 g) (kg : Le g s.heap) (hA : Ok A (n + 5)) (Rd : Ready w g s.heap x dx la lb db dj dp TA TB mb oc) {args : Args} {alo ahi blo bhi : Nat} {v1 v2 : Value} {t1 t2 : Tok}
 (hb : BindsTo s fdFind args (([("self" : Str), ("alo" : Str), ("ahi" : Str), ("blo" : Str), ("bhi" : Str)]).zip [.ref x, .int (alo : Int) t1, v1, .int (blo : Int) t2, v2])) (h1 : HiOk v1 TA.length ahi) (h2 : HiOk v2 TB.length bhi)
 (la1 : ahi ≤ TA.length) (lb1 : bhi ≤ TB.length) (la0 : alo ≤ TA.length) (lb0 : blo ≤ TB.length)
 (hs : Stop (TA.map (·.1)) (TB.map (·.1)) alo ahi blo bhi (scan (TA.map (·.1)) (TB.map (·.1)) blo bhi (ahi - alo) alo (first alo blo))) :
 Gives pw w A (.call (.ref 196) args) s [] g (fun g' _ v => ∃ m d3 t1 t2 t3, v = .ref m ∧ g'.get? m = some (mtO d3 [.int ((scan (TA.map (·.1)) (TB.map (·.1)) blo bhi (ahi - alo) alo (first alo blo)).bi : Int) t1,
  .int ((scan (TA.map (·.1)) (TB.map (·.1)) blo bhi (ahi - alo) alo (first alo blo)).bj : Int) t2, .int ((scan (TA.map (·.1)) (TB.map (·.1)) blo bhi (ahi - alo) alo (first alo blo)).bk : Int) t3])) := by
 obtain ⟨hx, me, ⟨ka, ea⟩, ⟨kb, eb⟩, ⟨es, en, edb, hB⟩, dbs, ⟨led, ej⟩, nb, szA, szB⟩ := Rd
 refine Gives.go 5 [.ref x, .int (alo : Int) t1, v1, .int (blo : Int) t2, v2] ["self", "alo", "ahi", "blo", "bhi"] ["a", "b", "b2j", "isbjunk", "besti", "bestj", "bestsize", "j2len", "nothing", "i", "j2lenget", "newj2len", "j", "k"] ["len", "range", "Match"] rfl X.toStat kg hA rfl hb rfl (by decide +kernel) fun h₁ env A' t' hA' C F => ?_
 dsimp only [List.map_cons, List.map_nil, List.append_nil, List.cons_append, List.nil_append] at F C
 refine doc_ C fun t' => ?_
 refine wpAny_execs_cons ?_
 refine Assign_Tuple ?_
 refine tupE ?_
 refine sp1 ?_
 refine getE rfl ?_
 refine ld0 C F ?_
 have up {h : Heap} {v : List (Option Value)} {mu : List (Addr × Obj)} {g' : Heap} (F : St s.heap [] g g' env.locals nFind v mu h) : Le s.heap h := fun b o e => F.base b o (by simp) e
 refine getA 1 rfl X.toSm F.keep (me.up (up F)) rfl rfl ?_
 refine sp1 ?_
 refine getE rfl ?_
 refine ld0 C F ?_
 refine getA 2 rfl X.toSm F.keep (me.up (up F)) rfl rfl ?_
 refine sp1 ?_
 refine getE rfl ?_
 refine ld0 C F ?_
 refine getA 7 rfl X.toSm F.keep (me.up (up F)) rfl rfl ?_
 refine sp1 ?_
 refine getE rfl ?_
 refine getE rfl ?_
 refine ld0 C F ?_
 refine getA 8 rfl X.toSm F.keep (me.up (up F)) rfl rfl ?_
 refine attrC (F.keep _ _ ej) ?_
 obtain ⟨g₂, k2, ebm, F⟩ := F.made (bmO "set.__contains__" dj)
 generalize h₁.objs.size = bm at ebm ⊢
 refine sp0 ?_
 refine newTup F fun T g₃ h' k3 eT F => ?_
 refine asT hA'.handled F eT fun h' F => ?_
 refine assignInOrder_cons (assign_Name (st5 C F fun h' F => ?_))
 refine assignInOrder_cons (assign_Name (st6 C F fun h' F => ?_))
 refine assignInOrder_cons (assign_Name (st7 C F fun h' F => ?_))
 refine assignInOrder_cons (assign_Name (st8 C F fun h' F => assignInOrder_nil ?_))
 dsimp only
 have k₃ := k2.tr k3
 have X₃ := X.up k₃
 have ebm := k3 _ _ ebm
 have lenA : (strValues TA).length = TA.length := by simp [strValues]
 have lenB : (strValues TB).length = TB.length := by simp [strValues]
 refine seqP (fun s₂ => ∃ h' t' u, s₂ = { s with heap := h', toks := t' } ∧ St s.heap [] g g₃ env.locals nFind [some (.ref x), some (.int (alo : Int) t1), some (.int (ahi : Int) u), some (.int (blo : Int) t2), some v2, some (.ref la), some (.ref lb), some (.ref db), some (.ref bm), none, none, none, none, none, none, none, none, none, none] [] h') ?_ ?_
 · refine wpAny_If (wpAny_isTrue_Compare1 ?_)
   refine ld2 C F (wpAny_Constant_none (is_none (wpAny_truthy_bool ?_)))
   rcases h1 with ⟨u, rfl⟩ | ⟨rfl, rfl⟩
   · exact wpAny_execs_nil ⟨rfl, _, _, u, rfl, F⟩
   · refine wpAny_execs_cons ?_
     refine wpAny_Assign_Name ?_
     refine C1 (N_len C X₃.toStat F.keep (.head _) (ld5 C F ⟨trivial, ?_⟩))
     refine lenL F.keep (k₃ _ _ ea) (by omega) fun t t' => ?_
     rw [lenA]
     refine st2 C F fun h' F => ?_
     exact wpAny_execs_nil ⟨rfl, _, _, t, rfl, F⟩
 rintro s₂ ⟨h', t', u1, rfl, F⟩
 refine seqP (fun s₂ => ∃ h' t' u, s₂ = { s with heap := h', toks := t' } ∧ St s.heap [] g g₃ env.locals nFind [some (.ref x), some (.int (alo : Int) t1), some (.int (ahi : Int) u1), some (.int (blo : Int) t2), some (.int (bhi : Int) u), some (.ref la), some (.ref lb), some (.ref db), some (.ref bm), none, none, none, none, none, none, none, none, none, none] [] h') ?_ ?_
 · refine wpAny_If (wpAny_isTrue_Compare1 ?_)
   refine ld4 C F (wpAny_Constant_none (is_none (wpAny_truthy_bool ?_)))
   rcases h2 with ⟨u, rfl⟩ | ⟨rfl, rfl⟩
   · exact wpAny_execs_nil ⟨rfl, _, _, u, rfl, F⟩
   · refine wpAny_execs_cons ?_
     refine wpAny_Assign_Name ?_
     refine C1 (N_len C X₃.toStat F.keep (.head _) (ld6 C F ⟨trivial, ?_⟩))
     refine lenL F.keep (k₃ _ _ eb) (by omega) fun t t' => ?_
     rw [lenB]
     refine st4 C F fun h' F => ?_
     exact wpAny_execs_nil ⟨rfl, _, _, t, rfl, F⟩
 rintro s₂ ⟨h', t', u2, rfl, F⟩
 refine wpAny_execs_cons ?_
 refine Assign_Tuple_swapped (names := ["besti", "bestj", "bestsize"]) ?_ rfl (swp3 C 9 10 11 rfl rfl rfl (by decide) (by decide) (by decide))
 refine tupE ?_
 refine sp1 (ld1 C F ?_)
 refine sp1 (ld3 C F ?_)
 refine sp1 (wpAny_Constant_int ?_)
 refine sp0 ?_
 refine newTup F fun T0 g₄ h' k4 eT0 F => ?_
 refine unp hA'.handled F eT0 rfl fun h' F => ?_
 dsimp only
 refine assignInOrder_cons (wpAny_bindName (st11 C F fun h' F => ?_))
 refine assignInOrder_cons (wpAny_bindName (st10 C F fun h' F => ?_))
 refine assignInOrder_cons (wpAny_bindName (st9 C F fun h' F => assignInOrder_nil ?_))
 dsimp only
 refine wpAny_execs_cons ?_
 refine wpAny_Assign_Name ?_
 refine wpAny_Dict_empty ?_
 have hbig : 428 < s.heap.objs.size := Heap.lt_size (kg _ _ (X.fnAt 25 rfl))
 have hlow : s.heap.objs.size ≤ h'.objs.size := F.lowSz
 have hd0 : h'.objs.size ≠ sysModules := fun e => by
  have h1 : s.heap.objs.size ≤ 1 := Nat.le_trans hlow (Nat.le_of_eq e)
  omega
 obtain ⟨g₅, k5, ed0, F⟩ := F.made (dcO [] 0)
 generalize h'.objs.size = d0 at ed0 hd0 ⊢
 refine st12 C F fun h' F => ?_
 dsimp only
 refine wpAny_execs_cons ?_
 refine wpAny_Assign_Name ?_
 refine lstE (sp0 ?_)
 refine newLst F fun no1 g₆ h' k6 eno F => ?_
 refine st13 C F fun h' F => ?_
 dsimp only
 have k₆ := (k₃.tr k4).tr (k5.tr k6)
 have X₆ := X.up k₆
 refine seqP (fun s₂ => ∃ h' t' g₂ d b1 b2 b3 u14 u15 u16 u17 u18, s₂ = { s with heap := h', toks := t' } ∧ Le g₆ g₂ ∧ St s.heap [] g g₂ env.locals nFind [some (.ref x), some (.int (alo : Int) t1), some (.int (ahi : Int) u1), some (.int (blo : Int) t2), some (.int (bhi : Int) u2), some (.ref la), some (.ref lb), some (.ref db), some (.ref bm), some (.int ((scan (TA.map (·.1)) (TB.map (·.1)) blo bhi (ahi - alo) alo (first alo blo)).bi : Int) b1), some (.int ((scan (TA.map (·.1)) (TB.map (·.1)) blo bhi (ahi - alo) alo (first alo blo)).bj : Int) b2), some (.int ((scan (TA.map (·.1)) (TB.map (·.1)) blo bhi (ahi - alo) alo (first alo blo)).bk : Int) b3), some (.ref d), some (.ref no1), u14, u15, u16, u17, u18] [] h') ?_ ?_
 · refine For_ ?_
   refine C2 (N_range C X₆.toStat F.keep (.tail _ (.head _)) (ld1 C F (ld2 C F ⟨trivial, ?_⟩)))
   refine rng2 F fun rr g₇ h' r1 r2 r3 rk k7 err F => ?_
   have X₇ := X₆.up k7
   refine each_range (a := alo) (b := ahi) (fun i g' vs' mu' => mu' = [] ∧ Sm2 g' ∧ ∃ d es n b1 b2 b3 u14 u15 u16 u17 u18, vs' = [some (.ref x), some (.int (alo : Int) t1), some (.int (ahi : Int) u1), some (.int (blo : Int) t2), some (.int (bhi : Int) u2), some (.ref la), some (.ref lb), some (.ref db), some (.ref bm), some (.int ((scan (TA.map (·.1)) (TB.map (·.1)) blo bhi i alo (first alo blo)).bi : Int) b1), some (.int ((scan (TA.map (·.1)) (TB.map (·.1)) blo bhi i alo (first alo blo)).bj : Int) b2), some (.int ((scan (TA.map (·.1)) (TB.map (·.1)) blo bhi i alo (first alo blo)).bk : Int) b3), some (.ref d), some (.ref no1), u14, u15, u16, u17, u18] ∧ g'.get? d = some (dcO es n) ∧ d ≠ sysModules ∧ Pv (scan (TA.map (·.1)) (TB.map (·.1)) blo bhi i alo (first alo blo)).prev es) hA'.handled F err (by omega) (by omega) ⟨rfl, X₇, d0, [], 0, t1, t2, _, none, none, none, none, none, rfl, k7 _ _ (k6 _ _ ed0), hd0, rfl⟩ ?_ ?_
   · rintro i ti g' vs' mu' I oI h tk hi kg' ⟨rfl, X', d, es', n', b1, b2, b3, u14, u15, u16, u17, u18, rfl, ed, hdd, hpv⟩ F
     have hok : SSok (alo + i) (scan (TA.map (·.1)) (TB.map (·.1)) blo bhi i alo (first alo blo)) := scan_ok (first_ok alo blo)
     have esc : scan (TA.map (·.1)) (TB.map (·.1)) blo bhi (i + 1) alo (first alo blo) = row (TA.map (·.1)) (TB.map (·.1)) blo bhi (alo + i) (scan (TA.map (·.1)) (TB.map (·.1)) blo bhi i alo (first alo blo)) := scan_snoc ..
     rw [esc]
     generalize scan (TA.map (·.1)) (TB.map (·.1)) blo bhi i alo (first alo blo) = S at hok hpv F ⊢
     refine st14 C F fun h' F => ?_
     dsimp only
     refine wpAny_execs_cons ?_
     refine wpAny_Assign_Name ?_
     refine getE rfl ?_
     refine ld12 C F ?_
     refine attrG (F.keep _ _ ed) ?_
     obtain ⟨g₈, k8, egm, F⟩ := F.made (bmO "dict.get" d)
     generalize h'.objs.size = gm at egm ⊢
     refine st15 C F fun h' F => ?_
     dsimp only
     refine wpAny_execs_cons ?_
     refine wpAny_Assign_Name ?_
     refine wpAny_Dict_empty ?_
     have hnl : s.heap.objs.size ≤ h'.objs.size := F.lowSz
     have hnd : h'.objs.size ≠ sysModules := fun e => by
      have h1 : s.heap.objs.size ≤ 1 := Nat.le_trans hnl (Nat.le_of_eq e)
      omega
     have F := F.own (dcO [] 0)
     generalize h'.objs.size = nd at F hnl hnd ⊢
     refine st16 C F fun h' F => ?_
     dsimp only
     have hiA : alo + i < TA.length := by omega
     obtain ⟨⟨y, ty⟩, hy⟩ : ∃ p, TA[alo + i]? = some p := ⟨_, List.getElem?_eq_getElem hiA⟩
     have kk := (k₆.tr k7).tr (kg'.tr k8)
     refine seqP (fun s₂ => ∃ h' t' g₂ b1 b2 b3 u17 u18 es2 n2, s₂ = { s with heap := h', toks := t' } ∧ Le g₈ g₂ ∧ St s.heap [] g g₂ env.locals nFind [some (.ref x), some (.int (alo : Int) t1), some (.int (ahi : Int) u1), some (.int (blo : Int) t2), some (.int (bhi : Int) u2), some (.ref la), some (.ref lb), some (.ref db), some (.ref bm), some (.int ((row (TA.map (·.1)) (TB.map (·.1)) blo bhi (alo + i) S).bi : Int) b1), some (.int ((row (TA.map (·.1)) (TB.map (·.1)) blo bhi (alo + i) S).bj : Int) b2), some (.int ((row (TA.map (·.1)) (TB.map (·.1)) blo bhi (alo + i) S).bk : Int) b3), some (.ref d), some (.ref no1), some (.int ((alo + i : Nat) : Int) ti), some (.ref gm), some (.ref nd), u17, u18] [(nd, dcO es2 n2), (I, oI)] h' ∧ Pv (row (TA.map (·.1)) (TB.map (·.1)) blo bhi (alo + i) S).prev es2) ?_ ?_
     · refine For_ ?_
       refine Call_method2 rfl rfl rfl ?_
       refine ld7 C F ?_
       refine M_get (knd := strKind pw w) (F.keep _ _ (kk _ _ edb)) dbs ?_
       refine Subscript_Name ?_
       refine ld5 C F ?_
       refine ld14 C F ?_
       refine itemL F.keep (kk _ _ ea) (x := .str y ty) (by rw [strValues, List.getElem?_map, hy]; rfl) (by omega) ?_
       refine ld13 C F ?_
       refine ⟨y, es, en, by show Value.isStrOf y (.str y ty) = true; simp [Value.isStrOf], F.keep _ _ (kk _ _ edb), hB.keys, ?_⟩
       have hrow : row (TA.map (·.1)) (TB.map (·.1)) blo bhi (alo + i) S = match (TB.map (·.1)).idxOf? y with | none => { S with prev := none } | some j => hit blo bhi (alo + i) j S := by
        unfold row
        rw [List.getElem?_map, hy]; rfl
       rw [hrow]
       rcases hB.find (prog := pw) nb y with ⟨hix, hf⟩ | ⟨j, r, kr, tj, hix, hf, er⟩
       · rw [hf, hix]
         dsimp only [Option.getD_none]
         refine each_list (items := []) (fun ii g' vs' mu' => g' = g₈ ∧ vs' = [some (.ref x), some (.int (alo : Int) t1), some (.int (ahi : Int) u1), some (.int (blo : Int) t2), some (.int (bhi : Int) u2), some (.ref la), some (.ref lb), some (.ref db), some (.ref bm), some (.int ((S).bi : Int) b1), some (.int ((S).bj : Int) b2), some (.int ((S).bk : Int) b3), some (.ref d), some (.ref no1), some (.int ((alo + i : Nat) : Int) ti), some (.ref gm), some (.ref nd), u17, u18] ∧ mu' = [(nd, dcO [] 0), (I, oI)]) hA'.handled F (k8 _ _ (kg' _ _ (k7 _ _ eno))) ⟨rfl, rfl, rfl⟩ ?_ ?_
         · intro i v g' vs' mu' I oI h tk hv; simp at hv
         · rintro g' vs' mu' h tk _ ⟨rfl, rfl, rfl⟩ F
           exact ⟨rfl, _, _, g', _, _, _, _, _, _, _, rfl, Le.rfl', F, rfl⟩
       · rw [hf, hix]
         dsimp only [Option.getD_some]
         have hjB : j < TB.length := by have := (List.getElem?_eq_some_iff.mp (idx_at hix)).1; simpa using this
         refine each_list (items := [.int (j : Int) tj]) (fun ii g' vs' mu' => match ii with
          | 0 => g' = g₈ ∧ vs' = [some (.ref x), some (.int (alo : Int) t1), some (.int (ahi : Int) u1), some (.int (blo : Int) t2), some (.int (bhi : Int) u2), some (.ref la), some (.ref lb), some (.ref db), some (.ref bm), some (.int ((S).bi : Int) b1), some (.int ((S).bj : Int) b2), some (.int ((S).bk : Int) b3), some (.ref d), some (.ref no1), some (.int ((alo + i : Nat) : Int) ti), some (.ref gm), some (.ref nd), u17, u18] ∧ mu' = [(nd, dcO [] 0), (I, oI)]
          | _ + 1 => Le g₈ g' ∧ ∃ c1 c2 c3 v17 v18 es2 n2, vs' = [some (.ref x), some (.int (alo : Int) t1), some (.int (ahi : Int) u1), some (.int (blo : Int) t2), some (.int (bhi : Int) u2), some (.ref la), some (.ref lb), some (.ref db), some (.ref bm), some (.int ((hit blo bhi (alo + i) j S).bi : Int) c1), some (.int ((hit blo bhi (alo + i) j S).bj : Int) c2), some (.int ((hit blo bhi (alo + i) j S).bk : Int) c3), some (.ref d), some (.ref no1), some (.int ((alo + i : Nat) : Int) ti), some (.ref gm), some (.ref nd), v17, v18] ∧ mu' = [(nd, dcO es2 n2), (I, oI)] ∧ Pv (hit blo bhi (alo + i) j S).prev es2) hA'.handled F (kk _ _ er) ⟨rfl, rfl, rfl⟩ ?_ ?_
         · rintro ii v g' vs' mu' I2 oI2 h tk hv kg2 hJ F
           cases ii with
           | succ ii => simp at hv
           | zero =>
           obtain ⟨rfl, rfl, rfl⟩ := hJ
           obtain rfl : Value.int (j : Int) tj = v := by simpa using hv
           refine st17 C F fun h' F => ?_
           dsimp only
           refine wpAny_execs_cons ?_
           refine wpAny_If (wpAny_isTrue_Compare1 (ld17 C F (ld3 C F (P.lt_int (wpAny_truthy_bool ?_)))))
           by_cases hlo : j < blo
           · rw [if_pos (by simpa using hlo)]
             refine wpAny_execs_cons (wpAny_Continue ?_)
             have eh : hit blo bhi (alo + i) j S = { S with prev := none } := by unfold hit; rw [if_pos (.inl hlo)]
             rw [eh]
             exact turn_cont Le.rfl' F ⟨Le.rfl', b1, b2, b3, _, _, [], 0, rfl, rfl, rfl⟩
           rw [if_neg (by simpa using hlo)]
           refine wpAny_execs_nil ?_
           refine wpAny_execs_cons ?_
           refine wpAny_If (wpAny_isTrue_Compare1 (ld17 C F (ld4 C F (P.ge_int (wpAny_truthy_bool ?_)))))
           by_cases hhi : bhi ≤ j
           · rw [if_pos (by simpa using hhi)]
             refine wpAny_execs_cons (wpAny_Break ?_)
             have eh : hit blo bhi (alo + i) j S = { S with prev := none } := by unfold hit; rw [if_pos (.inr hhi)]
             rw [eh]
             exact ⟨rfl, _, _, g', b1, b2, b3, _, _, [], 0, rfl, Le.rfl', F.sub (List.sublist_cons_self _ _), rfl⟩
           rw [if_neg (by simpa using hhi)]
           refine wpAny_execs_nil ?_
           refine wpAny_execs_cons ?_
           refine Asg2 ?_
           refine wpAny_BinOp ?_
           refine C2b ?_
           refine ld15 C F ⟨gm, rfl, ?_⟩
           refine wpAny_BinOp ?_
           refine ld17 C F ?_
           refine wpAny_Constant_int ?_
           refine P.sub_int ?_
           refine wpAny_Constant_int ?_
           refine ⟨d, "dict.get", F.keep _ _ (kg2 _ _ egm), ?_⟩
           refine bget (knd := intKind pw w) (k := (j : Int) - 1) (F.keep _ _ (kg2 _ _ egm)) hdd int_is (F.keep _ _ (kg2 _ _ (k8 _ _ ed))) hpv.keys ?_
           obtain ⟨ur, hur⟩ := hpv.find (prog := pw) (w := w) j _
           rw [hur]
           refine wpAny_Constant_int ?_
           refine addZ (c := ranOn S.prev j + 1) (by push_cast; rfl) ?_
           have hr := ranOn_le (j := j) hok
           have eh1 : S.bk < ranOn S.prev j + 1 → hit blo bhi (alo + i) j S = ⟨alo + i + 1 - (ranOn S.prev j + 1), j + 1 - (ranOn S.prev j + 1), ranOn S.prev j + 1, some (j, ranOn S.prev j + 1)⟩ := fun z => by unfold hit; rw [if_neg (by omega), if_pos z]
           have eh2 : ¬ S.bk < ranOn S.prev j + 1 → hit blo bhi (alo + i) j S = { S with prev := some (j, ranOn S.prev j + 1) } := fun z => by unfold hit; rw [if_neg (by omega), if_neg z]
           generalize hit blo bhi (alo + i) j S = HS at eh1 eh2 ⊢
           generalize ranOn S.prev j = q at hr eh1 eh2 ⊢
           refine asgN (st18 C F fun h' F => ?_)
           dsimp only
           refine asgS ?_
           refine ld16 C F ?_
           refine ld17 C F ?_
           refine setItem_new (knd := intKind pw w) (k := (j : Int)) int_is (F.mt (nd, dcO [] 0) (by simp)).1 (by intro e he; simp at he) (by intro e he; simp at he) (by simp) fun h' hs he => ?_
           have F := F.turn (pre := [(I2, oI2)]) (post := [(I, oI)]) rfl hs he
           dsimp only [List.cons_append, List.nil_append] at F
           refine wpAny_execs_cons ?_
           refine wpAny_If (wpAny_isTrue_Compare1 (ld18 C F (ld11 C F (P.gt_int (wpAny_truthy_bool ?_)))))
           by_cases hbig2 : S.bk < q + 1
           · rw [if_pos (by simp; omega)]
             obtain rfl := eh1 hbig2
             refine wpAny_execs_cons ?_
             refine Assign_Tuple_swapped (names := ["besti", "bestj", "bestsize"]) ?_ rfl (swp3 C 9 10 11 rfl rfl rfl (by decide) (by decide) (by decide))
             refine tupE ?_
             refine sp1 ?_
             refine wpAny_BinOp ?_
             refine wpAny_BinOp ?_
             refine ld14 C F ?_
             refine ld18 C F ?_
             refine P.sub_int ?_
             refine wpAny_Constant_int ?_
             refine addZ (c := alo + i + 1 - (q + 1)) (by omega) ?_
             refine sp1 ?_
             refine wpAny_BinOp ?_
             refine wpAny_BinOp ?_
             refine ld17 C F ?_
             refine ld18 C F ?_
             refine P.sub_int ?_
             refine wpAny_Constant_int ?_
             refine addZ (c := j + 1 - (q + 1)) (by omega) ?_
             refine sp1 (ld18 C F ?_)
             refine sp0 ?_
             refine newTup F fun T0 g₉ h' k9 eT0 F => ?_
             refine unp hA'.handled F eT0 rfl fun h' F => ?_
             dsimp only
             refine assignInOrder_cons (wpAny_bindName (st11 C F fun h' F => ?_))
             refine assignInOrder_cons (wpAny_bindName (st10 C F fun h' F => ?_))
             refine assignInOrder_cons (wpAny_bindName (st9 C F fun h' F => assignInOrder_nil ?_))
             dsimp only
             refine wpAny_execs_nil (wpAny_execs_nil ?_)
             exact turn_next k9 F ⟨k9, _, _, _, _, _, _, _, rfl, rfl, _, _, rfl⟩
           · rw [if_neg (by simp; omega)]
             obtain rfl := eh2 hbig2
             refine wpAny_execs_nil (wpAny_execs_nil ?_)
             exact turn_next Le.rfl' F ⟨Le.rfl', _, _, _, _, _, _, _, rfl, rfl, _, _, rfl⟩
         · rintro g' vs' mu' h tk kg2 ⟨kg3, c1, c2, c3, v17, v18, es2, n2, rfl, rfl, hp⟩ F
           exact ⟨rfl, _, _, g', c1, c2, c3, v17, v18, es2, n2, rfl, kg3, F, hp⟩
     rintro s₂ ⟨h', t', g₉, c1, c2, c3, v17, v18, es2, n2, rfl, k9, F, hpv2⟩
     refine wpAny_execs_cons ?_
     refine wpAny_Assign_Name ?_
     refine ld16 C F ?_
     refine st12 C F fun h' F => ?_
     dsimp only
     obtain ⟨g₁₀, k10, end', F⟩ := F.freeze (pre := []) (post := [(I, oI)]) rfl hnl
     refine wpAny_execs_nil ?_
     refine turn_next (k8.tr (k9.tr k10)) F ⟨rfl, X'.up (k8.tr (k9.tr k10)), nd, es2, n2, c1, c2, c3, _, _, _, _, _, rfl, end', hnd, hpv2⟩
   · rintro g' vs' mu' h tk kg' ⟨rfl, X', d, es', n', b1, b2, b3, u14, u15, u16, u17, u18, rfl, ed, hdd, hpv⟩ F
     exact ⟨rfl, _, _, g', d, b1, b2, b3, _, _, _, _, _, rfl, k7.tr kg', F⟩
 rintro s₂ ⟨h', t', g₇, d, b1, b2, b3, u14, u15, u16, u17, u18, rfl, k7, F⟩
 generalize scan (TA.map (·.1)) (TB.map (·.1)) blo bhi (ahi - alo) alo (first alo blo) = S at hs F ⊢
 have kk₇ := k₆.tr k7
 have ebm₇ := (((k4.tr k5).tr k6).tr k7) _ _ ebm
 refine seqP (fun s₂ => ∃ h' t', s₂ = { s with heap := h', toks := t' } ∧ St s.heap [] g g₇ env.locals nFind [some (.ref x), some (.int (alo : Int) t1), some (.int (ahi : Int) u1), some (.int (blo : Int) t2), some (.int (bhi : Int) u2), some (.ref la), some (.ref lb), some (.ref db), some (.ref bm), some (.int ((S).bi : Int) b1), some (.int ((S).bj : Int) b2), some (.int ((S).bk : Int) b3), some (.ref d), some (.ref no1), u14, u15, u16, u17, u18] [] h') ?_ ?_
 · refine While_ (fun n g' vs' mu' => n = 0 ∧ g' = g₇ ∧ vs' = [some (.ref x), some (.int (alo : Int) t1), some (.int (ahi : Int) u1), some (.int (blo : Int) t2), some (.int (bhi : Int) u2), some (.ref la), some (.ref lb), some (.ref db), some (.ref bm), some (.int ((S).bi : Int) b1), some (.int ((S).bj : Int) b2), some (.int ((S).bk : Int) b3), some (.ref d), some (.ref no1), u14, u15, u16, u17, u18] ∧ mu' = []) 0 F ⟨rfl, rfl, rfl, rfl⟩ ?_
   rintro n g' vs' mu' h tk _ ⟨rfl, rfl, rfl, rfl⟩ F
   refine isTrue_and (wpAny_isTrue_Compare1 (ld9 C F (ld1 C F (P.gt_int (wpAny_truthy_bool ?_)))))
   by_cases c1 : alo < S.bi
   rotate_left
   · rw [if_neg (by simpa using c1)]; exact ⟨rfl, _, _, rfl, F⟩
   rw [if_pos (by simpa using c1)]
   refine isTrue_and (wpAny_isTrue_Compare1 (ld10 C F (ld3 C F (P.gt_int (wpAny_truthy_bool ?_)))))
   by_cases c2 : blo < S.bj
   rotate_left
   · rw [if_neg (by simpa using c2)]; exact ⟨rfl, _, _, rfl, F⟩
   rw [if_pos (by simpa using c2)]
   obtain ⟨⟨z, tz⟩, hz⟩ : ∃ p, TB[S.bj - 1]? = some p := ⟨_, List.getElem?_eq_getElem (by have := hs.lj; have := hs.li; simp at *; omega)⟩
   obtain ⟨⟨y, ty⟩, hy⟩ : ∃ p, TA[S.bi - 1]? = some p := ⟨_, List.getElem?_eq_getElem (by have := hs.lj; have := hs.li; simp at *; omega)⟩
   have hne : y ≠ z := fun e => hs.bef c1 c2 (by rw [List.getElem?_map, List.getElem?_map, hy, hz]; simp [e])
   refine isTrue_and (isTrue_not (wpAny_isTrue_value ?_))
   refine C1b ?_
   refine ld8 C F ⟨bm, rfl, ?_⟩
   refine Subscript_BinOp ?_
   refine ld6 C F ?_
   refine wpAny_BinOp ?_
   refine ld10 C F ?_
   refine wpAny_Constant_int ?_
   refine subZ (c := S.bj - 1) (by omega) ?_
   refine itemL F.keep (kk₇ _ _ eb) (x := .str z tz) (by rw [strValues, List.getElem?_map, hz]; rfl) (by have := (List.getElem?_eq_some_iff.mp hz).1; omega) ?_
   refine ⟨dj, "set.__contains__", F.keep _ _ ebm₇, ?_⟩
   refine junk (F.keep _ _ ebm₇) (F.keep _ _ (kk₇ _ _ ej)) ?_
   refine wpAny_truthy_bool ?_
   rw [if_pos (by decide)]
   refine isTrue_and (wpAny_isTrue_Compare1 ?_)
   refine Subscript_BinOp ?_
   refine ld5 C F ?_
   refine wpAny_BinOp ?_
   refine ld9 C F ?_
   refine wpAny_Constant_int ?_
   refine subZ (c := S.bi - 1) (by omega) ?_
   refine itemL F.keep (kk₇ _ _ ea) (x := .str y ty) (by rw [strValues, List.getElem?_map, hy]; rfl) (by have := (List.getElem?_eq_some_iff.mp hy).1; omega) ?_
   refine Subscript_BinOp ?_
   refine ld6 C F ?_
   refine wpAny_BinOp ?_
   refine ld10 C F ?_
   refine wpAny_Constant_int ?_
   refine subZ (c := S.bj - 1) (by omega) ?_
   refine itemL F.keep (kk₇ _ _ eb) (x := .str z tz) (by rw [strValues, List.getElem?_map, hz]; rfl) (by have := (List.getElem?_eq_some_iff.mp hz).1; omega) ?_
   refine P.eq_str (wpAny_truthy_bool ?_)
   rw [if_neg (by simpa using fun q => hne (str_ext q))]
   exact ⟨rfl, _, _, rfl, F⟩
 rintro s₂ ⟨h', t', rfl, F⟩
 refine seqP (fun s₂ => ∃ h' t', s₂ = { s with heap := h', toks := t' } ∧ St s.heap [] g g₇ env.locals nFind [some (.ref x), some (.int (alo : Int) t1), some (.int (ahi : Int) u1), some (.int (blo : Int) t2), some (.int (bhi : Int) u2), some (.ref la), some (.ref lb), some (.ref db), some (.ref bm), some (.int ((S).bi : Int) b1), some (.int ((S).bj : Int) b2), some (.int ((S).bk : Int) b3), some (.ref d), some (.ref no1), u14, u15, u16, u17, u18] [] h') ?_ ?_
 · refine While_ (fun n g' vs' mu' => n = 0 ∧ g' = g₇ ∧ vs' = [some (.ref x), some (.int (alo : Int) t1), some (.int (ahi : Int) u1), some (.int (blo : Int) t2), some (.int (bhi : Int) u2), some (.ref la), some (.ref lb), some (.ref db), some (.ref bm), some (.int ((S).bi : Int) b1), some (.int ((S).bj : Int) b2), some (.int ((S).bk : Int) b3), some (.ref d), some (.ref no1), u14, u15, u16, u17, u18] ∧ mu' = []) 0 F ⟨rfl, rfl, rfl, rfl⟩ ?_
   rintro n g' vs' mu' h tk _ ⟨rfl, rfl, rfl, rfl⟩ F
   refine isTrue_and (wpAny_isTrue_Compare1 ?_)
   refine wpAny_BinOp ?_
   refine ld9 C F ?_
   refine ld11 C F ?_
   refine addZ (c := S.bi + S.bk) (by omega) ?_
   refine ld2 C F (P.lt_int (wpAny_truthy_bool ?_))
   by_cases c1 : S.bi + S.bk < ahi
   rotate_left
   · rw [if_neg (by simpa using (by omega : ¬ ((S.bi + S.bk : Nat) : Int) < ahi))]; exact ⟨rfl, _, _, rfl, F⟩
   rw [if_pos (by simpa using (by omega : ((S.bi + S.bk : Nat) : Int) < ahi))]
   refine isTrue_and (wpAny_isTrue_Compare1 ?_)
   refine wpAny_BinOp ?_
   refine ld10 C F ?_
   refine ld11 C F ?_
   refine addZ (c := S.bj + S.bk) (by omega) ?_
   refine ld4 C F (P.lt_int (wpAny_truthy_bool ?_))
   by_cases c2 : S.bj + S.bk < bhi
   rotate_left
   · rw [if_neg (by simpa using (by omega : ¬ ((S.bj + S.bk : Nat) : Int) < bhi))]; exact ⟨rfl, _, _, rfl, F⟩
   rw [if_pos (by simpa using (by omega : ((S.bj + S.bk : Nat) : Int) < bhi))]
   obtain ⟨⟨z, tz⟩, hz⟩ : ∃ p, TB[S.bj + S.bk]? = some p := ⟨_, List.getElem?_eq_getElem (by have := hs.lj; have := hs.li; simp at *; omega)⟩
   obtain ⟨⟨y, ty⟩, hy⟩ : ∃ p, TA[S.bi + S.bk]? = some p := ⟨_, List.getElem?_eq_getElem (by have := hs.lj; have := hs.li; simp at *; omega)⟩
   have hne : y ≠ z := fun e => hs.aft c1 c2 (by rw [List.getElem?_map, List.getElem?_map, hy, hz]; simp [e])
   refine isTrue_and (isTrue_not (wpAny_isTrue_value ?_))
   refine C1b ?_
   refine ld8 C F ⟨bm, rfl, ?_⟩
   refine Subscript_BinOp ?_
   refine ld6 C F ?_
   refine wpAny_BinOp ?_
   refine ld10 C F ?_
   refine ld11 C F ?_
   refine addZ (c := S.bj + S.bk) (by omega) ?_
   refine itemL F.keep (kk₇ _ _ eb) (x := .str z tz) (by rw [strValues, List.getElem?_map, hz]; rfl) (by have := (List.getElem?_eq_some_iff.mp hz).1; omega) ?_
   refine ⟨dj, "set.__contains__", F.keep _ _ ebm₇, ?_⟩
   refine junk (F.keep _ _ ebm₇) (F.keep _ _ (kk₇ _ _ ej)) ?_
   refine wpAny_truthy_bool ?_
   rw [if_pos (by decide)]
   refine isTrue_and (wpAny_isTrue_Compare1 ?_)
   refine Subscript_BinOp ?_
   refine ld5 C F ?_
   refine wpAny_BinOp ?_
   refine ld9 C F ?_
   refine ld11 C F ?_
   refine addZ (c := S.bi + S.bk) (by omega) ?_
   refine itemL F.keep (kk₇ _ _ ea) (x := .str y ty) (by rw [strValues, List.getElem?_map, hy]; rfl) (by have := (List.getElem?_eq_some_iff.mp hy).1; omega) ?_
   refine Subscript_BinOp ?_
   refine ld6 C F ?_
   refine wpAny_BinOp ?_
   refine ld10 C F ?_
   refine ld11 C F ?_
   refine addZ (c := S.bj + S.bk) (by omega) ?_
   refine itemL F.keep (kk₇ _ _ eb) (x := .str z tz) (by rw [strValues, List.getElem?_map, hz]; rfl) (by have := (List.getElem?_eq_some_iff.mp hz).1; omega) ?_
   refine P.eq_str (wpAny_truthy_bool ?_)
   rw [if_neg (by simpa using fun q => hne (str_ext q))]
   exact ⟨rfl, _, _, rfl, F⟩
 rintro s₂ ⟨h', t', rfl, F⟩
 refine seqP (fun s₂ => ∃ h' t', s₂ = { s with heap := h', toks := t' } ∧ St s.heap [] g g₇ env.locals nFind [some (.ref x), some (.int (alo : Int) t1), some (.int (ahi : Int) u1), some (.int (blo : Int) t2), some (.int (bhi : Int) u2), some (.ref la), some (.ref lb), some (.ref db), some (.ref bm), some (.int ((S).bi : Int) b1), some (.int ((S).bj : Int) b2), some (.int ((S).bk : Int) b3), some (.ref d), some (.ref no1), u14, u15, u16, u17, u18] [] h') ?_ ?_
 · refine While_ (fun n g' vs' mu' => n = 0 ∧ g' = g₇ ∧ vs' = [some (.ref x), some (.int (alo : Int) t1), some (.int (ahi : Int) u1), some (.int (blo : Int) t2), some (.int (bhi : Int) u2), some (.ref la), some (.ref lb), some (.ref db), some (.ref bm), some (.int ((S).bi : Int) b1), some (.int ((S).bj : Int) b2), some (.int ((S).bk : Int) b3), some (.ref d), some (.ref no1), u14, u15, u16, u17, u18] ∧ mu' = []) 0 F ⟨rfl, rfl, rfl, rfl⟩ ?_
   rintro n g' vs' mu' h tk _ ⟨rfl, rfl, rfl, rfl⟩ F
   refine isTrue_and (wpAny_isTrue_Compare1 (ld9 C F (ld1 C F (P.gt_int (wpAny_truthy_bool ?_)))))
   by_cases c1 : alo < S.bi
   rotate_left
   · rw [if_neg (by simpa using c1)]; exact ⟨rfl, _, _, rfl, F⟩
   rw [if_pos (by simpa using c1)]
   refine isTrue_and (wpAny_isTrue_Compare1 (ld10 C F (ld3 C F (P.gt_int (wpAny_truthy_bool ?_)))))
   by_cases c2 : blo < S.bj
   rotate_left
   · rw [if_neg (by simpa using c2)]; exact ⟨rfl, _, _, rfl, F⟩
   rw [if_pos (by simpa using c2)]
   obtain ⟨⟨z, tz⟩, hz⟩ : ∃ p, TB[S.bj - 1]? = some p := ⟨_, List.getElem?_eq_getElem (by have := hs.lj; have := hs.li; simp at *; omega)⟩
   obtain ⟨⟨y, ty⟩, hy⟩ : ∃ p, TA[S.bi - 1]? = some p := ⟨_, List.getElem?_eq_getElem (by have := hs.lj; have := hs.li; simp at *; omega)⟩
   have hne : y ≠ z := fun e => hs.bef c1 c2 (by rw [List.getElem?_map, List.getElem?_map, hy, hz]; simp [e])
   refine isTrue_and (wpAny_isTrue_value ?_)
   refine C1b ?_
   refine ld8 C F ⟨bm, rfl, ?_⟩
   refine Subscript_BinOp ?_
   refine ld6 C F ?_
   refine wpAny_BinOp ?_
   refine ld10 C F ?_
   refine wpAny_Constant_int ?_
   refine subZ (c := S.bj - 1) (by omega) ?_
   refine itemL F.keep (kk₇ _ _ eb) (x := .str z tz) (by rw [strValues, List.getElem?_map, hz]; rfl) (by have := (List.getElem?_eq_some_iff.mp hz).1; omega) ?_
   refine ⟨dj, "set.__contains__", F.keep _ _ ebm₇, ?_⟩
   refine junk (F.keep _ _ ebm₇) (F.keep _ _ (kk₇ _ _ ej)) ?_
   refine wpAny_truthy_bool ?_
   rw [if_neg (by decide)]
   exact ⟨rfl, _, _, rfl, F⟩
 rintro s₂ ⟨h', t', rfl, F⟩
 refine seqP (fun s₂ => ∃ h' t', s₂ = { s with heap := h', toks := t' } ∧ St s.heap [] g g₇ env.locals nFind [some (.ref x), some (.int (alo : Int) t1), some (.int (ahi : Int) u1), some (.int (blo : Int) t2), some (.int (bhi : Int) u2), some (.ref la), some (.ref lb), some (.ref db), some (.ref bm), some (.int ((S).bi : Int) b1), some (.int ((S).bj : Int) b2), some (.int ((S).bk : Int) b3), some (.ref d), some (.ref no1), u14, u15, u16, u17, u18] [] h') ?_ ?_
 · refine While_ (fun n g' vs' mu' => n = 0 ∧ g' = g₇ ∧ vs' = [some (.ref x), some (.int (alo : Int) t1), some (.int (ahi : Int) u1), some (.int (blo : Int) t2), some (.int (bhi : Int) u2), some (.ref la), some (.ref lb), some (.ref db), some (.ref bm), some (.int ((S).bi : Int) b1), some (.int ((S).bj : Int) b2), some (.int ((S).bk : Int) b3), some (.ref d), some (.ref no1), u14, u15, u16, u17, u18] ∧ mu' = []) 0 F ⟨rfl, rfl, rfl, rfl⟩ ?_
   rintro n g' vs' mu' h tk _ ⟨rfl, rfl, rfl, rfl⟩ F
   refine isTrue_and (wpAny_isTrue_Compare1 ?_)
   refine wpAny_BinOp ?_
   refine ld9 C F ?_
   refine ld11 C F ?_
   refine addZ (c := S.bi + S.bk) (by omega) ?_
   refine ld2 C F (P.lt_int (wpAny_truthy_bool ?_))
   by_cases c1 : S.bi + S.bk < ahi
   rotate_left
   · rw [if_neg (by simpa using (by omega : ¬ ((S.bi + S.bk : Nat) : Int) < ahi))]; exact ⟨rfl, _, _, rfl, F⟩
   rw [if_pos (by simpa using (by omega : ((S.bi + S.bk : Nat) : Int) < ahi))]
   refine isTrue_and (wpAny_isTrue_Compare1 ?_)
   refine wpAny_BinOp ?_
   refine ld10 C F ?_
   refine ld11 C F ?_
   refine addZ (c := S.bj + S.bk) (by omega) ?_
   refine ld4 C F (P.lt_int (wpAny_truthy_bool ?_))
   by_cases c2 : S.bj + S.bk < bhi
   rotate_left
   · rw [if_neg (by simpa using (by omega : ¬ ((S.bj + S.bk : Nat) : Int) < bhi))]; exact ⟨rfl, _, _, rfl, F⟩
   rw [if_pos (by simpa using (by omega : ((S.bj + S.bk : Nat) : Int) < bhi))]
   obtain ⟨⟨z, tz⟩, hz⟩ : ∃ p, TB[S.bj + S.bk]? = some p := ⟨_, List.getElem?_eq_getElem (by have := hs.lj; have := hs.li; simp at *; omega)⟩
   obtain ⟨⟨y, ty⟩, hy⟩ : ∃ p, TA[S.bi + S.bk]? = some p := ⟨_, List.getElem?_eq_getElem (by have := hs.lj; have := hs.li; simp at *; omega)⟩
   have hne : y ≠ z := fun e => hs.aft c1 c2 (by rw [List.getElem?_map, List.getElem?_map, hy, hz]; simp [e])
   refine isTrue_and (wpAny_isTrue_value ?_)
   refine C1b ?_
   refine ld8 C F ⟨bm, rfl, ?_⟩
   refine Subscript_BinOp ?_
   refine ld6 C F ?_
   refine wpAny_BinOp ?_
   refine ld10 C F ?_
   refine ld11 C F ?_
   refine addZ (c := S.bj + S.bk) (by omega) ?_
   refine itemL F.keep (kk₇ _ _ eb) (x := .str z tz) (by rw [strValues, List.getElem?_map, hz]; rfl) (by have := (List.getElem?_eq_some_iff.mp hz).1; omega) ?_
   refine ⟨dj, "set.__contains__", F.keep _ _ ebm₇, ?_⟩
   refine junk (F.keep _ _ ebm₇) (F.keep _ _ (kk₇ _ _ ej)) ?_
   refine wpAny_truthy_bool ?_
   rw [if_neg (by decide)]
   exact ⟨rfl, _, _, rfl, F⟩
 rintro s₂ ⟨h', t', rfl, F⟩
 refine wpAny_execs_cons ?_
 refine wpAny_Return_some ?_
 refine C3k ?_
 refine N_Match C (X.up kk₇).toStat F.keep (.tail _ (.tail _ (.head _))) ⟨135, rfl, ?_⟩
 refine ld9 C F ?_
 refine ld10 C F ?_
 refine ld11 C F ?_
 obtain ⟨oN, oS, X', _⟩ := km_in (X.up kk₇)
 have XX : (KM oN oS).In h' := X'.keeps F.keep
 refine ⟨⟨_, _, _, _, XX 135 mtCls rfl⟩, L_call (M := model pw w) XX, ?_⟩
 refine match_call (n := n) (hA'.le (by omega)) F (X.up kk₇) fun m d3 g₈ h' t' k8 hm F => ?_
 exact ends F ⟨m, d3, _, _, _, rfl, hm⟩
end
section
variable {oN oS : Obj}
theorem find_iter (h : KMok oN oS) : findIn (KM oN oS) (.ref 135) "__iter__" = some (some (.builtin "tuple.__iter__")) := by
 show alongIn (KM oN oS) _ [.ref 135, .type "tuple", .type "object"] = _
 unfold alongIn
 rw [own_m h (i := 4) rfl]
 kernel_rfl
theorem ti_kind : builtinKind "tuple.__iter__" = some .slot := by decide +kernel
theorem ti_split : splitId "tuple.__iter__" = some ("tuple", "__iter__") := by decide +kernel
theorem ti_args (a : Value) : argsOk "tuple.__iter__" ⟨[a], []⟩ := by unfold argsOk; kernel_rfl
theorem ti_plain : plainId "tuple.__iter__" = true := by decide +kernel
theorem ti_bind (self : Value) : bindSpecial (.builtin "tuple.__iter__") self = pure (.builtin "tuple.__iter__", [self]) := slot_tuple_iter.bind self
end
section
variable {w : World} {A : Around} {E : Value → Shared → Prop} {s : Shared}
variable {h₀ g₀ g : Heap} {xt : List Addr} {L : Addr} {N : List Str} {vs : List (Option Value)} {mu : List (Addr × Obj)} {n : Nat}
theorem iter_mt {m dx : Addr} {items : List Value} {Q : Value → Shared → Prop} (X : Sm2 g) (kg : Le g s.heap) (hm : g.get? m = some (mtO dx items))
 (hQ : Q (.ref s.heap.objs.size) { s with heap := s.heap.push (titObj m) }) : wpAny (model pw w) A (pyIter (.ref m)) Q E s := by
 obtain ⟨oN, oS, X', k⟩ := km_in X
 have XX : (KM oN oS).In s.heap := X'.keeps kg
 have hmm := kg _ _ hm
 have ty : Looks (model pw w) s.heap (typeOf (.ref m)) (.ref 135) := (Looks.ld hmm).andThen .now
 have l0 := looks_findIn (M := model pw w) XX (find_iter k)
 have l1 := L_sub (M := model pw w) XX
 unfold pyIter specialOf
 refine wpAny_bind (wpAny_bind (ty.here (l0.here ?_)))
 dsimp only
 unfold callSpecialIfBoundUnlessNone?
 refine wpAny_bind (wpAny_holding (wpAny_bind ?_))
 unfold bindSpecialIfBound? specialOf
 refine wpAny_bind (wpAny_bind (ty.here (l0.here ?_)))
 dsimp only
 have fin : wpAny (model pw w) A (call (.builtin "tuple.__iter__") [.ref m]) (fun v s' => v = .ref s.heap.objs.size ∧ s' = { s with heap := s.heap.push (titObj m) }) E s := by
  refine wpAny_call (codeAny_call_builtin ti_plain entry_tuple_iter (@check_slot (model pw w) _ _ _ "tuple.__iter__" "tuple" "__iter__" (.ref m) [] [] _ ti_kind ti_split (ty.andThen l1) (ti_args _) ?_))
  show wpAny _ _ (do ret (← newFields "tuple_iterator" [.ref m, rawInt 0])) _ _ s
  exact wpAny_bind (wpAny_newObj_type (wpAny_pure ⟨rfl, rfl⟩))
 have body : ∀ E, wpAny (model pw w) A (do
  let b ← bindSpecial (.builtin "tuple.__iter__") (.ref m)
  pure (some b) : Sem (Option (Value × List Value))) (fun r s' => r = some (.builtin "tuple.__iter__", [.ref m]) ∧ s' = s) E s := by
  intro E
  rw [ti_bind]
  exact wpAny_bind (wpAny_pure (wpAny_pure ⟨rfl, rfl⟩))
 refine wpAny_bind (wpAny_askSetting ?_)
 have rest : wpAny (model pw w) A (match (some (Value.builtin "tuple.__iter__", [Value.ref m]) : Option (Value × List Value)) with
  | some (g, first) => if (g == Value.none) = true then do
   let r ← (do rule "iter.none"; raiseError "TypeError" s!"'{← typeNameOf (Value.ref m)}' object is not iterable" : Sem Value)
   pure (some r)
   else do
    let r ← call g first
    pure (some r)
  | none => pure none) (fun a s' => a = some (.ref s.heap.objs.size) ∧ s' = { s with heap := s.heap.push (titObj m) }) E s := by
  dsimp only
  rw [if_neg (by decide)]
  exact wpAny_bind (wpAny_mono fin (fun v s' z => wpAny_pure ⟨by rw [z.1], z.2⟩) fun _ _ z => z)
 have last : wpAny (model pw w) A (match (some (Value.builtin "tuple.__iter__", [Value.ref m]) : Option (Value × List Value)) with
  | some (g, first) => if (g == Value.none) = true then do
   let r ← (do rule "iter.none"; raiseError "TypeError" s!"'{← typeNameOf (Value.ref m)}' object is not iterable" : Sem Value)
   pure (some r)
   else do
    let r ← call g first
    pure (some r)
  | none => pure none) (fun a s' => wpAny (model pw w) A (match a with
   | some it => do
    match ← specialOf it "__next__" with
    | none => do rule "iter.non-iterator"; raiseError "TypeError" s!"iter() returned non-iterator of type '{← typeNameOf it}'"
    | some _ => pure it
   | none => do
    match ← bindSpecialIfBound? (.ref m) "__getitem__" with
    | none => do rule "iter.not-iterable"; raiseError "TypeError" s!"'{← typeNameOf (.ref m)}' object is not iterable"
    | some _ => do rule "iter.getitem-fallback"; newFields "iterator" [.ref m, ← mkInt 0]) Q E s') E s := by
  refine wpAny_mono rest (fun a s' z => ?_) fun _ _ z => z
  obtain ⟨rfl, rfl⟩ := z
  dsimp only
  refine wpAny_bind (wpAny_specialOf (T := "tuple_iterator") ⟨_, Heap.get?_push_size _ rfl, rfl⟩ slot_tupleiter_next.lookup ?_)
  exact wpAny_pure hQ
 split
 · refine wpAny_mono (body E) (fun r s' z => ?_) fun _ _ z => z
   obtain ⟨rfl, rfl⟩ := z
   exact last
 · refine wpAny_tryCatch (wpAny_mono (body fun _ _ => False) (fun r s' z => ?_) fun _ _ z => z.elim)
   obtain ⟨rfl, rfl⟩ := z
   exact last
abbrev titA (m i : Nat) : Obj := { cls := .type "tuple_iterator", data := .fields #[.ref m, .int (i : Int) 0] }
theorem nxt_item {it m : Addr} {i : Nat} {o : Obj} {items : List Value} {k : Nat} {x : Value} {Q : Option Value → Shared → Prop} (hit : s.heap.get? it = some (titA m i)) (ho : s.heap.get? m = some o) (hd : o.data = .seq items.toArray k) (hx : items[i]? = some x)
 (hQ : ∀ h', h'.get? it = some (titA m (i + 1)) → Heap.SameBut it s.heap h' → Q (some x) { s with heap := h' }) : wpAny (model pw w) A (pyNext (.ref it)) Q E s := by
 have hT : s.TypeIs (.ref it) "tuple_iterator" := ⟨_, hit, rfl⟩
 unfold pyNext
 refine wpAny_bind (wpAny_attempt (wpAny_callSpecial?_slot (name := Str.ofString "__next__") hT slot_tupleiter_next
  (wpAny_call_entry slot_tupleiter_next hT entry_tupleiter_next ?_ (args_tupleiter_next _))))
 show wpAny _ _ (field (.ref it) 0 >>= _) _ _ s
 refine wpAny_bind (wpAny_field hit rfl (x := .ref m) rfl ?_)
 show wpAny _ _ (if (Value.ref m == Value.none) = true then _ else _) _ _ s
 rw [if_neg (show ¬ ((Value.ref m == Value.none) = true) from Bool.false_ne_true)]
 show wpAny _ _ (field (.ref it) 1 >>= _) _ _ s
 refine wpAny_bind (wpAny_field hit rfl (x := .int (i : Int) 0) rfl ?_)
 show wpAny _ _ (seqItems? (.ref m) >>= _) _ _ s
 refine wpAny_bind (wpAny_seqItems ho hd ?_)
 simp only [Int.toNat_natCast, List.getElem?_toArray, hx]
 refine wpAny_bind (wpAny_setField hit rfl (by simp) (wpAny_pure ⟨x, rfl, wpAny_pure (hQ _ ?_ (Heap.SameBut.update ..))⟩))
 rw [Heap.get?_update_self _ hit rfl]
 simp [Obj.mapFields, rawInt]
theorem nxt_end {it m : Addr} {i : Nat} {o : Obj} {items : List Value} {k : Nat} {Q : Option Value → Shared → Prop} (hh : A.handled = none) (hit : s.heap.get? it = some (titA m i)) (ho : s.heap.get? m = some o) (hd : o.data = .seq items.toArray k) (hx : items[i]? = none)
 (hQ : ∀ h', Heap.ExtBut it s.heap h' → Q none { s with heap := h' }) : wpAny (model pw w) A (pyNext (.ref it)) Q E s := by
 have hT : s.TypeIs (.ref it) "tuple_iterator" := ⟨_, hit, rfl⟩
 unfold pyNext
 refine wpAny_bind (wpAny_attempt (wpAny_callSpecial?_slot (name := Str.ofString "__next__") hT slot_tupleiter_next
  (wpAny_call_entry slot_tupleiter_next hT entry_tupleiter_next ?_ (args_tupleiter_next _))))
 show wpAny _ _ (field (.ref it) 0 >>= _) _ _ s
 refine wpAny_bind (wpAny_field hit rfl (x := .ref m) rfl ?_)
 show wpAny _ _ (if (Value.ref m == Value.none) = true then _ else _) _ _ s
 rw [if_neg (show ¬ ((Value.ref m == Value.none) = true) from Bool.false_ne_true)]
 show wpAny _ _ (field (.ref it) 1 >>= _) _ _ s
 refine wpAny_bind (wpAny_field hit rfl (x := .int (i : Int) 0) rfl ?_)
 show wpAny _ _ (seqItems? (.ref m) >>= _) _ _ s
 refine wpAny_bind (wpAny_seqItems ho hd ?_)
 simp only [Int.toNat_natCast, List.getElem?_toArray, hx]
 refine wpAny_bind (wpAny_rule (wpAny_bind (wpAny_setField hit rfl (by simp) ?_)))
 show wpAny _ _ (newExc (.type "StopIteration") [] >>= _) _ _ _
 refine wpAny_bind ?_
 simp only [newExc, newTuple]
 refine wpAny_bind (wpAny_newObj_type ?_ (by size_fits))
 refine wpAny_bind (m := firstArgMember _ _) (wpAny_of_eq (a := Value.none) (by first | rfl | (simp only [firstArgMember]; rfl)) ?_)
 refine wpAny_newObj_type ?_ (by size_fits)
 simp only [raiseNew]
 refine wpAny_bind (wpAny_handled ?_)
 first | rw [show A.in1.handled = none from hh] | rw [hh]
 refine wpAny_bind (wpAny_pure (wpAny_throw ?_))
 refine wpAny_bind (wpAny_isInstance (T := "StopIteration") (b := true) ⟨_, Heap.get?_push_size _ rfl, rfl⟩ isSubtype_stop ?_)
 exact wpAny_pure (hQ _ (((Heap.SameBut.update ..).extBut.push _).push _))
theorem unp_mt {m dx : Addr} {v1 v2 v3 : Value} {Q : List Value → Shared → Prop} (hh : A.handled = none) (X : Sm2 g) (F : St h₀ xt g₀ g L N vs mu s.heap) (hm : g.get? m = some (mtO dx [v1, v2, v3]))
 (h : ∀ h', St h₀ xt g₀ g L N vs mu h' → Q [v1, v2, v3] { s with heap := h' }) : wpAny (model pw w) A (unpackItems (.ref m) 3 none) Q E s := by
 obtain ⟨oN, oS, X', k⟩ := km_in X
 have XX : (KM oN oS).In s.heap := X'.keeps F.keep
 have hmm := F.keep _ _ hm
 have ty : Looks (model pw w) s.heap (typeOf (.ref m)) (.ref 135) := (Looks.ld hmm).andThen .now
 have l0 := looks_findIn (M := model pw w) XX (find_iter k)
 have hlt : m ≠ s.heap.objs.size := Nat.ne_of_lt (Heap.lt_size hmm)
 unfold unpackItems
 refine wpAny_bind ?_
 unfold notIterableAtAll specialOf
 refine wpAny_bind (wpAny_bind (ty.here (l0.here ?_)))
 dsimp only
 rw [if_pos (by rfl)]
 refine wpAny_pure ?_
 rw [if_neg (by decide)]
 refine wpAny_bind (wpAny_holding (iter_mt X F.keep hm ?_))
 have e0 : (s.heap.push (titObj m)).get? s.heap.objs.size = some (titA m 0) := Heap.get?_push_size _ rfl
 have k0 : Le s.heap (s.heap.push (titObj m)) := fun b o e => Heap.get?_push_of_some _ e
 have hne : ∀ b o, s.heap.get? b = some o → b ≠ s.heap.objs.size := fun b o e => Nat.ne_of_lt (Heap.lt_size e)
 generalize s.heap.objs.size = it at hlt e0 hne ⊢
 have m0 := k0 _ _ hmm
 refine wpAny_bind (wpAny_holding ?_)
 show wpAny _ _ (pyNext (.ref it) >>= _) _ _ _
 refine wpAny_bind (nxt_item e0 m0 rfl (x := v1) rfl fun h1 e1 s1 => ?_)
 dsimp only
 refine wpAny_bind (wpAny_holding ?_)
 show wpAny _ _ (pyNext (.ref it) >>= _) _ _ _
 refine wpAny_bind (nxt_item e1 ((s1.2 m hlt).trans m0) rfl (x := v2) rfl fun h2 e2 s2 => ?_)
 dsimp only
 refine wpAny_bind (wpAny_holding ?_)
 show wpAny _ _ (pyNext (.ref it) >>= _) _ _ _
 have m2 := (s2.2 m hlt).trans ((s1.2 m hlt).trans m0)
 refine wpAny_bind (nxt_item e2 m2 rfl (x := v3) rfl fun h3 e3 s3 => ?_)
 dsimp only
 refine wpAny_bind (wpAny_holding ?_)
 show wpAny _ _ (pure []) _ _ _
 refine wpAny_pure (wpAny_pure (wpAny_pure (wpAny_pure ?_)))
 rw [if_neg (by simp)]
 refine wpAny_bind (wpAny_holding (nxt_end hh e3 ((s3.2 m hlt).trans m2) rfl rfl fun h4 e4 => ?_))
 simp only [Option.isSome_none, Bool.false_eq_true, if_false]
 refine wpAny_pure (h h4 (F.more fun b o e => ?_))
 have hb : b ≠ it := hne b o e
 exact e4 b o hb ((s3.2 b hb).trans ((s2.2 b hb).trans ((s1.2 b hb).trans (k0 _ _ e))))
end
end Mine
namespace Mine
open PySem PySem.W PyProof.Rows PySem.Calls PySem.Spec
open PySem.AutoSeq1 (wpAny_loadPart')
open PySem.SeqAt
section
variable {w : World} {A : Around} {E : Value → Shared → Prop}
theorem mlt_run {hp : Heap} {g : Array GenState} {d : Drawn} {tk : Nat} {os : OsState} {l b dx dx' : Addr} {items items2 : Array Value} (e lt : Nat → Bool) {R : Bool → Prop}
 (lsub : ∀ (A : Around) (Q : Bool → Shared → Prop) (E : Value → Shared → Prop), Q true ⟨hp, g, d, tk, os⟩ → wpAny (model pw w) A (isSubtype (.ref 135) (.type "tuple")) Q E ⟨hp, g, d, tk, os⟩)
 (hl : hp.get? l = some { cls := .ref 135, dict := some dx, data := .seq items 0, slots := #[] }) (hb : hp.get? b = some { cls := .ref 135, dict := some dx', data := .seq items2 0, slots := #[] })
 (he : ∀ j (h1 : j < items.size) (h2 : j < items2.size), EqAt A ⟨hp, g, d, tk, os⟩ items[j] items2[j] (e j) ∧ (e j = false → LtAt A ⟨hp, g, d, tk, os⟩ items[j] items2[j] (lt j)))
 (h : R (lexB e lt items.size items2.size (min items.size items2.size) 0)) :
 wpAny (model pw w) A (Builtin.«tuple.__lt__» ⟨[.ref l, .ref b], []⟩) (fun fin s' => ∃ v, fin = .done (.ret v) ∧ s' = ⟨hp, g, d, tk, os⟩ ∧ ∃ c, v = .bool c ∧ R c) E ⟨hp, g, d, tk, os⟩ := by
 have hZ : (items.toList.zip items2.toList).length = min items.size items2.size := by simp
 unfold Builtin.«tuple.__lt__»
 wp_walk using wpAny_loadPart' hl, wpAny_loadPart' hb, lsub, wpAny_forIn_list _ (fun rest b s' => b.1 = none ∧ s' = ⟨hp, g, d, tk, os⟩ ∧ ∃ i k, rest = (items.toList.zip items2.toList).drop i ∧ i + k = min items.size items2.size ∧
  R (lexB e lt items.size items2.size k i)) _
 case turn =>
  rintro ⟨y, x⟩ rest b s' ⟨hb', rfl, i, k, hz, hk, hR⟩
  have hlt : i < (items.toList.zip items2.toList).length := by
   rcases Nat.lt_or_ge i (items.toList.zip items2.toList).length with h' | h'
   · exact h'
   · rw [List.drop_of_length_le h'] at hz; cases hz
  have hm : i < min items.size items2.size := hZ ▸ hlt
  have h1 : i < items.size := Nat.lt_of_lt_of_le hm (Nat.min_le_left _ _)
  have h2 : i < items2.size := Nat.lt_of_lt_of_le hm (Nat.min_le_right _ _)
  rw [List.drop_eq_getElem_cons hlt] at hz
  injection hz with hyx hrest
  have hy : y = items[i] := by have := congrArg Prod.fst hyx; simpa using this
  have hx : x = items2[i] := by have := congrArg Prod.snd hyx; simpa using this
  subst hy hx
  obtain ⟨k, rfl⟩ : ∃ k', k = k' + 1 := ⟨k - 1, by omega⟩
  unfold lexB at hR
  obtain ⟨he1, hl1⟩ := he i h1 h2
  refine wpAny_bind (he1 pw w _ _ ?_)
  cases hy : e i with
  | true =>
   rw [hy] at hR
   wp_walk
   exact ⟨rfl, rfl, i + 1, k, hrest, by omega, by simpa using hR⟩
  | false =>
   rw [hy] at hR
   repeat (first | (refine wpAny_bind (hl1 hy pw w _ _ ?_)) | wp_step)
   exact ⟨_, rfl, rfl, _, rfl, by simpa using hR⟩
 case fin =>
  rintro ⟨b1, b2⟩ s' ⟨hb', rfl, i, k, hz, hk, hR⟩
  simp only at hb'
  subst hb'
  have hge : min items.size items2.size ≤ i := by
   rcases Nat.lt_or_ge i (items.toList.zip items2.toList).length with h' | h'
   · rw [List.drop_eq_getElem_cons h'] at hz; cases hz
   · exact hZ ▸ h'
  have hk0 : k = 0 := by omega
  subst hk0
  unfold lexB at hR
  wp_walk
  exact ⟨_, rfl, rfl, _, rfl, by simpa [Builtin.Tuple.tupleCompareSizes] using hR⟩
 case h =>
  exact ⟨rfl, rfl, 0, _, rfl, by omega, h⟩
end
end Mine
namespace Mine
open PySem PySem.W PyProof.Rows PySem.Calls PySem.Spec
open PySem.SeqAt
section
variable {oN oS : Obj}
theorem find_lt (h : KMok oN oS) : findIn (KM oN oS) (.ref 135) "__lt__" = some (some (.builtin "tuple.__lt__")) := by
 show alongIn (KM oN oS) _ [.ref 135, .type "tuple", .type "object"] = _
 unfold alongIn
 rw [own_m h (i := 6) rfl]
 kernel_rfl
theorem lt_kind : builtinKind "tuple.__lt__" = some .slot := by decide +kernel
theorem lt_split : splitId "tuple.__lt__" = some ("tuple", "__lt__") := by decide +kernel
theorem lt_args (a b : Value) : argsOk "tuple.__lt__" ⟨[a, b], []⟩ := by unfold argsOk; kernel_rfl
theorem lt_plain : plainId "tuple.__lt__" = true := by decide +kernel
theorem lt_bind (self : Value) : bindSpecial (.builtin "tuple.__lt__") self = pure (.builtin "tuple.__lt__", [self]) :=
 (Slot.of (T := "tuple") (name := "__lt__") (owner := "tuple") (n := "__lt__") (by rw [typeLookup_type, builtinLookup_eq_fast]; kernel_rfl) (by decide +kernel) (by decide +kernel) (by decide +kernel)
  (.inl (by decide +kernel)) (by rw [isSubtype_type]; kernel_rfl)).bind self
theorem lt_entry : entryFor table "tuple.__lt__" = some Builtin.«tuple.__lt__» := entryFor_of_tree (by kernel_rfl)
end
def triLt (p q : Nat × Nat × Nat) : Bool := if p.1 = q.1 then (if p.2.1 = q.2.1 then decide (p.2.2 < q.2.2) else decide (p.2.1 < q.2.1)) else decide (p.1 < q.1)
section
variable {w : World} {A : Around} {E : Value → Shared → Prop} {s : Shared} {g : Heap}
def IsM (g : Heap) (v : Value) (p : Nat × Nat × Nat) : Prop := ∃ m dx t1 t2 t3, v = .ref m ∧ g.get? m = some (mtO dx [.int (p.1 : Int) t1, .int (p.2.1 : Int) t2, .int (p.2.2 : Int) t3])
theorem IsM.up {g g' : Heap} {v : Value} {p : Nat × Nat × Nat} (h : IsM g v p) (k : Le g g') : IsM g' v p := let ⟨m, dx, a, b, c, e, f⟩ := h; ⟨m, dx, a, b, c, e, k _ _ f⟩
theorem eqN (a b : Nat) {A : Around} {s : Shared} {t u : Tok} : EqAt A s (.int (a : Int) t) (.int (b : Int) u) (decide (a = b)) := fun prog w E Q hq => wpAny_eqBool_int (by
 have : ((a : Int) == (b : Int)) = decide (a = b) := by by_cases e : a = b <;> simp [e] <;> omega
 rw [this]; exact hq)
theorem ltN (a b : Nat) {A : Around} {s : Shared} {t u : Tok} : LtAt A s (.int (a : Int) t) (.int (b : Int) u) (decide (a < b)) := fun prog w E Q hq => by
 have := P.lt_int (prog := prog) (w := w) (A := A) (E := E) (s := s) (a := (a : Int)) (b := (b : Int)) (t := t) (u := u) (Q := Q) (by
  have : decide ((a : Int) < (b : Int)) = decide (a < b) := by simp only [Int.ofNat_lt]
  rw [this]; exact hq)
 exact this
theorem keyLt_mt {v v' : Value} {p q : Nat × Nat × Nat} {Q : Bool → Shared → Prop} (X : Sm2 g) (kg : Le g s.heap) (h1 : IsM g v p) (h2 : IsM g v' q) (hu : A.units + 30 < cLine) (h : Q (triLt p q) s) :
 wpAny (model pw w) A (keyLt' oneType' v v') Q E s := by
 obtain ⟨m, dx, t1, t2, t3, rfl, hm⟩ := h1
 obtain ⟨m', dx', u1, u2, u3, rfl, hm'⟩ := h2
 obtain ⟨oN, oS, X', k⟩ := km_in X
 obtain ⟨hp, gg, d, tk, os⟩ := s
 have XX : (KM oN oS).In hp := X'.keeps kg
 have hmm := kg _ _ hm
 have hmm' := kg _ _ hm'
 have ty : Looks (model pw w) hp (typeOf (.ref m)) (.ref 135) := (Looks.ld hmm).andThen .now
 have l0 := looks_findIn (M := model pw w) XX (find_lt k)
 have l1 := L_sub (M := model pw w) XX
 rw [keyLt'_oneType, oneLt'_eq]
 simp only [if_true]
 refine wpAny_bind (wpAny_cRoomFor (by omega) ?_)
 have fin : wpAny (model pw w) A (call (.builtin "tuple.__lt__") [.ref m, .ref m']) (fun v s' => v = .bool (triLt p q) ∧ s' = ⟨hp, gg, d, tk, os⟩) E ⟨hp, gg, d, tk, os⟩ := by
  refine wpAny_call (codeAny_call_builtin lt_plain lt_entry (@check_slot (model pw w) _ _ _ "tuple.__lt__" "tuple" "__lt__" (.ref m) [.ref m'] [] _ lt_kind lt_split (ty.andThen l1) (lt_args _ _) ?_))
  refine wpAny_mono (mlt_run (w := w) (R := fun c => c = triLt p q) (fun j => match j with | 0 => decide (p.1 = q.1) | 1 => decide (p.2.1 = q.2.1) | _ => decide (p.2.2 = q.2.2))
   (fun j => match j with | 0 => decide (p.1 < q.1) | 1 => decide (p.2.1 < q.2.1) | _ => decide (p.2.2 < q.2.2)) (fun A Q E z => l1 A Q E _ (fun _ _ e => e) z) hmm hmm' ?_ ?_) (fun fin s' z => ?_) fun _ _ z => z
  · intro j j1 j2
    have j3 : j < 3 := j1
    obtain rfl | rfl | rfl : j = 0 ∨ j = 1 ∨ j = 2 := by omega
    · exact ⟨eqN p.1 q.1, fun _ => ltN p.1 q.1⟩
    · exact ⟨eqN p.2.1 q.2.1, fun _ => ltN p.2.1 q.2.1⟩
    · exact ⟨eqN p.2.2 q.2.2, fun _ => ltN p.2.2 q.2.2⟩
  · show lexB _ _ 3 3 3 0 = _
    simp only [lexB, triLt]
    by_cases e1 : p.1 = q.1
    · by_cases e2 : p.2.1 = q.2.1
      · by_cases e3 : p.2.2 = q.2.2
        · simp [e1, e2, e3]
        · simp [e1, e2, e3]
      · simp [e1, e2]
    · simp [e1]
  · obtain ⟨v, rfl, rfl, c, rfl, rfl⟩ := z
    exact ⟨rfl, rfl⟩
 have body : ∀ E, wpAny (model pw w) A (do
  let b ← bindSpecial (.builtin "tuple.__lt__") (.ref m)
  pure (some b) : Sem (Option (Value × List Value))) (fun r s' => r = some (.builtin "tuple.__lt__", [.ref m]) ∧ s' = ⟨hp, gg, d, tk, os⟩) E ⟨hp, gg, d, tk, os⟩ := by
  intro E
  rw [lt_bind]
  exact wpAny_bind (wpAny_pure (wpAny_pure ⟨rfl, rfl⟩))
 refine wpAny_bind ?_
 unfold callSpecialIfBound?
 refine wpAny_holding (wpAny_bind ?_)
 unfold bindSpecialIfBound? specialOf
 refine wpAny_bind (wpAny_bind (ty.here (l0.here ?_)))
 dsimp only
 refine wpAny_bind (wpAny_askSetting ?_)
 split
 · refine wpAny_mono (body E) (fun r s' z => ?_) fun _ _ z => z
   obtain ⟨rfl, rfl⟩ := z
   dsimp only
   refine wpAny_bind (wpAny_mono fin (fun v s' z => ?_) fun _ _ z => z)
   obtain ⟨rfl, rfl⟩ := z
   refine wpAny_pure ?_
   exact wpAny_truthy_bool h
 · refine wpAny_tryCatch (wpAny_mono (body fun _ _ => False) (fun r s' z => ?_) fun _ _ z => z.elim)
   obtain ⟨rfl, rfl⟩ := z
   dsimp only
   refine wpAny_bind (wpAny_mono fin (fun v s' z => ?_) fun _ _ z => z)
   obtain ⟨rfl, rfl⟩ := z
   refine wpAny_pure ?_
   exact wpAny_truthy_bool h
end
end Mine
namespace Mine
open PySem PySem.W PyProof.Rows PySem.Calls PySem.Spec
theorem sortedHeap_at {h : Heap} {a : Addr} {vs : List Value} {n : Nat} (ho : h.get? a = some (lstObj vs n)) (out : Array Value) : ∃ e, (sortedHeap h a vs out).get? a = some (seqObj "list" out e) := by
 unfold sortedHeap
 have h1 := get?_update_seq ho (fun _ => #[])
 exact ⟨_, get?_update_seq (Heap.get?_push_of_some _ (Heap.get?_push_of_some _ h1)) (fun _ => out)⟩
theorem sortedHeap_ne {h : Heap} {a : Addr} {vs : List Value} {out : Array Value} {b : Addr} {o : Obj} (hb : b ≠ a) (e : h.get? b = some o) : (sortedHeap h a vs out).get? b = some o := by
 unfold sortedHeap
 rw [Heap.get?_update_ne _ _ _ _ hb]
 exact Heap.get?_push_of_some _ (Heap.get?_push_of_some _ (by rw [Heap.get?_update_ne _ _ _ _ hb]; exact e))
def IsMs (g : Heap) : List Value → List (Nat × Nat × Nat) → Prop
 | [], [] => True
 | v :: vs, p :: ps => IsM g v p ∧ IsMs g vs ps
 | _, _ => False
theorem IsMs.len {g : Heap} : ∀ {vs : List Value} {ps : List (Nat × Nat × Nat)}, IsMs g vs ps → vs.length = ps.length
 | [], [], _ => rfl
 | _ :: _, _ :: _, h => by simp [IsMs.len h.2]
 | [], _ :: _, h => h.elim
 | _ :: _, [], h => h.elim
theorem IsMs.up {g g' : Heap} (k : Le g g') : ∀ {vs : List Value} {ps : List (Nat × Nat × Nat)}, IsMs g vs ps → IsMs g' vs ps
 | [], [], _ => trivial
 | _ :: _, _ :: _, h => ⟨h.1.up k, IsMs.up k h.2⟩
 | [], _ :: _, h => h.elim
 | _ :: _, [], h => h.elim
theorem IsMs.get {g : Heap} : ∀ {vs : List Value} {ps : List (Nat × Nat × Nat)} {i : Nat} {v : Value}, IsMs g vs ps → vs[i]? = some v → ∃ p, ps[i]? = some p ∧ IsM g v p
 | v :: _, p :: _, 0, _, h, e => by cases e; exact ⟨p, rfl, h.1⟩
 | _ :: _, _ :: _, i + 1, _, h, e => IsMs.get (i := i) h.2 e
 | [], [], _, _, _, e => by simp at e
 | [], _ :: _, _, _, h, _ => h.elim
 | _ :: _, [], _, _, h, _ => h.elim
theorem IsMs.snoc {g : Heap} {v : Value} {p : Nat × Nat × Nat} (hv : IsM g v p) : ∀ {vs : List Value} {ps : List (Nat × Nat × Nat)}, IsMs g vs ps → IsMs g (vs ++ [v]) (ps ++ [p])
 | [], [], _ => ⟨hv, trivial⟩
 | _ :: _, _ :: _, h => ⟨h.1, IsMs.snoc hv h.2⟩
 | [], _ :: _, h => h.elim
 | _ :: _, [], h => h.elim
theorem IsMs.of_get {g : Heap} : ∀ {vs : List Value} {ps : List (Nat × Nat × Nat)}, vs.length = ps.length → (∀ (i : Nat) (v : Value) (p : Nat × Nat × Nat), vs[i]? = some v → ps[i]? = some p → IsM g v p) → IsMs g vs ps
 | [], [], _, _ => trivial
 | v :: _, p :: _, h, f => ⟨f 0 v p rfl rfl, IsMs.of_get (by simpa using h) fun i v p a b => f (i + 1) v p a b⟩
theorem triLt_weak : WeakB triLt where
 refl a := by simp [triLt]
 trans a b c h1 h2 := by
  unfold triLt at *
  repeat' split at h1
  all_goals (repeat' split at h2)
  all_goals simp only [decide_eq_false_iff_not] at h1 h2
  all_goals (repeat' split)
  all_goals simp only [decide_eq_false_iff_not]
  all_goals omega
 asym a b h := by
  unfold triLt at *
  repeat' split at h
  all_goals simp only [decide_eq_true_eq] at h
  all_goals (repeat' split)
  all_goals simp only [decide_eq_false_iff_not]
  all_goals omega
section
variable {w : World} {A : Around} {E : Value → Shared → Prop} {s : Shared} {env : Env} {h₀ g₀ g : Heap} {xt : List Addr} {L : Addr} {N : List Str} {vs : List (Option Value)} {pre post : List (Addr × Obj)} {n : Nat}
theorem sort_mt {a : Addr} {items : List Value} {j : Nat} {ps : List (Nat × Nat × Nat)} {pos : Pos} {Q : Value → Shared → Prop} (hA : Ok A n) (X : Sm2 g) (F : St h₀ xt g₀ g L N vs (pre ++ (a, lstObj items j) :: post) s.heap) (hm : IsMs g items ps) (h64 : ps.length < 64)
 (h : ∀ out ps' e h', ps'.Perm ps → ps'.Pairwise (fun a b => triLt b a = false) → IsMs g out ps' → St h₀ xt g₀ g L N vs (pre ++ (a, lstObj out e) :: post) h' → Q .none { s with heap := h' }) :
 MethodOnS pw w A E "sort" (.ref a) pos [] Q s := by
 have ho := (F.mt (a, lstObj items j) (by simp)).1
 have ag := (F.mt (a, lstObj items j) (by simp)).2.2.1
 have hlen := hm.len
 have getd : ∀ i, i < items.length → IsM g (items.getD i Value.none) (ps.getD i (0, 0, 0)) := fun i hi => by
  obtain ⟨p, hp, hm'⟩ := hm.get (i := i) (v := items[i]) (by simp [hi])
  have hi2 : i < ps.length := by omega
  have e1 : items.getD i Value.none = items[i] := by simp [hi]
  have e2 : ps.getD i (0, 0, 0) = ps[i] := by simp [hi2]
  rw [e1, e2]
  rw [List.getElem?_eq_getElem hi2] at hp; cases hp; exact hm'
 have keep : ∀ h', (∀ b o, b ≠ a → s.heap.get? b = some o → h'.get? b = some o) → Le g h' := fun h' k b o e => k b o (fun q => by rw [q, ag] at e; cases e) (F.keep _ _ e)
 refine ⟨"list", "list.sort", PySem.F.plainAttrs_list, slot_list_sort, by show builtinType _ = _; rw [builtinType_eq_fast]; kernel_rfl, ⟨_, ho, rfl⟩, fun b e => by cases e; exact ⟨_, ho, rfl⟩, ?_⟩
 refine callWith_any rfl (args0 ⟨trivial, ?_⟩)
 refine wpAny_call_entry slot_list_sort ⟨_, ho, rfl⟩ entry_list_sort (srt_tree (T := .ref 135) ho (by omega) (fun h' k v hv => ?_) rfl (by rfl) (fun i j => triLt (ps.getD i (0, 0, 0)) (ps.getD j (0, 0, 0))) ⟨fun a => triLt_weak.refl _, fun a b c => triLt_weak.trans _ _ _, fun a b => triLt_weak.asym _ _⟩ (fun i j h' C hi hj kp hC => ?_) fun p hp hu => ?_) (args_list_sort _)
 · obtain ⟨i, hi⟩ := List.getElem?_of_mem hv
   obtain ⟨p, hp, m, dx, t1, t2, t3, rfl, e⟩ := hm.get hi
   exact ((Looks.ld (keep h' k _ _ e)).andThen .now)
 · exact keyLt_mt X (keep h' kp) (getd i hi) (getd j hj) (by have := hA.c; show A.units + 1 + 30 < cLine; omega) hC
 · obtain ⟨e, he⟩ := sortedHeap_at (vs := items) ho (List.toArray (p.toList.map fun i => items.getD i Value.none))
   have F' := F.turn' (h₁ := sortedHeap s.heap a items (List.toArray (p.toList.map fun i => items.getD i Value.none))) (fun b o hb q => sortedHeap_ne hb q) he
   have hpl := perm_list hp
   refine ⟨_, rfl, h _ (p.toList.map fun i => ps.getD i (0, 0, 0)) e _ ?_ (sort_pair (0, 0, 0) (by have := hp.size_eq; simpa using this) hu) (IsMs.of_get (by simp) fun i v q hv hq => ?_) F'⟩
   · have := hpl.map fun i => ps.getD i (0, 0, 0)
     rw [hlen, map_getD_range] at this
     exact this
   · rw [List.getElem?_map] at hv hq
     cases z : p.toList[i]? with
     | none => rw [z] at hv; cases hv
     | some j' =>
      rw [z] at hv hq
      simp only [Option.map_some, Option.some.injEq] at hv hq
      subst hv hq
      exact getd j' (by have := hpl.mem_iff.mp (List.mem_of_getElem? z); simpa using this)
end
end Mine
namespace Mine
open PySem
abbrev Run := Nat × Nat × Nat
def upd (b r : Run) : Run := if b.2.2 < r.2.2 then r else b
def best (alo blo : Nat) (rs : List Run) : Run := rs.foldl upd (alo, blo, 0)
def Bef (r r' : Run) : Prop := r.1 + r.2.2 ≤ r'.1 ∧ r.2.1 + r.2.2 ≤ r'.2.1 ∧ (r.1 + r.2.2 < r'.1 ∨ r.2.1 + r.2.2 < r'.2.1)
structure Box (A B : List Str) (alo ahi blo bhi : Nat) (rs : List Run) : Prop where
 ha : ahi ≤ A.length
 hb : bhi ≤ B.length
 la : alo ≤ ahi
 lb : blo ≤ bhi
 sep : rs.Pairwise Bef
 inn : ∀ r ∈ rs, alo ≤ r.1 ∧ r.1 + r.2.2 ≤ ahi ∧ blo ≤ r.2.1 ∧ r.2.1 + r.2.2 ≤ bhi ∧ 0 < r.2.2
 on : ∀ r ∈ rs, ∀ t < r.2.2, A[r.1 + t]? = B[r.2.1 + t]?
 all : ∀ i j, alo ≤ i → i < ahi → blo ≤ j → j < bhi → A[i]? = B[j]? → ∃ r ∈ rs, ∃ t < r.2.2, i = r.1 + t ∧ j = r.2.1 + t
theorem pw_or {α : Type} {R : α → α → Prop} : ∀ {l : List α} {a b : α}, l.Pairwise R → a ∈ l → b ∈ l → a = b ∨ R a b ∨ R b a
 | x :: l, a, b, h, ha, hb => by
  obtain ⟨h1, h2⟩ := List.pairwise_cons.mp h
  rcases List.mem_cons.mp ha with e1 | ha' <;> rcases List.mem_cons.mp hb with e2 | hb'
  · exact .inl (e1.trans e2.symm)
  · exact .inr (.inl (e1 ▸ h1 b hb'))
  · exact .inr (.inr (e2 ▸ h1 a ha'))
  · exact pw_or h2 ha' hb'
theorem scan_add (A B : List Str) (blo bhi : Nat) : ∀ (m n i : Nat) (s : SS), scan A B blo bhi (m + n) i s = scan A B blo bhi n (i + m) (scan A B blo bhi m i s)
 | 0, n, i, s => by simp [scan]
 | m + 1, n, i, s => by
  rw [show m + 1 + n = (m + n) + 1 by omega, scan, scan_add A B blo bhi m n (i + 1), scan, show i + 1 + m = i + (m + 1) by omega]
def SS.run (s : SS) : Run := (s.bi, s.bj, s.bk)
theorem row_gap {A B : List Str} {blo bhi i : Nat} {s : SS} (h : ∀ j, blo ≤ j → j < bhi → j < B.length → A[i]? ≠ B[j]?) : row A B blo bhi i s = { s with prev := none } := by
 unfold row
 cases q : (A[i]?).bind fun x => B.idxOf? x with
 | none => rfl
 | some j =>
  obtain ⟨x, hx, hj⟩ := Option.bind_eq_some_iff.mp q
  have e := idx_at hj
  show hit blo bhi i j s = _
  unfold hit
  have hl := (List.getElem?_eq_some_iff.mp e).1
  rw [if_pos]
  rcases Nat.lt_or_ge j blo with z | z
  · exact .inl z
  · rcases Nat.lt_or_ge j bhi with z2 | z2
    · exact absurd (hx.trans e.symm) (h j z z2 hl)
    · exact .inr z2
theorem scan_gap {A B : List Str} {blo bhi : Nat} : ∀ {m i : Nat} {s : SS}, (∀ t < m, ∀ j, blo ≤ j → j < bhi → j < B.length → A[i + t]? ≠ B[j]?) → (scan A B blo bhi m i s).run = s.run ∧ (0 < m → (scan A B blo bhi m i s).prev = none)
 | 0, i, s, _ => ⟨rfl, fun h => absurd h (by omega)⟩
 | m + 1, i, s, h => by
  have h0 : row A B blo bhi i s = { s with prev := none } := row_gap (by simpa using h 0 (by omega))
  have ih := scan_gap (m := m) (i := i + 1) (s := { s with prev := none }) (fun t ht => by rw [show i + 1 + t = i + (t + 1) by omega]; exact h (t + 1) (by omega))
  rw [scan, h0]
  refine ⟨ih.1, fun _ => ?_⟩
  cases m with
  | zero => rfl
  | succ m => exact ih.2 (by omega)
theorem row_hit {A B : List Str} {blo bhi i j : Nat} {x : Str} {s : SS} (hn : B.Nodup) (ha : A[i]? = some x) (hb : B[j]? = some x) : row A B blo bhi i s = hit blo bhi i j s := by
 unfold row
 rw [ha]
 show (match B.idxOf? x with | none => _ | some j => _) = _
 rw [idx_of hn hb]
theorem scan_run {A B : List Str} {blo bhi : Nat} (hn : B.Nodup) {r : Run} {s : SS} (hon : ∀ t < r.2.2, A[r.1 + t]? = B[r.2.1 + t]?) (h1 : blo ≤ r.2.1) (h2 : r.2.1 + r.2.2 ≤ bhi) (h3 : bhi ≤ B.length) (h0 : ranOn s.prev r.2.1 = 0) :
 ∀ m ≤ r.2.2, (scan A B blo bhi m r.1 s).run = upd s.run (r.1, r.2.1, m) ∧ (scan A B blo bhi m r.1 s).prev = if m = 0 then s.prev else some (r.2.1 + m - 1, m)
 | 0, _ => by simp [scan, upd]
 | m + 1, hm => by
  obtain ⟨e1, e2⟩ := scan_run hn hon h1 h2 h3 h0 m (by omega)
  rw [scan_snoc]
  have hlt : r.2.1 + m < B.length := by omega
  have hb : B[r.2.1 + m]? = some B[r.2.1 + m] := List.getElem?_eq_getElem hlt
  have ha : A[r.1 + m]? = some B[r.2.1 + m] := (hon m (by omega)).trans hb
  rw [row_hit hn ha hb]
  generalize scan A B blo bhi m r.1 s = S at e1 e2 ⊢
  have hr : ranOn S.prev (r.2.1 + m) = m := by
   rw [e2]
   split
   · rename_i z; subst z; simpa using h0
   · rename_i z
     unfold ranOn
     dsimp only
     rw [if_pos (by omega)]
  unfold hit
  rw [if_neg (by omega), hr]
  have ebk : S.bk = (upd s.run (r.1, r.2.1, m)).2.2 := by rw [← e1]; rfl
  by_cases c : S.bk < m + 1
  · rw [if_pos c]
    refine ⟨?_, by simp⟩
    have c2 : s.bk < m + 1 := by
     rw [ebk] at c
     unfold upd SS.run at c
     dsimp only at c
     split at c <;> first | omega | (dsimp only at c; omega)
    show (r.1 + m + 1 - (m + 1), r.2.1 + m + 1 - (m + 1), m + 1) = _
    unfold upd SS.run
    rw [if_pos c2, show r.1 + m + 1 - (m + 1) = r.1 by omega, show r.2.1 + m + 1 - (m + 1) = r.2.1 by omega]
  · rw [if_neg c]
    refine ⟨?_, by simp⟩
    show S.run = _
    rw [e1]
    rw [ebk] at c
    unfold upd SS.run at c ⊢
    dsimp only at c ⊢
    split at c
    · dsimp only at c; omega
    · rename_i z; dsimp only at c; rw [if_neg z, if_neg c]
theorem scan_all {A B : List Str} {blo bhi : Nat} (hn : B.Nodup) (hb : bhi ≤ B.length) {ahi : Nat} : ∀ (rs : List Run) (i : Nat) (s : SS), i ≤ ahi → rs.Pairwise Bef →
 (∀ r ∈ rs, i ≤ r.1 ∧ r.1 + r.2.2 ≤ ahi ∧ blo ≤ r.2.1 ∧ r.2.1 + r.2.2 ≤ bhi ∧ 0 < r.2.2) → (∀ r ∈ rs, ∀ t < r.2.2, A[r.1 + t]? = B[r.2.1 + t]?) →
 (∀ i' j, i ≤ i' → i' < ahi → blo ≤ j → j < bhi → A[i']? = B[j]? → ∃ r ∈ rs, ∃ t < r.2.2, i' = r.1 + t ∧ j = r.2.1 + t) →
 (∀ r ∈ rs, r.1 = i → ranOn s.prev r.2.1 = 0) → (scan A B blo bhi (ahi - i) i s).run = rs.foldl upd s.run
 | [], i, s, hi, _, _, _, all, _ => by
  refine (scan_gap (fun t ht j h1 h2 h3 e => ?_)).1
  obtain ⟨r, hr, _⟩ := all (i + t) j (by omega) (by omega) h1 h2 e
  cases hr
 | r :: rs, i, s, hi, sep, inn, on, all, hp => by
  obtain ⟨i1, i2, i3, i4, i5⟩ := inn r (.head _)
  obtain ⟨s1, s2⟩ := List.pairwise_cons.mp sep
  have hsplit : ahi - i = (r.1 - i) + (r.2.2 + (ahi - (r.1 + r.2.2))) := by omega
  rw [hsplit, scan_add, scan_add, show i + (r.1 - i) = r.1 by omega]
  have gap := scan_gap (A := A) (B := B) (blo := blo) (bhi := bhi) (m := r.1 - i) (i := i) (s := s) (fun t ht j h1 h2 h3 e => by
   obtain ⟨r', hr', u, hu, e1, e2⟩ := all (i + t) j (by omega) (by omega) h1 h2 e
   rcases List.mem_cons.mp hr' with rfl | hr'
   · omega
   · have := (s1 r' hr').1; omega)
  have h0 : ranOn (scan A B blo bhi (r.1 - i) i s).prev r.2.1 = 0 := by
   by_cases c : r.1 = i
   · rw [show r.1 - i = 0 by omega]; exact hp r (.head _) c
   · rw [gap.2 (by omega)]; rfl
  obtain ⟨e1, e2⟩ := scan_run hn (r := r) (on r (.head _)) i3 i4 hb h0 r.2.2 (Nat.le_refl _)
  have ih := scan_all (A := A) (blo := blo) hn hb (ahi := ahi) rs (r.1 + r.2.2) (scan A B blo bhi r.2.2 r.1 (scan A B blo bhi (r.1 - i) i s)) i2 s2
   (fun r' hr' => by have := inn r' (.tail _ hr'); have := (s1 r' hr').1; omega) (fun r' hr' => on r' (.tail _ hr'))
   (fun i' j h1 h2 h3 h4 e => by
    obtain ⟨r', hr', t, ht, e1, e2⟩ := all i' j (by omega) h2 h3 h4 e
    rcases List.mem_cons.mp hr' with rfl | hr'
    · omega
    · exact ⟨r', hr', t, ht, e1, e2⟩)
   (fun r' hr' e => by
    have := s1 r' hr'
    unfold Bef at this
    rw [e2, if_neg (by omega)]
    unfold ranOn
    dsimp only
    rw [if_neg (by omega)])
  rw [ih, e1, gap.1]
  rfl
theorem best_mem (alo blo : Nat) : ∀ (rs : List Run) (b : Run), rs.foldl upd b = b ∨ rs.foldl upd b ∈ rs
 | [], _ => .inl rfl
 | r :: rs, b => by
  rw [List.foldl_cons]
  rcases best_mem alo blo rs (upd b r) with h | h
  · rw [h]
    unfold upd
    split
    · exact .inr (.head _)
    · exact .inl rfl
  · exact .inr (.tail _ h)
theorem best_pos : ∀ (rs : List Run) (b : Run), (∃ r ∈ rs, 0 < r.2.2) → 0 < (rs.foldl upd b).2.2 := by
 have mono : ∀ (rs : List Run) (b : Run), b.2.2 ≤ (rs.foldl upd b).2.2 := by
  intro rs
  induction rs with
  | nil => intro b; exact Nat.le_refl _
  | cons r rs ih =>
   intro b
   rw [List.foldl_cons]
   refine Nat.le_trans ?_ (ih _)
   unfold upd; split <;> omega
 intro rs
 induction rs with
 | nil => rintro b ⟨r, hr, _⟩; cases hr
 | cons r rs ih =>
  rintro b ⟨r', hr', hp⟩
  rw [List.foldl_cons]
  rcases List.mem_cons.mp hr' with rfl | hr'
  · refine Nat.lt_of_lt_of_le ?_ (mono rs _)
    unfold upd; split <;> omega
  · exact ih _ ⟨r', hr', hp⟩
section
variable {A B : List Str} {alo ahi blo bhi : Nat} {rs : List Run}
theorem Box.scan (hn : B.Nodup) (h : Box A B alo ahi blo bhi rs) : (scan A B blo bhi (ahi - alo) alo (first alo blo)).run = best alo blo rs :=
 scan_all hn h.hb rs alo (first alo blo) h.la h.sep (fun r hr => h.inn r hr) h.on (fun i j a b c d e => h.all i j a b c d e) fun r _ _ => rfl
theorem Box.cases (h : Box A B alo ahi blo bhi rs) : (rs = [] ∧ best alo blo rs = (alo, blo, 0)) ∨ (best alo blo rs ∈ rs ∧ 0 < (best alo blo rs).2.2) := by
 cases rs with
 | nil => exact .inl ⟨rfl, rfl⟩
 | cons r rs =>
  have hp := best_pos (r :: rs) (alo, blo, 0) ⟨r, .head _, (h.inn r (.head _)).2.2.2.2⟩
  rcases best_mem alo blo (r :: rs) (alo, blo, 0) with e | e
  · unfold best; rw [e] at hp; exact absurd hp (by simp)
  · exact .inr ⟨e, hp⟩
theorem Box.stop (hn : B.Nodup) (h : Box A B alo ahi blo bhi rs) : Stop A B alo ahi blo bhi (Mine.scan A B blo bhi (ahi - alo) alo (first alo blo)) := by
 have e := h.scan hn
 generalize Mine.scan A B blo bhi (ahi - alo) alo (first alo blo) = S at e
 have ei : S.bi = (best alo blo rs).1 := by rw [← e]; rfl
 have ej : S.bj = (best alo blo rs).2.1 := by rw [← e]; rfl
 have ek : S.bk = (best alo blo rs).2.2 := by rw [← e]; rfl
 have h1 := h.ha
 have h2 := h.hb
 have h3 := h.la
 have h4 := h.lb
 rcases h.cases with ⟨rfl, eb⟩ | ⟨hm, hp⟩
 · rw [eb] at ei ej ek
   dsimp only at ei ej ek
   refine ⟨fun c => by omega, fun c1 c2 e => ?_, by omega, by omega⟩
   obtain ⟨r, hr, _⟩ := h.all _ _ (by omega) c1 (by omega) c2 e
   cases hr
 · generalize best alo blo rs = b at ei ej ek hm hp
   obtain ⟨b1, b2, b3, b4, b5⟩ := h.inn b hm
   refine ⟨fun c1 c2 e => ?_, fun c1 c2 e => ?_, by omega, by omega⟩
   · obtain ⟨r, hr, t, ht, e1, e2⟩ := h.all (S.bi - 1) (S.bj - 1) (by omega) (by omega) (by omega) (by omega) e
     rcases pw_or h.sep hr hm with q | q | q
     · subst q; omega
     · unfold Bef at q; omega
     · unfold Bef at q; omega
   · obtain ⟨r, hr, t, ht, e1, e2⟩ := h.all _ _ (by omega) c1 (by omega) c2 e
     rcases pw_or h.sep hr hm with q | q | q
     · subst q; omega
     · unfold Bef at q; omega
     · unfold Bef at q; omega
theorem Box.split {l r : List Run} {b : Run} (h : Box A B alo ahi blo bhi (l ++ b :: r)) : Box A B alo b.1 blo b.2.1 l ∧ Box A B (b.1 + b.2.2) ahi (b.2.1 + b.2.2) bhi r := by
 have hm : b ∈ l ++ b :: r := by simp
 obtain ⟨b1, b2, b3, b4, b5⟩ := h.inn b hm
 have h1 := h.ha
 have h2 := h.hb
 obtain ⟨p1, p2, p3⟩ := List.pairwise_append.mp h.sep
 obtain ⟨p4, p5⟩ := List.pairwise_cons.mp p2
 have pl : ∀ x ∈ l, Bef x b := fun x hx => p3 x hx b (.head _)
 constructor
 · refine ⟨by omega, by omega, b1, b3, p1, fun x hx => ?_, fun x hx => h.on x (by simp [hx]), fun i j c1 c2 c3 c4 e => ?_⟩
   · have := h.inn x (by simp [hx])
     have := pl x hx
     unfold Bef at this
     omega
   · obtain ⟨x, hx, t, ht, e1, e2⟩ := h.all i j c1 (by omega) c3 (by omega) e
     rcases List.mem_append.mp hx with hx | hx
     · exact ⟨x, hx, t, ht, e1, e2⟩
     · rcases List.mem_cons.mp hx with rfl | hx
       · omega
       · have := p4 x hx; unfold Bef at this; omega
 · refine ⟨h1, h2, by omega, by omega, p5, fun x hx => ?_, fun x hx => h.on x (by simp [hx]), fun i j c1 c2 c3 c4 e => ?_⟩
   · have := h.inn x (by simp [hx])
     have := p4 x hx
     unfold Bef at this
     omega
   · obtain ⟨x, hx, t, ht, e1, e2⟩ := h.all i j (by omega) c2 (by omega) c4 e
     rcases List.mem_append.mp hx with hx | hx
     · have := pl x hx; unfold Bef at this; omega
     · rcases List.mem_cons.mp hx with rfl | hx
       · omega
       · exact ⟨x, hx, t, ht, e1, e2⟩
theorem Box.nil_of (h : Box A B alo ahi blo bhi rs) (c : ¬ (alo < ahi ∧ blo < bhi)) : rs = [] := by
 cases rs with
 | nil => rfl
 | cons r rs =>
  have := h.inn r (.head _)
  omega
end
end Mine
namespace Mine
open PySem PySem.W PyProof.Rows PySem.Calls PySem.Spec
def Zip {α : Type} (P : Value → α → Prop) (vs : List Value) (as : List α) : Prop := vs.length = as.length ∧ ∀ (i : Nat) (v : Value) (a : α), vs[i]? = some v → as[i]? = some a → P v a
theorem Zip.nil {α : Type} {P : Value → α → Prop} : Zip P [] [] := ⟨rfl, fun i v a h => by simp at h⟩
theorem Zip.mono {α : Type} {P P' : Value → α → Prop} (h : ∀ v a, P v a → P' v a) {vs : List Value} {as : List α} (z : Zip P vs as) : Zip P' vs as := ⟨z.1, fun i v a e f => h _ _ (z.2 i v a e f)⟩
theorem Zip.snoc {α : Type} {P : Value → α → Prop} {vs : List Value} {as : List α} {v : Value} {a : α} (z : Zip P vs as) (h : P v a) : Zip P (vs ++ [v]) (as ++ [a]) := by
 refine ⟨by simp [z.1], fun i u b e f => ?_⟩
 rcases Nat.lt_or_ge i vs.length with q | q
 · rw [List.getElem?_append_left q] at e
   rw [List.getElem?_append_left (by rw [← z.1]; exact q)] at f
   exact z.2 i u b e f
 · rw [List.getElem?_append_right q] at e
   rw [List.getElem?_append_right (by rw [← z.1]; exact q), ← z.1] at f
   have : i - vs.length = 0 := by
    have := (List.getElem?_eq_some_iff.mp e).1
    simp at this; omega
   rw [this] at e f
   cases e; cases f; exact h
theorem Zip.last {α : Type} {P : Value → α → Prop} {vs : List Value} {as : List α} (z : Zip P vs as) (h : vs ≠ []) : ∃ vs' v as' a, vs = vs' ++ [v] ∧ as = as' ++ [a] ∧ Zip P vs' as' ∧ P v a := by
 have h2 : as ≠ [] := fun q => by subst q; exact h (List.length_eq_zero_iff.mp z.1)
 refine ⟨vs.dropLast, vs.getLast h, as.dropLast, as.getLast h2, (List.dropLast_concat_getLast h).symm, (List.dropLast_concat_getLast h2).symm, ⟨by simp [z.1], fun i v a e f => ?_⟩, ?_⟩
 · rw [List.getElem?_dropLast] at e f
   split at e
   · split at f
     · exact z.2 i v a e f
     · cases f
   · cases e
 · refine z.2 (vs.length - 1) _ _ ?_ ?_
   · rw [List.getLast_eq_getElem, List.getElem?_eq_getElem]
   · rw [z.1, List.getLast_eq_getElem, List.getElem?_eq_getElem]
theorem Zip.get {α : Type} {P : Value → α → Prop} {vs : List Value} {as : List α} (z : Zip P vs as) {i : Nat} {v : Value} (h : vs[i]? = some v) : ∃ a, as[i]? = some a ∧ P v a := by
 have hl : i < as.length := by have := (List.getElem?_eq_some_iff.mp h).1; rw [z.1] at this; exact this
 exact ⟨as[i], List.getElem?_eq_getElem hl, z.2 i v _ h (List.getElem?_eq_getElem hl)⟩
def IsT (g : Heap) (v : Value) (p : Run) : Prop := ∃ T t1 t2 t3, v = .ref T ∧ g.get? T = some (tupObj [.int (p.1 : Int) t1, .int (p.2.1 : Int) t2, .int (p.2.2 : Int) t3])
def IsQ (A B : List Str) (g : Heap) (v : Value) (rs : List Run) : Prop := ∃ T alo ahi blo bhi t1 t2 t3 t4, v = .ref T ∧ g.get? T = some (tupObj [.int ((alo : Nat) : Int) t1, .int ((ahi : Nat) : Int) t2, .int ((blo : Nat) : Int) t3, .int ((bhi : Nat) : Int) t4]) ∧ Box A B alo ahi blo bhi rs
theorem IsT.up {g g' : Heap} (k : Le g g') {v : Value} {p : Run} (h : IsT g v p) : IsT g' v p := let ⟨T, a, b, c, e, f⟩ := h; ⟨T, a, b, c, e, k _ _ f⟩
theorem IsQ.up {A B : List Str} {g g' : Heap} (k : Le g g') {v : Value} {rs : List Run} (h : IsQ A B g v rs) : IsQ A B g' v rs := let ⟨T, a, b, c, d, t1, t2, t3, t4, e, f, z⟩ := h; ⟨T, a, b, c, d, t1, t2, t3, t4, e, k _ _ f, z⟩
def work (rss : List (List Run)) : Nat := (rss.map fun rs => 2 * rs.length + 1).sum
theorem work_snoc (rss : List (List Run)) (rs : List Run) : work (rss ++ [rs]) = work rss + (2 * rs.length + 1) := by simp [work]
theorem work_len : ∀ rss : List (List Run), rss.length ≤ work rss
 | [] => Nat.zero_le _
 | rs :: r => by have := work_len r; simp only [work, List.map_cons, List.sum_cons, List.length_cons] at this ⊢; omega
section
variable {prog : Program} {w : World} {A : Around} {s : Shared} {env : Env} {E : Value → Shared → Prop}
variable {h₀ g₀ g : Heap} {xt : List Addr} {L : Addr} {N : List Str} {vs : List (Option Value)} {mu : List (Addr × Obj)}
theorem go_tup {elts : List Expr} {k : Nat} {p : Pos} {I l : Addr} {i : Nat} {v : Value} {Q : Unit → Shared → Prop} (hit : s.heap.IsListIter I l i) (h : Q () s) : wpAny (model prog w) A (letOwnedTupleGo (.Tuple elts k p) (.ref I) v) Q no s := by
 cases v with
 | ref T => exact wpAny_letOwnedTupleGo_listiter hit h
 | _ => exact wpAny_pure h
theorem each_listT {elts : List Expr} {kk : Nat} {p : Pos} {body : List Stmt} {l : Addr} {items : List Value} {k : Nat} {Q : Flow → Shared → Prop}
 (J : Nat → Heap → List (Option Value) → List (Addr × Obj) → Prop) (hh : A.handled = none) (F : St h₀ xt g₀ g L N vs mu s.heap) (hl : g.get? l = some (lstObj items k)) (hj : J 0 g vs mu)
 (turn : ∀ i v g' vs' mu' I oI h tk, items[i]? = some v → Le g g' → J i g' vs' mu' → St h₀ xt g₀ g' L N vs' ((I, oI) :: mu') h →
  wpAny (model prog w) A (assign (.Tuple elts kk p) env v) (fun _ s₁ => wpAny (model prog w) A (execs body env) (Turn h₀ g₀ xt L N s g' I oI (J (i + 1)) Q) no s₁) no { s with heap := h, toks := tk })
 (done : ∀ g' vs' mu' h tk, Le g g' → J items.length g' vs' mu' → St h₀ xt g₀ g' L N vs' mu' h → Q .next { s with heap := h, toks := tk }) :
 wpAny (model prog w) A (pyIter (.ref l)) (fun it s₂ => codeAny (model prog w) A (.forLoop (.Tuple elts kk p) it body [] env) (fun r s' => match r with | .ok f => Q f s' | .error _ => False) s₂) no s := by
 refine wpAny_pyIter_list ⟨_, F.keep _ _ hl, rfl, _, rfl⟩ ?_
 have F₁ := F.own (litObj l)
 obtain ⟨hI, h0⟩ := It.list (prog := prog) (w := w) (A := A) (target := .Tuple elts kk p) hh hl (F₁.mt _ (.head _)).2.2.1 F₁.keep (F₁.mt _ (.head _)).1 fun i v s Q hit h => go_tup hit h
 exact forLoop_ J hI h0 F₁ hj (fun i v g' vs' mu' oI h tk _ hP hg hJ F' => turn i v g' vs' mu' _ oI h tk hP hg hJ F') done
end
theorem iaddZ {w : World} {A : Around} {E : Value → Shared → Prop} {s : Shared} {a b : Int} {c : Nat} {t u : Tok} {Q : Value → Shared → Prop} (e : a + b = (c : Int)) (h : Q (.int (c : Int) s.toks) { s with toks := s.toks + 1 }) : wpAny (model pw w) A (inplaceOp .Add (.int a t) (.int b u)) Q E s :=
 wpAny_iadd_int (by rw [e]; exact h)
theorem perm_uniq {α : Type} {blt : α → α → Bool} (tri : ∀ a b, blt a b = false → blt b a = false → a = b) : ∀ {l l' : List α}, l.Perm l' → l.Pairwise (fun a b => blt b a = false) → l'.Pairwise (fun a b => blt b a = false) → l = l'
 | [], l', h, _, _ => (List.Perm.nil_eq h)
 | a :: l, [], h, _, _ => by have := h.length_eq; simp at this
 | a :: l, b :: l', h, h1, h2 => by
  obtain ⟨p1, p2⟩ := List.pairwise_cons.mp h1
  obtain ⟨q1, q2⟩ := List.pairwise_cons.mp h2
  have ha : a ∈ b :: l' := h.subset (.head _)
  have hb : b ∈ a :: l := h.symm.subset (.head _)
  have e : a = b := by
   rcases List.mem_cons.mp ha with e | ha
   · exact e
   · rcases List.mem_cons.mp hb with e | hb
     · exact e.symm
     · exact tri a b (q1 a ha) (p1 b hb)
  subst e
  rw [perm_uniq tri h.cons_inv p2 q2]
theorem triLt_tri (a b : Nat × Nat × Nat) (h1 : triLt a b = false) (h2 : triLt b a = false) : a = b := by
 obtain ⟨a1, a2, a3⟩ := a
 obtain ⟨b1, b2, b3⟩ := b
 unfold triLt at h1 h2
 dsimp only at h1 h2
 have : a1 = b1 := by
  by_cases e : a1 = b1
  · exact e
  · rw [if_neg e] at h1; rw [if_neg (Ne.symm e)] at h2
    simp at h1 h2; omega
 subst this
 rw [if_pos rfl] at h1 h2
 have : a2 = b2 := by
  by_cases e : a2 = b2
  · exact e
  · rw [if_neg e] at h1; rw [if_neg (Ne.symm e)] at h2
    simp at h1 h2; omega
 subst this
 rw [if_pos rfl] at h1 h2
 simp at h1 h2
 have : a3 = b3 := by omega
 rw [this]
theorem runs_sorted {R : List Run} (h : R.Pairwise Bef) (hp : ∀ r ∈ R, 0 < r.2.2) : R.Pairwise (fun a b => triLt b a = false) := by
 refine List.Pairwise.imp_of_mem (fun {a b} ha hb hab => ?_) h
 have := hp a ha
 unfold Bef at hab
 unfold triLt
 rw [if_neg (by omega)]
 simp; omega
theorem asM {w : World} {A : Around} {E : Value → Shared → Prop} {s : Shared} {env : Env} {h₀ g₀ g : Heap} {xt : List Addr} {L : Addr} {N : List Str} {vs : List (Option Value)} {mu : List (Addr × Obj)} {elts : List Expr} {k : Nat} {tp : Pos} {m dx : Addr} {v1 v2 v3 : Value} {Q : Unit → Shared → Prop} (hh : A.handled = none) (X : Sm2 g) (F : St h₀ xt g₀ g L N vs mu s.heap) (hm : g.get? m = some (mtO dx [v1, v2, v3]))
 (h : ∀ h', St h₀ xt g₀ g L N vs mu h' → wpAny (model pw w) A (assignInOrder ((assignEach elts env).map (·.2)) [v1, v2, v3]) Q E { s with heap := h' })
 (hn : (assignEach elts env).length = 3 := by rfl) (hs : (assignEach elts env).findIdx? (·.1) = none := by rfl) : wpAny (model pw w) A (assign (.Tuple elts k tp) env (.ref m)) Q E s := by
 rw [assign_Tuple]
 refine wpAny_bind (wpAny_standAt ?_)
 unfold unpack
 rw [hn, hs]
 exact wpAny_bind (wpAny_holding (unp_mt hh X F hm fun h' F' => h h' F'))
def pvR (R : List Run) : Nat → Run
 | 0 => (0, 0, 0)
 | i + 1 => R.getD i (0, 0, 0)
abbrev nBlk : List Str := ["self", "la", "lb", "queue", "matching_blocks", "alo", "ahi", "blo", "bhi", "i", "j", "k", "x", "i1", "j1", "k1", "non_adjacent", "i2", "j2", "k2"]
section
variable {w : World} {A : Around} {s : Shared} {g : Heap} {n₀ : Nat} {x dx la lb db dj dp : Addr} {TA TB : List (Str × Tok)}
set_option maxHeartbeats 4000000 in
theorem blocks_gives (X : Sm2 g) (kg : Le g s.heap) (hA : Ok A (n₀ + 8)) {oc : Value} (Rd : Ready w g s.heap x dx la lb db dj dp TA TB .none oc) (hdx : g.get? dx = none) {R : List Run}
 (hbox : Box (TA.map (·.1)) (TB.map (·.1)) 0 TA.length 0 TB.length R) (hR : R.length < 60) :
 Gives pw w A (.call (.ref 203) ⟨[.ref x], []⟩) s [dx] g (fun g' _ v => ∃ D ys k, v = .ref D ∧ g'.get? D = some (lstObj ys k) ∧ IsMs g' ys (R ++ [(TA.length, TB.length, 0)])) := by
 have Rd₀ := Rd
 obtain ⟨hx, me, ⟨ka, ea⟩, ⟨kb, eb⟩, ⟨es, en, edb, hB⟩, dbs, ⟨led, ej⟩, nb, szA, szB⟩ := Rd
 obtain ⟨od, hod, hat⟩ : ∃ od, s.heap.get? dx = some od ∧ AtO od [.none, .ref la, .ref lb, .bool true, .none, oc, .none, .ref db, .ref dj, .ref dp] := by
  obtain ⟨m, a, b⟩ := me.at_
  obtain ⟨o, e, a'⟩ := At.of a
  exact ⟨o, e, m, a', b⟩
 have lenA : (strValues TA).length = TA.length := by simp [strValues]
 have lenB : (strValues TB).length = TB.length := by simp [strValues]
 refine Gives.enter [.ref x] ["self"] ["la", "lb", "queue", "matching_blocks", "alo", "ahi", "blo", "bhi", "i", "j", "k", "x", "i1", "j1", "k1", "non_adjacent", "i2", "j2", "k2"] ["len", "list", "map", "Match"] [(dx, od)] (kg _ _ (X.fnAt 6 rfl)) rfl (X.lim.keeps kg) ((X.cdAt 6 rfl).keeps kg) hA rfl (BindsTo.of_eq rfl) rfl (by decide +kernel) kg (fun p hp => by rw [List.mem_singleton.mp hp]; exact ⟨hod, hdx, .head _⟩) (by simp) fun h₁ env A' t' hA' C F => ?_
 dsimp only [List.map_cons, List.map_nil, List.append_nil, List.cons_append, List.nil_append] at F C
 refine doc_ C fun t' => ?_
 refine wpAny_execs_cons ?_
 refine wpAny_If (wpAny_isTrue_Compare1 ?_)
 refine getE rfl ?_
 refine ld0 C F ?_
 refine gA (pre := []) 4 rfl X.toSm hx F hat rfl rfl ?_
 refine wpAny_Constant_none ?_
 refine isNot_none (wpAny_truthy_bool ?_)
 refine wpAny_execs_nil ?_
 refine wpAny_execs_cons ?_
 refine Assign_Tuple_swapped (names := ["la", "lb"]) ?_ rfl (swp2 C 1 2 rfl rfl (by decide))
 refine tupE ?_
 refine sp1 ?_
 refine C1 (N_len C X.toStat F.keep (.head _) ?_)
 refine getE rfl ?_
 refine ld0 C F ?_
 refine gA (pre := []) 1 rfl X.toSm hx F hat rfl rfl ⟨trivial, ?_⟩
 refine lenL F.keep ea (by omega) fun tla t' => ?_
 refine sp1 ?_
 refine C1 (N_len C X.toStat F.keep (.head _) ?_)
 refine getE rfl ?_
 refine ld0 C F ?_
 refine gA (pre := []) 2 rfl X.toSm hx F hat rfl rfl ⟨trivial, ?_⟩
 refine lenL F.keep eb (by omega) fun tlb t' => ?_
 rw [lenA, lenB]
 refine sp0 ?_
 refine newTup F fun T g₂ h' k2 eT F => ?_
 refine unp hA'.handled F eT rfl fun h' F => ?_
 dsimp only
 refine assignInOrder_cons (wpAny_bindName (st2 C F fun h' F => ?_))
 refine assignInOrder_cons (wpAny_bindName (st1 C F fun h' F => assignInOrder_nil ?_))
 dsimp only
 have X₂ := X.up k2
 refine wpAny_execs_cons ?_
 refine wpAny_Assign_Name ?_
 refine lstE ?_
 refine sp1 ?_
 refine tupE ?_
 refine sp1 (wpAny_Constant_int ?_)
 refine sp1 (ld1 C F ?_)
 refine sp1 (wpAny_Constant_int ?_)
 refine sp1 (ld2 C F ?_)
 refine sp0 ?_
 refine newTup F fun T0 g₃ h' k3 eT0 F => ?_
 refine sp0 ?_
 refine newOwn F fun qa h' F hqa => ?_
 refine st3 C F fun h' F => ?_
 dsimp only
 refine wpAny_execs_cons ?_
 refine wpAny_Assign_Name ?_
 refine lstE (sp0 ?_)
 refine newOwn F fun ma h' F hma => ?_
 refine st4 C F fun h' F => ?_
 dsimp only
 have X₃ := X₂.up k3
 have kk₃ := k2.tr k3
 refine seqP (fun s₂ => ∃ h' t' g₄ mv mp mj u5 u6 u7 u8 u9 u10 u11 u12, s₂ = { s with heap := h', toks := t' } ∧ Le g₃ g₄ ∧ IsMs g₄ mv mp ∧ mp.Perm R ∧
  St s.heap [dx] g g₄ env.locals nBlk [some (.ref x), some (.int (TA.length : Int) tla), some (.int (TB.length : Int) tlb), some (.ref qa), some (.ref ma), u5, u6, u7, u8, u9, u10, u11, u12, none, none, none, none, none, none, none] [(ma, lstObj mv mj), (dx, od)] h') ?_ ?_
 · refine While_ (fun n g' vs' mu' => Sm2 g' ∧ ∃ qv rss mv mp qj mj u5 u6 u7 u8 u9 u10 u11 u12, n = work rss ∧ n ≤ 200 ∧ Zip (IsQ (TA.map (·.1)) (TB.map (·.1)) g') qv rss ∧ IsMs g' mv mp ∧ (mp ++ rss.flatten).Perm R ∧
    vs' = [some (.ref x), some (.int (TA.length : Int) tla), some (.int (TB.length : Int) tlb), some (.ref qa), some (.ref ma), u5, u6, u7, u8, u9, u10, u11, u12, none, none, none, none, none, none, none] ∧ mu' = [(ma, lstObj mv mj), (qa, lstObj qv qj), (dx, od)]) (work [R]) F ⟨X₃, [.ref T0], [R], [], [], 0, 0, none, none, none, none, none, none, none, none, rfl, by simp [work]; omega, ?_, trivial, by simp, rfl, rfl⟩ ?_
   · exact Zip.snoc (vs := []) (as := []) .nil ⟨T0, 0, TA.length, 0, TB.length, _, _, _, _, rfl, eT0, hbox⟩
   rintro n g' vs' mu' h tk kg' ⟨X', qv, rss, mv, mp, qj, mj, u5, u6, u7, u8, u9, u10, u11, u12, rfl, hn200, hq, hmv, hperm, rfl, rfl⟩ F
   have hql : qv.length ≤ 200 := by rw [hq.1]; exact Nat.le_trans (work_len rss) hn200
   refine isTrue_plain (ld3 C F ?_)
   refine wpAny_truthy_list ⟨_, (F.mt (qa, lstObj qv qj) (by simp)).1, rfl, _, rfl⟩ (by simp; omega) ?_
   by_cases hqe : qv = []
   · subst hqe
     rw [if_neg (by simp)]
     have : rss = [] := List.length_eq_zero_iff.mp hq.1.symm
     subst this
     refine ⟨rfl, _, _, g', mv, mp, mj, u5, u6, u7, u8, u9, u10, u11, u12, rfl, kg', hmv, by simpa using hperm, ?_⟩
     exact F.sub (.cons_cons _ (.cons _ (List.Sublist.refl _)))
   rw [if_pos (by simpa using hqe)]
   obtain ⟨qv', v, rss', rs, rfl, rfl, hq', hQ⟩ := hq.last hqe
   obtain ⟨T1, alo, ahi, blo, bhi, t1, t2, t3, t4, rfl, eT1, bx⟩ := hQ
   have hwk := work_snoc rss' rs
   refine wpAny_execs_cons ?_
   refine Assign_Tuple ?_
   refine popS (h₀ := s.heap) (xt := [dx]) (g₀ := g) (L := env.locals) (N := nBlk) (a := qa) (xs := qv') (y := .ref T1) (j := qj) (pre := [(ma, lstObj mv mj)]) (post := [(dx, od)]) (by omega) ?_
   refine ld3 C F ⟨rfl, g', _, F, fun h' j' F => ?_⟩
   refine asT hA'.handled F eT1 fun h' F => ?_
   refine assignInOrder_cons (assign_Name (st5 C F fun h' F => ?_))
   refine assignInOrder_cons (assign_Name (st6 C F fun h' F => ?_))
   refine assignInOrder_cons (assign_Name (st7 C F fun h' F => ?_))
   refine assignInOrder_cons (assign_Name (st8 C F fun h' F => assignInOrder_nil ?_))
   dsimp only
   have kk := kk₃.tr kg'
   have hx' := kk _ _ hx
   have lA := bx.ha
   have lB := bx.hb
   rw [List.length_map] at lA lB
   refine wpAny_execs_cons ?_
   refine Asg2 ?_
   refine ME4 rfl rfl ?_
   refine ld0 C F ?_
   intro pl
   have hy : typeLookup (.type "object") "find_longest_match" = pure none := by rw [typeLookup_type, builtinLookup_eq_fast]; kernel_rfl
   have me' := Me.of (pre := [(ma, lstObj mv mj), (qa, lstObj qv' j')]) hx' F hat
   refine methA (f := 196) (fd := fdFind) X'.toSm F.keep me' (by decide) (by decide +kernel) (X'.fnAt 5 rfl) hy ?_
   refine ld5 C F ?_
   refine ld6 C F ?_
   refine ld7 C F ?_
   refine ld8 C F ?_
   refine ⟨⟨_, F.keep _ _ (X'.fnAt 5 rfl)⟩, ?_⟩
   refine call_c F (find_gives (n := n₀) X' F.keep (hA'.le (by omega)) ⟨hx', me', ⟨ka, kk _ _ ea⟩, ⟨kb, kk _ _ eb⟩, ⟨es, en, kk _ _ edb, hB.up kk⟩, dbs, ⟨led, kk _ _ ej⟩, nb, szA, szB⟩ (alo := alo) (ahi := ahi) (blo := blo) (bhi := bhi) (BindsTo.of_defaults rfl (F.keep _ _ (X'.obAt 1 rfl)) rfl rfl rfl) (.inl ⟨_, rfl⟩) (.inl ⟨_, rfl⟩) lA lB (Nat.le_trans bx.la lA) (Nat.le_trans bx.lb lB) (bx.stop nb)) fun g₅ h' t' v k5 F e => ?_
   obtain ⟨m, d3, r1, r2, r3, rfl, hm⟩ := e
   have er := bx.scan nb
   generalize scan (TA.map (·.1)) (TB.map (·.1)) blo bhi (ahi - alo) alo (first alo blo) = S at er hm
   have hcases := bx.cases
   generalize best alo blo rs = b at er hcases
   obtain rfl : (S.bi, S.bj, S.bk) = b := er
   have X₅ := X'.up k5
   refine asM hA'.handled X₅ F hm fun h' F => ?_
   refine assignInOrder_cons (assign_Name (st9 C F fun h' F => ?_))
   refine assignInOrder_cons (assign_Name (st10 C F fun h' F => ?_))
   refine assignInOrder_cons (assign_Name (st11 C F fun h' F => assignInOrder_nil ?_))
   dsimp only
   refine asgN (st12 C F fun h' F => ?_)
   dsimp only
   refine wpAny_execs_cons ?_
   refine wpAny_If (isTrue_plain (ld11 C F ?_))
   refine P.truthy_int ?_
   have kall := kg'.tr k5
   rcases hcases with ⟨rfl, eb0⟩ | ⟨hbm, hbp⟩
   · have hk0 : S.bk = 0 := by have := congrArg (fun p => p.2.2) eb0; simpa using this
     rw [if_neg (by simp [hk0])]
     refine wpAny_execs_nil (wpAny_execs_nil ?_)
     exact wturn (work rss') (by omega) k5 F ⟨X₅, qv', rss', mv, mp, _, _, _, _, _, _, _, _, _, _, rfl, by omega, hq'.mono fun v a h => h.up k5, hmv.up k5, by simpa using hperm, rfl, rfl⟩
   have hbp' : 0 < S.bk := hbp
   rw [if_pos (by simp; omega)]
   obtain ⟨l, r, rfl⟩ := List.append_of_mem hbm
   obtain ⟨bl, br⟩ := bx.split
   dsimp only at bl br
   have hmlen : mp.length ≤ 200 := by
    have := hperm.length_eq
    simp at this; omega
   have hmvl : mv.length ≤ 200 := by rw [hmv.len]; exact hmlen
   refine wpAny_execs_cons ?_
   refine wpAny_Expr ?_ C.inter
   refine appS (h₀ := s.heap) (xt := [dx]) (g₀ := g) (L := env.locals) (N := nBlk) (a := ma) (xs := mv) (j := mj) (pre := []) (post := [(qa, lstObj qv' j'), (dx, od)]) (by omega) ?_
   refine ld4 C F ⟨rfl, ⟨_, (F.mt _ (.head _)).1, rfl, rfl⟩, ?_⟩
   refine ld12 C F ?_
   refine ⟨g₅, _, F, fun h' F => ?_⟩
   dsimp only [List.nil_append] at F
   have hmv5 : IsMs g₅ (mv ++ [.ref m]) (mp ++ [(S.bi, S.bj, S.bk)]) := (hmv.up k5).snoc ⟨m, d3, r1, r2, r3, rfl, hm⟩
   have hq5 := hq'.mono (fun v a h => IsQ.up k5 h)
   refine seqP (fun s₂ => ∃ h' t' g₆ qv1 rss1 qj1, s₂ = { s with heap := h', toks := t' } ∧ Le g₅ g₆ ∧ Zip (IsQ (TA.map (·.1)) (TB.map (·.1)) g₆) qv1 rss1 ∧ rss1.flatten.Perm (rss'.flatten ++ l) ∧ work rss1 ≤ work rss' + (2 * l.length + 1) ∧
    St s.heap [dx] g g₆ env.locals nBlk [some (.ref x), some (.int (TA.length : Int) tla), some (.int (TB.length : Int) tlb), some (.ref qa), some (.ref ma), some (.int (alo : Int) t1), some (.int (ahi : Int) t2), some (.int (blo : Int) t3), some (.int (bhi : Int) t4), some (.int (S.bi : Int) r1), some (.int (S.bj : Int) r2), some (.int (S.bk : Int) r3), some (.ref m), none, none, none, none, none, none, none] [(ma, lstObj (mv ++ [.ref m]) (mj + 1)), (qa, lstObj qv1 qj1), (dx, od)] h') ?_ ?_
   · by_cases c : alo < S.bi ∧ blo < S.bj
     · refine wpAny_If ?_
       refine isTrue_and (wpAny_isTrue_Compare1 (ld5 C F (ld9 C F (P.lt_int (wpAny_truthy_bool ?_)))))
       rw [if_pos (by simpa using c.1)]
       refine isTrue_and (wpAny_isTrue_Compare1 (ld7 C F (ld10 C F (P.lt_int (wpAny_truthy_bool ?_)))))
       rw [if_pos (by simpa using c.2)]
       refine isTrue_and_nil ?_
       rw [if_pos rfl]
       refine wpAny_execs_cons ?_
       refine wpAny_Expr ?_ C.inter
       refine appS (h₀ := s.heap) (xt := [dx]) (g₀ := g) (L := env.locals) (N := nBlk) (a := qa) (xs := qv') (j := j') (pre := [(ma, lstObj (mv ++ [.ref m]) (mj + 1))]) (post := [(dx, od)]) (by simp at hql; omega) ?_
       refine ld3 C F ⟨rfl, ⟨_, (F.mt (qa, lstObj qv' j') (by simp)).1, rfl, rfl⟩, ?_⟩
       refine tupE ?_
       refine sp1 (ld5 C F ?_)
       refine sp1 (ld9 C F ?_)
       refine sp1 (ld7 C F ?_)
       refine sp1 (ld10 C F ?_)
       refine sp0 ?_
       refine newTup F fun T2 g₆ h' k6 eT2 F => ?_
       refine ⟨g₆, _, F, fun h' F => ?_⟩
       refine wpAny_execs_nil ⟨rfl, _, _, g₆, _, rss' ++ [l], _, rfl, k6, (hq5.mono fun v a h => IsQ.up k6 h).snoc ⟨T2, alo, S.bi, blo, S.bj, _, _, _, _, rfl, eT2, bl⟩, by simp, by rw [work_snoc]; omega, F⟩
     · have hl := bl.nil_of c
       subst hl
       refine wpAny_If ?_
       refine isTrue_and (wpAny_isTrue_Compare1 (ld5 C F (ld9 C F (P.lt_int (wpAny_truthy_bool ?_)))))
       by_cases c1 : alo < S.bi
       · rw [if_pos (by simpa using c1)]
         refine isTrue_and (wpAny_isTrue_Compare1 (ld7 C F (ld10 C F (P.lt_int (wpAny_truthy_bool ?_)))))
         rw [if_neg (by simp; omega)]
         refine wpAny_execs_nil ⟨rfl, _, _, g₅, qv', rss', _, rfl, Le.rfl', hq5, by simp, by omega, F⟩
       · rw [if_neg (by simpa using c1)]
         refine wpAny_execs_nil ⟨rfl, _, _, g₅, qv', rss', _, rfl, Le.rfl', hq5, by simp, by omega, F⟩
   rintro s₂ ⟨h', t', g₆, qv1, rss1, qj1, rfl, k6, hq1, hp1, hw1, F⟩
   have hrl : rss1.length ≤ 300 := by
    have := work_len rss1
    have h2 : (l ++ (S.bi, S.bj, S.bk) :: r).length = l.length + 1 + r.length := by simp; omega
    omega
   have hq1l : qv1.length ≤ 300 := by rw [hq1.1]; exact hrl
   refine seqP (fun s₂ => ∃ h' t' g₇ qv2 rss2 qj2, s₂ = { s with heap := h', toks := t' } ∧ Le g₆ g₇ ∧ Zip (IsQ (TA.map (·.1)) (TB.map (·.1)) g₇) qv2 rss2 ∧ rss2.flatten.Perm (rss1.flatten ++ r) ∧ work rss2 ≤ work rss1 + (2 * r.length + 1) ∧
    St s.heap [dx] g g₇ env.locals nBlk [some (.ref x), some (.int (TA.length : Int) tla), some (.int (TB.length : Int) tlb), some (.ref qa), some (.ref ma), some (.int (alo : Int) t1), some (.int (ahi : Int) t2), some (.int (blo : Int) t3), some (.int (bhi : Int) t4), some (.int (S.bi : Int) r1), some (.int (S.bj : Int) r2), some (.int (S.bk : Int) r3), some (.ref m), none, none, none, none, none, none, none] [(ma, lstObj (mv ++ [.ref m]) (mj + 1)), (qa, lstObj qv2 qj2), (dx, od)] h') ?_ ?_
   · refine wpAny_If ?_
     refine isTrue_and (wpAny_isTrue_Compare1 ?_)
     refine wpAny_BinOp ?_
     refine ld9 C F ?_
     refine ld11 C F ?_
     refine addZ (c := S.bi + S.bk) (by omega) ?_
     refine ld6 C F (P.lt_int (wpAny_truthy_bool ?_))
     by_cases c1 : S.bi + S.bk < ahi
     rotate_left
     · rw [if_neg (by simp only [decide_eq_true_eq]; omega)]
       obtain rfl := br.nil_of (by omega)
       refine wpAny_execs_nil ⟨rfl, _, _, g₆, qv1, rss1, _, rfl, Le.rfl', hq1, by simp, by omega, F⟩
     rw [if_pos (by simp only [decide_eq_true_eq]; omega)]
     refine isTrue_and (wpAny_isTrue_Compare1 ?_)
     refine wpAny_BinOp ?_
     refine ld10 C F ?_
     refine ld11 C F ?_
     refine addZ (c := S.bj + S.bk) (by omega) ?_
     refine ld8 C F (P.lt_int (wpAny_truthy_bool ?_))
     by_cases c2 : S.bj + S.bk < bhi
     rotate_left
     · rw [if_neg (by simp only [decide_eq_true_eq]; omega)]
       obtain rfl := br.nil_of (by omega)
       refine wpAny_execs_nil ⟨rfl, _, _, g₆, qv1, rss1, _, rfl, Le.rfl', hq1, by simp, by omega, F⟩
     rw [if_pos (by simp only [decide_eq_true_eq]; omega)]
     refine isTrue_and_nil ?_
     rw [if_pos rfl]
     refine wpAny_execs_cons ?_
     refine wpAny_Expr ?_ C.inter
     refine appS (h₀ := s.heap) (xt := [dx]) (g₀ := g) (L := env.locals) (N := nBlk) (a := qa) (xs := qv1) (j := qj1) (pre := [(ma, lstObj (mv ++ [.ref m]) (mj + 1))]) (post := [(dx, od)]) (by omega) ?_
     refine ld3 C F ⟨rfl, ⟨_, (F.mt (qa, lstObj qv1 qj1) (by simp)).1, rfl, rfl⟩, ?_⟩
     refine tupE ?_
     refine sp1 ?_
     refine wpAny_BinOp ?_
     refine ld9 C F ?_
     refine ld11 C F ?_
     refine addZ (c := S.bi + S.bk) (by omega) ?_
     refine sp1 (ld6 C F ?_)
     refine sp1 ?_
     refine wpAny_BinOp ?_
     refine ld10 C F ?_
     refine ld11 C F ?_
     refine addZ (c := S.bj + S.bk) (by omega) ?_
     refine sp1 (ld8 C F ?_)
     refine sp0 ?_
     refine newTup F fun T2 g₇ h' k7 eT2 F => ?_
     refine ⟨g₇, _, F, fun h' F => ?_⟩
     refine wpAny_execs_nil ⟨rfl, _, _, g₇, _, rss1 ++ [r], _, rfl, k7, (hq1.mono fun v a h => IsQ.up k7 h).snoc ⟨T2, S.bi + S.bk, ahi, S.bj + S.bk, bhi, _, _, _, _, rfl, eT2, br⟩, by simp, by rw [work_snoc]; omega, F⟩
   rintro s₂ ⟨h', t', g₇, qv2, rss2, qj2, rfl, k7, hq2, hp2, hw2, F⟩
   have h2 : (l ++ (S.bi, S.bj, S.bk) :: r).length = l.length + 1 + r.length := by simp; omega
   refine wpAny_execs_nil (wpAny_execs_nil ?_)
   refine wturn (work rss2) (by omega) (k5.tr (k6.tr k7)) F ⟨X₅.up (k6.tr k7), qv2, rss2, mv ++ [.ref m], mp ++ [(S.bi, S.bj, S.bk)], _, _, _, _, _, _, _, _, _, _, rfl, by omega, hq2, hmv5.up (k6.tr k7), ?_, rfl, rfl⟩
   refine List.Perm.trans ?_ hperm
   have p1 : (mp ++ [(S.bi, S.bj, S.bk)] ++ rss2.flatten).Perm (mp ++ [(S.bi, S.bj, S.bk)] ++ ((rss'.flatten ++ l) ++ r)) := List.Perm.append_left _ (hp2.trans (List.Perm.append_right _ hp1))
   refine p1.trans ?_
   rw [List.append_assoc, List.flatten_append]
   refine List.Perm.append_left _ ?_
   have pm := (List.perm_middle (a := (S.bi, S.bj, S.bk)) (l₁ := rss'.flatten ++ l) (l₂ := r)).symm
   simpa [List.append_assoc] using pm
 rintro s₂ ⟨h', t', g₄, mv, mp, mj, u5, u6, u7, u8, u9, u10, u11, u12, rfl, k4, hmv, hperm, F⟩
 have kk₄ := kk₃.tr k4
 have X₄ := X₃.up k4
 have hpos : ∀ r ∈ R, 0 < r.2.2 := fun r hr => (hbox.inn r hr).2.2.2.2
 refine wpAny_execs_cons ?_
 refine wpAny_Expr ?_ C.inter
 refine Call_method0 rfl rfl (ld4 C F ?_)
 refine sort_mt (pre := []) (post := [(dx, od)]) (n := n₀ + 7) hA' X₄ F hmv (by have := hperm.length_eq; omega) fun out ps' e h' hp1 hp2 hout F => ?_
 have eR : ps' = R := perm_uniq triLt_tri (hp1.trans hperm) hp2 (runs_sorted hbox.sep hpos)
 rw [eR] at hout
 dsimp only
 obtain ⟨g₅, k5, ema, F⟩ := F.freeze (pre := []) (post := [(dx, od)]) rfl hma
 dsimp only [List.nil_append] at F
 have X₅ := X₄.up k5
 have kk₅ := kk₄.tr k5
 refine wpAny_execs_cons ?_
 refine Asg3 ?_
 refine wpAny_Constant_int ?_
 refine asgN (st13 C F fun h' F => ?_)
 refine asgN (st14 C F fun h' F => ?_)
 refine asgN (st15 C F fun h' F => ?_)
 dsimp only
 refine wpAny_execs_cons ?_
 refine wpAny_Assign_Name ?_
 refine lstE (sp0 ?_)
 refine newOwn F fun na h' F hna => ?_
 refine st16 C F fun h' F => ?_
 dsimp only
 refine seqP (fun s₂ => ∃ h' t' g₆ nv nj c1 c2 c3 u17 u18 u19, s₂ = { s with heap := h', toks := t' } ∧ Le g₅ g₆ ∧ Zip (IsT g₆) nv (R.take (R.length - 1)) ∧ nv.length ≤ 200 ∧
  St s.heap [dx] g g₆ env.locals nBlk [some (.ref x), some (.int (TA.length : Int) tla), some (.int (TB.length : Int) tlb), some (.ref qa), some (.ref ma), u5, u6, u7, u8, u9, u10, u11, u12, some (.int ((pvR R R.length).1 : Int) c1), some (.int ((pvR R R.length).2.1 : Int) c2), some (.int ((pvR R R.length).2.2 : Int) c3), some (.ref na), u17, u18, u19] [(na, lstObj nv nj), (dx, od)] h') ?_ ?_
 · refine For_ ?_
   refine ld4 C F ?_
   refine each_listT (fun i g' vs' mu' => ∃ nv nj c1 c2 c3 u17 u18 u19, Zip (IsT g') nv (R.take (i - 1)) ∧ vs' = [some (.ref x), some (.int (TA.length : Int) tla), some (.int (TB.length : Int) tlb), some (.ref qa), some (.ref ma), u5, u6, u7, u8, u9, u10, u11, u12, some (.int ((pvR R i).1 : Int) c1), some (.int ((pvR R i).2.1 : Int) c2), some (.int ((pvR R i).2.2 : Int) c3), some (.ref na), u17, u18, u19] ∧ mu' = [(na, lstObj nv nj), (dx, od)]) hA'.handled F ema ⟨[], 0, _, _, _, none, none, none, by simpa using Zip.nil, rfl, rfl⟩ ?_ ?_
   · rintro i v g' vs' mu' I oI h tk hv kg' ⟨nv, nj, c1, c2, c3, u17, u18, u19, hnv, rfl, rfl⟩ F
     obtain ⟨r, hr, m, d3, r1, r2, r3, rfl, hm⟩ := (hout.up (k5.tr kg')).get hv
     have hil : i < R.length := (List.getElem?_eq_some_iff.mp hr).1
     have X' := X₅.up kg'
     have hnl : nv.length ≤ 100 := by have := hnv.1; rw [List.length_take] at this; omega
     refine asM hA'.handled X' F hm fun h' F => ?_
     refine assignInOrder_cons (assign_Name (st17 C F fun h' F => ?_))
     refine assignInOrder_cons (assign_Name (st18 C F fun h' F => ?_))
     refine assignInOrder_cons (assign_Name (st19 C F fun h' F => assignInOrder_nil ?_))
     dsimp only
     have enext : pvR R (i + 1) = r := by show R.getD i (0, 0, 0) = r; rw [List.getD_eq_getElem?_getD, hr]; rfl
     rw [enext]
     generalize hp : pvR R i = p at F ⊢
     refine wpAny_execs_cons ?_
     refine wpAny_If ?_
     refine wpAny_mono (Q := fun b s₂ => b = decide (p.1 + p.2.2 = r.1 ∧ p.2.1 + p.2.2 = r.2.1) ∧ ∃ t', s₂ = { s with heap := h', toks := t' }) (E := no) ?_ (fun b s₂ z => ?_) fun _ _ z => z
     · refine isTrue_and (wpAny_isTrue_Compare1 ?_)
       refine wpAny_BinOp ?_
       refine ld13 C F ?_
       refine ld15 C F ?_
       refine addZ (c := p.1 + p.2.2) (by omega) ?_
       refine ld17 C F (P.eq_int (wpAny_truthy_bool ?_))
       by_cases a1 : p.1 + p.2.2 = r.1
       rotate_left
       · rw [if_neg (by simp only [beq_iff_eq]; omega)]
         exact ⟨by simp [a1], _, rfl⟩
       rw [if_pos (by simp only [beq_iff_eq]; omega)]
       refine isTrue_and (wpAny_isTrue_Compare1 ?_)
       refine wpAny_BinOp ?_
       refine ld14 C F ?_
       refine ld15 C F ?_
       refine addZ (c := p.2.1 + p.2.2) (by omega) ?_
       refine ld18 C F (P.eq_int (wpAny_truthy_bool ?_))
       by_cases a2 : p.2.1 + p.2.2 = r.2.1
       rotate_left
       · rw [if_neg (by simp only [beq_iff_eq]; omega)]
         exact ⟨by simp [a2], _, rfl⟩
       rw [if_pos (by simp only [beq_iff_eq]; omega)]
       exact isTrue_and_nil ⟨by simp [a1, a2], _, rfl⟩
     obtain ⟨rfl, t', rfl⟩ := z
     have hstep : (i = 0 ∧ p = (0, 0, 0)) ∨ (∃ i', i = i' + 1 ∧ R[i']? = some p ∧ Bef p r ∧ 0 < p.2.2) := by
      cases i with
      | zero => exact .inl ⟨rfl, hp.symm⟩
      | succ i' =>
       have hi' : i' < R.length := by omega
       have ep : R[i']? = some p := by
        rw [← hp]; show R[i']? = some (R.getD i' (0, 0, 0))
        rw [List.getD_eq_getElem?_getD, List.getElem?_eq_getElem hi']; rfl
       have hpw := List.pairwise_iff_getElem.mp hbox.sep i' (i' + 1) hi' hil (by omega)
       have e1 : R[i'] = p := by rw [List.getElem?_eq_getElem hi'] at ep; exact Option.some.inj ep
       have e2 : R[i' + 1] = r := by rw [List.getElem?_eq_getElem hil] at hr; exact Option.some.inj hr
       rw [e1, e2] at hpw
       exact .inr ⟨i', rfl, ep, hpw, hpos p (List.mem_of_getElem? ep)⟩
     by_cases hmrg : p.1 + p.2.2 = r.1 ∧ p.2.1 + p.2.2 = r.2.1
     · rw [if_pos (by simpa using hmrg)]
       rcases hstep with ⟨hi0, rfl⟩ | ⟨i', hi', ep, hb, hpk⟩
       · dsimp only at hmrg
         refine wpAny_execs_cons ?_
         refine wpAny_AugAssign_Name (ldn15 C F (ld19 C F ?_))
         refine iaddZ (c := r.2.2) (by simp) ?_
         refine st15 C F fun h' F => ?_
         refine wpAny_execs_nil (wpAny_execs_nil ?_)
         obtain ⟨ra, rb, rc⟩ := r
         dsimp only at hmrg F
         obtain rfl : ra = 0 := by omega
         obtain rfl : rb = 0 := by omega
         exact turn_next Le.rfl' F ⟨nv, nj, c1, c2, _, _, _, _, by rw [hi0] at hnv ⊢; exact hnv, rfl, rfl⟩
       · unfold Bef at hb; omega
     · rw [if_neg (by simpa using hmrg)]
       refine seqP (fun s₂ => ∃ h' t' g₆ nv' nj', s₂ = { s with heap := h', toks := t' } ∧ Le g' g₆ ∧ Zip (IsT g₆) nv' (R.take (i + 1 - 1)) ∧
        St s.heap [dx] g g₆ env.locals nBlk [some (.ref x), some (.int (TA.length : Int) tla), some (.int (TB.length : Int) tlb), some (.ref qa), some (.ref ma), u5, u6, u7, u8, u9, u10, u11, u12, some (.int ((p).1 : Int) c1), some (.int ((p).2.1 : Int) c2), some (.int ((p).2.2 : Int) c3), some (.ref na), some (.int (r.1 : Int) r1), some (.int (r.2.1 : Int) r2), some (.int (r.2.2 : Int) r3)] [(I, oI), (na, lstObj nv' nj'), (dx, od)] h') ?_ ?_
       · refine wpAny_If (isTrue_plain (ld15 C F (P.truthy_int ?_)))
         rcases hstep with ⟨hi0, rfl⟩ | ⟨i', hi', ep, hb, hpk⟩
         · rw [if_neg (by simp)]
           exact wpAny_execs_nil ⟨rfl, _, _, g', nv, nj, rfl, Le.rfl', by rw [hi0] at hnv ⊢; exact hnv, F⟩
         · rw [if_pos (by simp; omega)]
           refine wpAny_execs_cons ?_
           refine wpAny_Expr ?_ C.inter
           refine appS (h₀ := s.heap) (xt := [dx]) (g₀ := g) (L := env.locals) (N := nBlk) (a := na) (xs := nv) (j := nj) (pre := [(I, oI)]) (post := [(dx, od)]) (by omega) ?_
           refine ld16 C F ⟨rfl, ⟨_, (F.mt (na, lstObj nv nj) (by simp)).1, rfl, rfl⟩, ?_⟩
           refine tupE ?_
           refine sp1 (ld13 C F ?_)
           refine sp1 (ld14 C F ?_)
           refine sp1 (ld15 C F ?_)
           refine sp0 ?_
           refine newTup F fun T2 g₆ h' k6 eT2 F => ?_
           refine ⟨g₆, _, F, fun h' F => ?_⟩
           refine wpAny_execs_nil ⟨rfl, _, _, g₆, _, _, rfl, k6, ?_, F⟩
           have := (hnv.mono fun v a h => IsT.up k6 h).snoc (a := p) ⟨T2, c1, c2, c3, rfl, eT2⟩
           rw [show i - 1 = i' by omega] at this
           rw [show i + 1 - 1 = i' + 1 by omega, List.take_add_one, ep]
           exact this
       rintro s₂ ⟨h', t', g₆, nv', nj', rfl, k6, hnv', F⟩
       refine wpAny_execs_cons ?_
       refine Assign_Tuple_swapped (names := ["i1", "j1", "k1"]) ?_ rfl (swp3 C 13 14 15 rfl rfl rfl (by decide) (by decide) (by decide))
       refine tupE ?_
       refine sp1 (ld17 C F ?_)
       refine sp1 (ld18 C F ?_)
       refine sp1 (ld19 C F ?_)
       refine sp0 ?_
       refine newTup F fun T0 g₉ h' k9 eT0 F => ?_
       refine unp hA'.handled F eT0 rfl fun h' F => ?_
       dsimp only
       refine assignInOrder_cons (wpAny_bindName (st15 C F fun h' F => ?_))
       refine assignInOrder_cons (wpAny_bindName (st14 C F fun h' F => ?_))
       refine assignInOrder_cons (wpAny_bindName (st13 C F fun h' F => assignInOrder_nil ?_))
       dsimp only
       refine wpAny_execs_nil (wpAny_execs_nil ?_)
       exact turn_next (k6.tr k9) F ⟨nv', nj', _, _, _, _, _, _, hnv'.mono fun v a h => IsT.up k9 h, rfl, rfl⟩
   · rintro g' vs' mu' h tk kg' ⟨nv, nj, c1, c2, c3, u17, u18, u19, hnv, rfl, rfl⟩ F
     have hol : out.length = R.length := hout.len
     rw [hol] at hnv F
     exact ⟨rfl, _, _, g', nv, nj, c1, c2, c3, u17, u18, u19, rfl, kg', hnv, by have := hnv.1; rw [List.length_take] at this; omega, F⟩
 rintro s₂ ⟨h', t', g₆, nv, nj, c1, c2, c3, u17, u18, u19, rfl, k6, hnv, hnl, F⟩
 have X₆ := X₅.up k6
 refine seqP (fun s₂ => ∃ h' t' g₇ nv' nj', s₂ = { s with heap := h', toks := t' } ∧ Le g₆ g₇ ∧ Zip (IsT g₇) nv' R ∧
  St s.heap [dx] g g₇ env.locals nBlk [some (.ref x), some (.int (TA.length : Int) tla), some (.int (TB.length : Int) tlb), some (.ref qa), some (.ref ma), u5, u6, u7, u8, u9, u10, u11, u12, some (.int ((pvR R R.length).1 : Int) c1), some (.int ((pvR R R.length).2.1 : Int) c2), some (.int ((pvR R R.length).2.2 : Int) c3), some (.ref na), u17, u18, u19] [(na, lstObj nv' nj'), (dx, od)] h') ?_ ?_
 · refine wpAny_If (isTrue_plain (ld15 C F (P.truthy_int ?_)))
   rcases Nat.eq_zero_or_pos R.length with q | q
   · have : R = [] := List.length_eq_zero_iff.mp q
     subst this
     rw [if_neg (by simp [pvR])]
     exact wpAny_execs_nil ⟨rfl, _, _, g₆, nv, nj, rfl, Le.rfl', by simpa using hnv, F⟩
   · have ep : R[R.length - 1]? = some (pvR R R.length) := by
      obtain ⟨n', hn'⟩ : ∃ n', R.length = n' + 1 := ⟨R.length - 1, by omega⟩
      rw [hn']
      show R[n' + 1 - 1]? = some (R.getD n' (0, 0, 0))
      rw [show n' + 1 - 1 = n' by omega, List.getD_eq_getElem?_getD, List.getElem?_eq_getElem (by omega)]; rfl
     have hpk := hpos _ (List.mem_of_getElem? ep)
     rw [if_pos (by simp; omega)]
     refine wpAny_execs_cons ?_
     refine wpAny_Expr ?_ C.inter
     refine appS (h₀ := s.heap) (xt := [dx]) (g₀ := g) (L := env.locals) (N := nBlk) (a := na) (xs := nv) (j := nj) (pre := []) (post := [(dx, od)]) (by omega) ?_
     refine ld16 C F ⟨rfl, ⟨_, (F.mt (na, lstObj nv nj) (by simp)).1, rfl, rfl⟩, ?_⟩
     refine tupE ?_
     refine sp1 (ld13 C F ?_)
     refine sp1 (ld14 C F ?_)
     refine sp1 (ld15 C F ?_)
     refine sp0 ?_
     refine newTup F fun T2 g₇ h' k7 eT2 F => ?_
     refine ⟨g₇, _, F, fun h' F => ?_⟩
     refine wpAny_execs_nil ⟨rfl, _, _, g₇, _, _, rfl, k7, ?_, F⟩
     have := (hnv.mono fun v a h => IsT.up k7 h).snoc (a := pvR R R.length) ⟨T2, c1, c2, c3, rfl, eT2⟩
     have e2 : R.take (R.length - 1) ++ [pvR R R.length] = R := by
      have := List.take_add_one (l := R) (i := R.length - 1)
      rw [ep, show R.length - 1 + 1 = R.length by omega, List.take_length] at this
      exact this.symm
     rw [e2] at this
     exact this
 rintro s₂ ⟨h', t', g₇, nv', nj', rfl, k7, hnv', F⟩
 have X₇ := X₆.up k7
 refine wpAny_execs_cons ?_
 refine wpAny_Expr ?_ C.inter
 refine appS (h₀ := s.heap) (xt := [dx]) (g₀ := g) (L := env.locals) (N := nBlk) (a := na) (xs := nv') (j := nj') (pre := []) (post := [(dx, od)]) (by rw [hnv'.1]; omega) ?_
 refine ld16 C F ⟨rfl, ⟨_, (F.mt (na, lstObj nv' nj') (by simp)).1, rfl, rfl⟩, ?_⟩
 refine tupE ?_
 refine sp1 (ld1 C F ?_)
 refine sp1 (ld2 C F ?_)
 refine sp1 (wpAny_Constant_int ?_)
 refine sp0 ?_
 refine newTup F fun T2 g₈ h' k8 eT2 F => ?_
 refine ⟨g₈, _, F, fun h' F => ?_⟩
 have hz := (hnv'.mono fun v a h => IsT.up k8 h).snoc (a := (TA.length, TB.length, 0)) ⟨T2, _, _, _, rfl, eT2⟩
 obtain ⟨g₉, k9, ena, F⟩ := F.freeze (pre := []) (post := [(dx, od)]) rfl hna
 dsimp only [List.nil_append] at F
 have X₉ := (X₇.up k8).up k9
 have hz := hz.mono fun v a h => IsT.up k9 h
 refine wpAny_execs_cons ?_
 refine Asg1 ?_
 refine C1 (N_list C X₉.toStat F.keep (.tail _ (.head _)) ?_)
 refine C2 (N_map C X₉.toStat F.keep (.tail _ (.tail _ (.head _))) ?_)
 refine getE rfl ?_
 refine N_Match C X₉.toStat F.keep (.tail _ (.tail _ (.tail _ (.head _)))) ?_
 refine make_attr F X₉ fun bd g₁₀ h' t' k10 ebd F => ?_
 refine ld16 C F ⟨trivial, ?_⟩
 refine newMap F (k10 _ _ ena) fun M T It g₁₁ h' k11 eM eT hit hlow F => ⟨trivial, ?_⟩
 have X₁₁ := (X₉.up k10).up k11
 have hzl : (nv' ++ [Value.ref T2]).length = R.length + 1 := by rw [hz.1]; simp
 refine list_map hA'.handled (fun i g' ys => IsMs g' ys ((R ++ [(TA.length, TB.length, 0)]).take i)) eM eT (k11 _ _ (k10 _ _ ena)) (by omega) F hit (show IsMs g₁₁ [] (List.take 0 _) from trivial) (fun S => ?_) fun D g₁₂ g₁₃ ys h' tk c k12 k13 hys eD F => ?_
 · intro i v g' ys h tk oI c hv kg' hJ F
   obtain ⟨p, hp, T3, w1, w2, w3, rfl, eT3⟩ := hz.get hv
   refine bd_call (F.keep _ _ (kg' _ _ (k11 _ _ ebd))) fun R' hR' => ?_
   refine make_gives (n := n₀) (X₁₁.up kg') F.keep (hA'.in1.in1.in1.le (by omega)) (kg' _ _ (k11 _ _ (k10 _ _ eT3))) rfl R' fun g₂ h₂ t₂ v₂ o₂ p₂ => ?_
   obtain ⟨m, d3, rfl, hm⟩ := p₂
   refine hR' _ _ ⟨g₂, h₂, t₂, rfl, o₂.mono, F.call o₂, ?_⟩
   show IsMs g₂ _ (List.take (i + 1) _)
   rw [List.take_add_one, hp]
   exact (IsMs.up o₂.mono hJ).snoc ⟨m, d3, w1, w2, w3, rfl, hm⟩
 have X₁₃ := X₁₁.up k12
 have hx' := (((kk₅.tr k6).tr (k7.tr k8)).tr (k9.tr (k10.tr (k11.tr k12)))) _ _ hx
 refine ld0 C F ?_
 refine sA (pre := []) 4 rfl X₁₃.toSm hx' F hat (by simp) fun h' o k hat F => ?_
 dsimp only [List.nil_append] at F
 refine wpAny_execs_cons ?_
 refine wpAny_Return_some ?_
 refine getE rfl ?_
 refine ld0 C F ?_
 refine gA (pre := []) 4 rfl X₁₃.toSm hx' F hat rfl rfl ?_
 have hys' := IsMs.up k13 hys
 rw [hzl, List.take_of_length_le (by simp)] at hys'
 exact ends F ⟨D, ys, c, rfl, eD, hys'⟩
end
abbrev Op := Str × Nat × Nat × Nat × Nat
def dOp (c : Op) : PyData := .tuple [.str c.1, .int c.2.1, .int c.2.2.1, .int c.2.2.2.1, .int c.2.2.2.2]
def tagOf (p q : Bool) : Str := if p then (if q then "replace" else "delete") else (if q then "insert" else "")
def opStep (i j : Nat) (r : Run) : List Op :=
 (if i < r.1 ∨ j < r.2.1 then ([(tagOf (decide (i < r.1)) (decide (j < r.2.1)), i, r.1, j, r.2.1)] : List Op) else []) ++ (if 0 < r.2.2 then ([(("equal" : Str), r.1, r.1 + r.2.2, r.2.1, r.2.1 + r.2.2)] : List Op) else [])
def opsFrom : Nat → Nat → List Run → List Op
 | _, _, [] => []
 | i, j, r :: rs => opStep i j r ++ opsFrom (r.1 + r.2.2) (r.2.1 + r.2.2) rs
def endOf (i j : Nat) : List Run → Nat × Nat
 | [] => (i, j)
 | r :: rs => endOf (r.1 + r.2.2) (r.2.1 + r.2.2) rs
theorem opsFrom_snoc : ∀ (rs : List Run) (i j : Nat) (r : Run), opsFrom i j (rs ++ [r]) = opsFrom i j rs ++ opStep (endOf i j rs).1 (endOf i j rs).2 r
 | [], i, j, r => by simp [opsFrom, endOf]
 | x :: rs, i, j, r => by simp [opsFrom, endOf, opsFrom_snoc rs]
theorem endOf_snoc : ∀ (rs : List Run) (i j : Nat) (r : Run), endOf i j (rs ++ [r]) = (r.1 + r.2.2, r.2.1 + r.2.2)
 | [], i, j, r => rfl
 | x :: rs, i, j, r => by simp [endOf, endOf_snoc rs]
theorem opStep_len (i j : Nat) (r : Run) : (opStep i j r).length ≤ 2 := by
 unfold opStep
 split <;> split <;> simp
theorem opsFrom_len : ∀ (rs : List Run) (i j : Nat), (opsFrom i j rs).length ≤ 2 * rs.length
 | [], _, _ => Nat.zero_le _
 | r :: rs, i, j => by
  have := opStep_len i j r
  have := opsFrom_len rs (r.1 + r.2.2) (r.2.1 + r.2.2)
  simp only [opsFrom, List.length_append, List.length_cons]; omega
section
variable {prog : Program} {w : World} {A : Around} {E : Value → Shared → Prop} {s : Shared} {env : Env}
variable {h₀ g₀ g : Heap} {xt : List Addr} {L : Addr} {N : List Str} {vs : List (Option Value)} {mu : List (Addr × Obj)} {I : Addr} {oI : Obj}
theorem call_but {f : Value} {args : List Value} {P : Heap → Heap → Value → Prop} {Q : Value → Shared → Prop} (F : St h₀ xt g₀ g L N vs ((I, oI) :: mu) s.heap) (G : Gives prog w A (.call f ⟨args, []⟩) s [I] g P)
 (h : ∀ g' h' t' v, Le g g' → St h₀ xt g₀ g' L N vs mu h' → P g' h' v → Q v { s with heap := h', toks := t' }) : wpAny (model prog w) A (call f args []) Q E s :=
 wpAny_call (G _ fun g' h' t' v o p => h g' h' t' v o.mono (F.callBut o) p)
end
abbrev nOps : List Str := ["self", "i", "j", "answer", "ai", "bj", "size", "tag"]
section
variable {w : World} {A : Around} {s : Shared} {g : Heap} {n₀ : Nat} {x dx la lb db dj dp : Addr} {TA TB : List (Str × Tok)}
set_option maxHeartbeats 4000000 in
theorem codes_gives (X : Sm2 g) (kg : Le g s.heap) (hA : Ok A (n₀ + 9)) (Rd : Ready w g s.heap x dx la lb db dj dp TA TB .none .none) (hdx : g.get? dx = none) {R : List Run}
 (hbox : Box (TA.map (·.1)) (TB.map (·.1)) 0 TA.length 0 TB.length R) (hR : R.length < 60) :
 Gives pw w A (.call (.ref 210) ⟨[.ref x], []⟩) s [dx] g (fun g' _ v => Dt g' v (.list ((opsFrom 0 0 (R ++ [(TA.length, TB.length, 0)])).map dOp))) := by
 obtain ⟨hx, me, ⟨ka, ea⟩, ⟨kb, eb⟩, ⟨es, en, edb, hB⟩, dbs, ⟨led, ej⟩, nb, szA, szB⟩ := Rd
 obtain ⟨od, hod, hat⟩ : ∃ od, s.heap.get? dx = some od ∧ AtO od [.none, .ref la, .ref lb, .bool true, .none, .none, .none, .ref db, .ref dj, .ref dp] := by
  obtain ⟨m, a, b⟩ := me.at_
  obtain ⟨o, e, a'⟩ := At.of a
  exact ⟨o, e, m, a', b⟩
 refine Gives.enter [.ref x] ["self"] ["i", "j", "answer", "ai", "bj", "size", "tag"] [] [(dx, od)] (kg _ _ (X.fnAt 7 rfl)) rfl (X.lim.keeps kg) ((X.cdAt 7 rfl).keeps kg) hA rfl (BindsTo.of_eq rfl) rfl (by decide +kernel) kg (fun p hp => by rw [List.mem_singleton.mp hp]; exact ⟨hod, hdx, .head _⟩) (by simp) fun h₁ env A' t' hA' C F => ?_
 dsimp only [List.map_cons, List.map_nil, List.append_nil, List.cons_append, List.nil_append] at F C
 refine doc_ C fun t' => ?_
 refine wpAny_execs_cons ?_
 refine wpAny_If (wpAny_isTrue_Compare1 ?_)
 refine getE rfl ?_
 refine ld0 C F ?_
 refine gA (pre := []) 5 rfl X.toSm hx F hat rfl rfl ?_
 refine wpAny_Constant_none ?_
 refine isNot_none (wpAny_truthy_bool ?_)
 refine wpAny_execs_nil ?_
 refine wpAny_execs_cons ?_
 refine Asg2 ?_
 refine wpAny_Constant_int ?_
 refine asgN (st1 C F fun h' F => ?_)
 refine asgN (st2 C F fun h' F => ?_)
 dsimp only
 refine wpAny_execs_cons ?_
 refine Asg2 ?_
 refine lstE (sp0 ?_)
 refine newOwn F fun an h' F han => ?_
 refine asgA ?_
 refine ld0 C F ?_
 refine sA (pre := [(an, lstObj [] 0)]) (post := []) 5 rfl X.toSm hx F hat (by simp) fun h' od' k hat F => ?_
 dsimp only [List.cons_append, List.nil_append] at F
 refine asgN (st3 C F fun h' F => ?_)
 dsimp only
 have hx₀ := hx
 refine seqP (fun s₂ => ∃ h' t' g₂ av aj u1 u2 u4 u5 u6 u7, s₂ = { s with heap := h', toks := t' } ∧ Le g g₂ ∧ Dts g₂ av ((opsFrom 0 0 (R ++ [(TA.length, TB.length, 0)])).map dOp) ∧
  St s.heap [dx] g g₂ env.locals nOps [some (.ref x), u1, u2, some (.ref an), u4, u5, u6, u7] [(an, lstObj av aj)] h') ?_ ?_
 · refine For_ ?_
   refine ME0 rfl rfl ?_
   refine ld0 C F ?_
   intro pl
   have hy : typeLookup (.type "object") "get_matching_blocks" = pure none := by rw [typeLookup_type, builtinLookup_eq_fast]; kernel_rfl
   have me' := Me.of (pre := [(an, lstObj [] 0)]) (post := []) hx F hat
   refine methA (f := 203) (fd := fdBlocks) X.toSm F.keep me' (by decide) (by decide +kernel) (X.fnAt 6 rfl) hy ?_
   refine ⟨⟨_, F.keep _ _ (X.fnAt 6 rfl)⟩, ?_⟩
   have F' := F.swap
   refine call_but F' (blocks_gives (n₀ := n₀) X F.keep hA' ⟨hx, me', ⟨ka, ea⟩, ⟨kb, eb⟩, ⟨es, en, edb, hB⟩, dbs, ⟨led, ej⟩, nb, szA, szB⟩ hdx hbox hR) fun g₂ h' t' v k2 F e => ?_
   obtain ⟨D, ys, kD, rfl, eD, hys⟩ := e
   have X₂ := X.up k2
   refine each_listT (fun i g' vs' mu' => ∃ av aj u1 u2 u4 u5 u6 u7, Dts g' av ((opsFrom 0 0 ((R ++ [(TA.length, TB.length, 0)]).take i)).map dOp) ∧
    vs' = [some (.ref x), some (.int ((endOf 0 0 ((R ++ [(TA.length, TB.length, 0)]).take i)).1 : Int) u1), some (.int ((endOf 0 0 ((R ++ [(TA.length, TB.length, 0)]).take i)).2 : Int) u2), some (.ref an), u4, u5, u6, u7] ∧ mu' = [(an, lstObj av aj)]) hA'.handled F eD ⟨[], 0, _, _, none, none, none, none, .nil, rfl, rfl⟩ ?_ ?_
   · rintro i v g' vs' mu' I oI h tk hv kg' ⟨av, aj, u1, u2, u4, u5, u6, u7, hav, rfl, rfl⟩ F
     obtain ⟨r, hr, m, d3, r1, r2, r3, rfl, hm⟩ := (hys.up kg').get hv
     have X' := X₂.up kg'
     have hilt : i < (R ++ [(TA.length, TB.length, 0)]).length := (List.getElem?_eq_some_iff.mp hr).1
     have avl : av.length ≤ 200 := by
      have e1 := hav.len
      have e2 := opsFrom_len ((R ++ [(TA.length, TB.length, 0)]).take i) 0 0
      rw [List.length_map] at e1
      rw [List.length_take] at e2
      simp at hilt; omega
     have etk : (R ++ [(TA.length, TB.length, 0)]).take (i + 1) = (R ++ [(TA.length, TB.length, 0)]).take i ++ [r] := by rw [List.take_add_one, hr]; rfl
     rw [etk, opsFrom_snoc, endOf_snoc]
     generalize endOf 0 0 ((R ++ [(TA.length, TB.length, 0)]).take i) = ij at F ⊢
     generalize opsFrom 0 0 ((R ++ [(TA.length, TB.length, 0)]).take i) = ops at hav ⊢
     refine asM hA'.handled X' F hm fun h' F => ?_
     refine assignInOrder_cons (assign_Name (st4 C F fun h' F => ?_))
     refine assignInOrder_cons (assign_Name (st5 C F fun h' F => ?_))
     refine assignInOrder_cons (assign_Name (st6 C F fun h' F => assignInOrder_nil ?_))
     dsimp only
     refine wpAny_execs_cons ?_
     refine wpAny_Assign_Name ?_
     refine Constant_str ?_
     refine st7 C F fun h' F => ?_
     dsimp only
     refine seqP (fun s₂ => ∃ h' t' tt, s₂ = { s with heap := h', toks := t' } ∧ St s.heap [dx] g g' env.locals nOps [some (.ref x), some (.int (ij.1 : Int) u1), some (.int (ij.2 : Int) u2), some (.ref an), some (.int (r.1 : Int) r1), some (.int (r.2.1 : Int) r2), some (.int (r.2.2 : Int) r3), some (.str (tagOf (decide (ij.1 < r.1)) (decide (ij.2 < r.2.1))) tt)] [(I, oI), (an, lstObj av aj)] h') ?_ ?_
     · by_cases c1 : ij.1 < r.1
       · by_cases c2 : ij.2 < r.2.1
         · rw [show tagOf (decide (ij.1 < r.1)) (decide (ij.2 < r.2.1)) = "replace" by simp [tagOf, c1, c2]]
           refine wpAny_If ?_
           refine isTrue_and (wpAny_isTrue_Compare1 (ld1 C F (ld4 C F (P.lt_int (wpAny_truthy_bool ?_)))))
           rw [if_pos (by simpa using c1)]
           refine isTrue_and (wpAny_isTrue_Compare1 (ld2 C F (ld5 C F (P.lt_int (wpAny_truthy_bool ?_)))))
           rw [if_pos (by simpa using c2)]
           refine isTrue_and_nil ?_
           rw [if_pos rfl]
           refine wpAny_execs_cons ?_
           refine wpAny_Assign_Name ?_
           refine Constant_str ?_
           refine st7 C F fun h' F => ?_
           exact wpAny_execs_nil ⟨rfl, _, _, _, rfl, F⟩
         · rw [show tagOf (decide (ij.1 < r.1)) (decide (ij.2 < r.2.1)) = "delete" by simp [tagOf, c1, c2]]
           refine wpAny_If ?_
           refine isTrue_and (wpAny_isTrue_Compare1 (ld1 C F (ld4 C F (P.lt_int (wpAny_truthy_bool ?_)))))
           rw [if_pos (by simpa using c1)]
           refine isTrue_and (wpAny_isTrue_Compare1 (ld2 C F (ld5 C F (P.lt_int (wpAny_truthy_bool ?_)))))
           rw [if_neg (by simpa using c2)]
           rw [if_neg (by decide)]
           refine wpAny_execs_cons ?_
           refine wpAny_If (wpAny_isTrue_Compare1 (ld1 C F (ld4 C F (P.lt_int (wpAny_truthy_bool ?_)))))
           rw [if_pos (by simpa using c1)]
           refine wpAny_execs_cons ?_
           refine wpAny_Assign_Name ?_
           refine Constant_str ?_
           refine st7 C F fun h' F => ?_
           exact wpAny_execs_nil (wpAny_execs_nil ⟨rfl, _, _, _, rfl, F⟩)
       · refine wpAny_If ?_
         refine isTrue_and (wpAny_isTrue_Compare1 (ld1 C F (ld4 C F (P.lt_int (wpAny_truthy_bool ?_)))))
         rw [if_neg (by simpa using c1)]
         rw [if_neg (by decide)]
         refine wpAny_execs_cons ?_
         refine wpAny_If (wpAny_isTrue_Compare1 (ld1 C F (ld4 C F (P.lt_int (wpAny_truthy_bool ?_)))))
         rw [if_neg (by simpa using c1)]
         refine wpAny_execs_cons ?_
         refine wpAny_If (wpAny_isTrue_Compare1 (ld2 C F (ld5 C F (P.lt_int (wpAny_truthy_bool ?_)))))
         by_cases c2 : ij.2 < r.2.1
         · rw [show tagOf (decide (ij.1 < r.1)) (decide (ij.2 < r.2.1)) = "insert" by simp [tagOf, c1, c2]]
           rw [if_pos (by simpa using c2)]
           refine wpAny_execs_cons ?_
           refine wpAny_Assign_Name ?_
           refine Constant_str ?_
           refine st7 C F fun h' F => ?_
           exact wpAny_execs_nil (wpAny_execs_nil (wpAny_execs_nil ⟨rfl, _, _, _, rfl, F⟩))
         · rw [show tagOf (decide (ij.1 < r.1)) (decide (ij.2 < r.2.1)) = "" by simp [tagOf, c1, c2]]
           rw [if_neg (by simpa using c2)]
           exact wpAny_execs_nil (wpAny_execs_nil (wpAny_execs_nil ⟨rfl, _, _, _, rfl, F⟩))
     rintro s₂ ⟨h', t', tt, rfl, F⟩
     refine seqP (fun s₂ => ∃ h' t' g₃ av' aj', s₂ = { s with heap := h', toks := t' } ∧ Le g' g₃ ∧ Dts g₃ av' ((ops ++ (if ij.1 < r.1 ∨ ij.2 < r.2.1 then ([(tagOf (decide (ij.1 < r.1)) (decide (ij.2 < r.2.1)), ij.1, r.1, ij.2, r.2.1)] : List Op) else [])).map dOp) ∧ av'.length ≤ av.length + 1 ∧
      St s.heap [dx] g g₃ env.locals nOps [some (.ref x), some (.int (ij.1 : Int) u1), some (.int (ij.2 : Int) u2), some (.ref an), some (.int (r.1 : Int) r1), some (.int (r.2.1 : Int) r2), some (.int (r.2.2 : Int) r3), some (.str (tagOf (decide (ij.1 < r.1)) (decide (ij.2 < r.2.1))) tt)] [(I, oI), (an, lstObj av' aj')] h') ?_ ?_
     · have tl : (tagOf (decide (ij.1 < r.1)) (decide (ij.2 < r.2.1))).length ≤ 7 := by unfold tagOf; split <;> split <;> decide
       refine wpAny_If (isTrue_plain (ld7 C F (P.truthy_str (by omega) ?_)))
       by_cases c : ij.1 < r.1 ∨ ij.2 < r.2.1
       · have tn : (((tagOf (decide (ij.1 < r.1)) (decide (ij.2 < r.2.1))).length : Int) != 0) = true := by
          unfold tagOf
          by_cases c1 : ij.1 < r.1 <;> by_cases c2 : ij.2 < r.2.1 <;> simp only [c1, c2, decide_true, decide_false, if_true, Bool.false_eq_true, if_false] <;> first | decide | omega
         rw [if_pos tn, if_pos c]
         refine wpAny_execs_cons ?_
         refine wpAny_Expr ?_ C.inter
         refine appS (h₀ := s.heap) (xt := [dx]) (g₀ := g) (L := env.locals) (N := nOps) (a := an) (xs := av) (j := aj) (pre := [(I, oI)]) (post := []) (by omega) ?_
         refine ld3 C F ⟨rfl, ⟨_, (F.mt (an, lstObj av aj) (by simp)).1, rfl, rfl⟩, ?_⟩
         refine tupE ?_
         refine sp1 (ld7 C F ?_)
         refine sp1 (ld1 C F ?_)
         refine sp1 (ld4 C F ?_)
         refine sp1 (ld2 C F ?_)
         refine sp1 (ld5 C F ?_)
         refine sp0 ?_
         refine newTup F fun T2 g₅ h' k5 eT2 F => ?_
         refine ⟨g₅, _, F, fun h' F => ?_⟩
         refine wpAny_execs_nil ⟨rfl, _, _, g₅, _, _, rfl, k5, ?_, by simp, F⟩
         rw [List.map_append]
         exact (hav.up k5).snoc (.tuple eT2 (.cons (.str _ _) (.cons (.int _ _) (.cons (.int _ _) (.cons (.int _ _) (.cons (.int _ _) .nil))))))
       · have tn : (((tagOf (decide (ij.1 < r.1)) (decide (ij.2 < r.2.1))).length : Int) != 0) = false := by
          have c1 : ¬ ij.1 < r.1 := fun q => c (.inl q)
          have c2 : ¬ ij.2 < r.2.1 := fun q => c (.inr q)
          simp only [tagOf, c1, c2, decide_false, Bool.false_eq_true, if_false]; decide
         rw [if_neg (by rw [tn]; decide), if_neg c]
         refine wpAny_execs_nil ⟨rfl, _, _, g', av, aj, rfl, Le.rfl', ?_, by omega, F⟩
         rw [List.append_nil]; exact hav
     rintro s₂ ⟨h', t', g₃, av', aj', rfl, k3, hav', avl', F⟩
     refine wpAny_execs_cons ?_
     refine Assign_Tuple_swapped (names := ["i", "j"]) ?_ rfl (swp2 C 1 2 rfl rfl (by decide))
     refine tupE ?_
     refine sp1 ?_
     refine wpAny_BinOp ?_
     refine ld4 C F ?_
     refine ld6 C F ?_
     refine addZ (c := r.1 + r.2.2) (by omega) ?_
     refine sp1 ?_
     refine wpAny_BinOp ?_
     refine ld5 C F ?_
     refine ld6 C F ?_
     refine addZ (c := r.2.1 + r.2.2) (by omega) ?_
     refine sp0 ?_
     refine newTup F fun T0 g₄ h' k4 eT0 F => ?_
     refine unp hA'.handled F eT0 rfl fun h' F => ?_
     dsimp only
     refine assignInOrder_cons (wpAny_bindName (st2 C F fun h' F => ?_))
     refine assignInOrder_cons (wpAny_bindName (st1 C F fun h' F => assignInOrder_nil ?_))
     dsimp only
     have hav4 := hav'.up k4
     refine wpAny_execs_cons ?_
     refine wpAny_If (isTrue_plain (ld6 C F (P.truthy_int ?_)))
     by_cases c3 : 0 < r.2.2
     · rw [if_pos (by simp; omega)]
       refine wpAny_execs_cons ?_
       refine wpAny_Expr ?_ C.inter
       refine appS (h₀ := s.heap) (xt := [dx]) (g₀ := g) (L := env.locals) (N := nOps) (a := an) (xs := av') (j := aj') (pre := [(I, oI)]) (post := []) (by omega) ?_
       refine ld3 C F ⟨rfl, ⟨_, (F.mt (an, lstObj av' aj') (by simp)).1, rfl, rfl⟩, ?_⟩
       refine tupE ?_
       refine sp1 (Constant_str ?_)
       refine sp1 (ld4 C F ?_)
       refine sp1 (ld1 C F ?_)
       refine sp1 (ld5 C F ?_)
       refine sp1 (ld2 C F ?_)
       refine sp0 ?_
       refine newTup F fun T2 g₅ h' k5 eT2 F => ?_
       refine ⟨g₅, _, F, fun h' F => ?_⟩
       refine wpAny_execs_nil (wpAny_execs_nil ?_)
       refine turn_next (k3.tr (k4.tr k5)) F ⟨_, _, _, _, _, _, _, _, ?_, rfl, rfl⟩
       unfold opStep
       rw [if_pos c3, ← List.append_assoc, List.map_append]
       exact (hav4.up k5).snoc (.tuple eT2 (.cons (.str _ _) (.cons (.int _ _) (.cons (.int _ _) (.cons (.int _ _) (.cons (.int _ _) .nil))))))
     · rw [if_neg (by simp; omega)]
       refine wpAny_execs_nil (wpAny_execs_nil ?_)
       refine turn_next (k3.tr k4) F ⟨_, _, _, _, _, _, _, _, ?_, rfl, rfl⟩
       unfold opStep
       rw [if_neg c3, List.append_nil]
       exact hav4
   · rintro g' vs' mu' h tk kg' ⟨av, aj, u1, u2, u4, u5, u6, u7, hav, rfl, rfl⟩ F
     have hol : ys.length = (R ++ [(TA.length, TB.length, 0)]).length := hys.len
     rw [hol, List.take_length] at hav F
     exact ⟨rfl, _, _, g', av, aj, _, _, u4, u5, u6, u7, rfl, k2.tr kg', hav, F⟩
 rintro s₂ ⟨h', t', g₂, av, aj, u1, u2, u4, u5, u6, u7, rfl, k2, hav, F⟩
 obtain ⟨g₃, k3, ean, F⟩ := F.freeze (pre := []) (post := []) rfl han
 refine wpAny_execs_cons ?_
 refine wpAny_Return_some ?_
 refine ld3 C F ?_
 exact ends F (.list ean (hav.up k3))
end
end Mine
namespace Mine
open PySem PySem.W PyProof.Rows PySem.Calls PySem.Spec
open PySem.SeqAt
section
variable {prog : Program} {w : World} {A : Around} {E : Value → Shared → Prop} {s : Shared} {env : Env} {g : Heap}
theorem inD {c x : Value} {xs : List PyData} {d : PyData} {Q : Value → Shared → Prop} (k : Le g s.heap) (hl : Dt g c (.list xs)) (hx : Dt g x d) (hxs : PyData.canLayAll0 xs = true) (hd : d.canLay0 = true) (hdd : d.depth ≤ 60) (hu : A.units + 65 < cLine)
 (h : Q (.bool (xs.any fun y => PyData.eqv y d)) s) : wpAny (model prog w) A (compareOp .In x c) Q E s := by
 obtain ⟨as, ra⟩ := (hl.up k).reads
 obtain ⟨bs, rb⟩ := (hx.up k).reads
 exact in_list_reads ra rb hxs hd (by have := Nat.min_le_right (PyData.depthAll xs) d.depth; omega) h
theorem idx_call {l : Addr} {vs : List Value} {n j : Nat} {xs : List PyData} {x : Value} {d y : PyData} {Q : Value → Shared → Prop} (k : Le g s.heap) (hl : g.get? l = some (lstObj vs n)) (hv : Dts g vs xs) (hx : Dt g x d) (hxs : PyData.canLayAll0 xs = true) (hd : d.canLay0 = true)
 (hdd : d.depth ≤ 60) (hu : A.units + 65 < cLine) (hj : xs[j]? = some y) (hy : PyData.eqv y d = true) (hno : ∀ m < j, ∀ z, xs[m]? = some z → PyData.eqv z d = false) (hz : vs.length ≤ 1000)
 (h : ∀ t k, Q (.int (j : Int) t) { s with toks := k }) : wpAny (model prog w) A (call (.builtin "list.index") [.ref l, x]) Q E s := by
 obtain ⟨as, ra⟩ := (hv.up k).reads
 obtain ⟨bs, rb⟩ := (hx.up k).reads
 have ho := k _ _ hl
 have hlen : vs.length = xs.length := hv.len
 have hjl : j < xs.length := (List.getElem?_eq_some_iff.mp hj).1
 have hm := readsAll_map xs vs as hxs ra
 have rd : ∀ (i : Nat) (hi : i < vs.length), ∃ z, xs[i]? = some z ∧ readOf s.heap vs[i] = z := fun i hi => by
  have e : xs[i]? = some (readOf s.heap vs[i]) := by rw [← hm, List.getElem?_map, List.getElem?_eq_getElem hi]; rfl
  exact ⟨_, e, rfl⟩
 refine call_meets PySem.F.slot_list_index ⟨_, ho, rfl⟩ PySem.F.entry_list_index (PySem.F.args_list_index_2 _ _)
  (list_indexAt l vs.toArray n none #[] x (fun y => PyData.eqv (readOf s.heap y) d) j (by simp; omega) (by omega) ?_ ?_) ⟨ho, items_eqAt (by simpa using ra) rb hxs hd (by have := Nat.min_le_right (PyData.depthAll xs) d.depth; omega), h _ _⟩
 · obtain ⟨z, e, e2⟩ := rd j (by omega)
   rw [hj] at e; cases e
   simp only [List.getElem_toArray]
   rw [e2]; exact hy
 · intro m hm' hlt
   obtain ⟨z, e, e2⟩ := rd m (by simpa using hm')
   simp only [List.getElem_toArray]
   rw [e2]; exact hno m hlt z e
theorem M_index {l : Addr} {vs : List Value} {n : Nat} {pos : Pos} {a : Sem Value} {Q : Value → Shared → Prop} (ho : s.heap.get? l = some (lstObj vs n))
 (h : wpAny (model prog w) A a (fun x s₁ => ∃ g xs d j y, Le g s₁.heap ∧ g.get? l = some (lstObj vs n) ∧ Dts g vs xs ∧ Dt g x d ∧ PyData.canLayAll0 xs = true ∧ d.canLay0 = true ∧ d.depth ≤ 60 ∧ A.units + 65 < cLine ∧ xs[j]? = some y ∧ PyData.eqv y d = true ∧
  (∀ m < j, ∀ z, xs[m]? = some z → PyData.eqv z d = false) ∧ vs.length ≤ 1000 ∧ ∀ t k, Q (.int ((j : Nat) : Int) t) { s₁ with toks := k }) E s) :
 MethodOnS prog w A E "index" (.ref l) pos [(false, a)] Q s := by
 refine ⟨"list", "list.index", PySem.F.plainAttrs_list, PySem.F.slot_list_index, by show builtinType _ = _; rw [builtinType_eq_fast]; kernel_rfl, ⟨_, ho, rfl⟩, fun b e => by cases e; exact ⟨_, ho, rfl⟩, ?_⟩
 refine callWith_any rfl (evalArgs_plain (spliced_cons (wpAny_mono h (fun x s₁ h₁ => spliced_nil ?_) fun _ _ e => e)))
 obtain ⟨g, xs, d, j, y, h1, h2, h3, h4, h5, h6, h7, h8, h9, h10, h11, h12, h13⟩ := h₁
 exact ⟨trivial, idx_call h1 h2 h3 h4 h5 h6 h7 h8 h9 h10 h11 h12 h13⟩
theorem itemNeg {l : Addr} {xs : List Value} {k : Nat} {t : Tok} {x : Value} {Q : Value → Shared → Prop} (kk : Le g s.heap) (hl : g.get? l = some (lstObj (xs ++ [x]) k)) (h : Q x s) : ItemOn (model prog w) A E (.ref l) (.int (-1) t) Q s := itemLast (kk _ _ hl) h
end
end Mine
namespace Mine
open PySem PySem.W PyProof.Rows PySem.Calls PySem.Spec
section
variable {prog : Program} {w : World} {A : Around} {E : Value → Shared → Prop} {s : Shared} {env : Env} {g : Heap}
theorem SubB {value e₁ e₂ : Expr} {op : Operator} {p pos : Pos} {Q : Value → Shared → Prop}
 (h : wpAny (model prog w) A (eval value env) (fun o s₁ => wpAny (model prog w) A (eval (.BinOp e₁ op e₂ p) env) (fun i s₂ => ItemOn (model prog w) A E o i Q s₂) E s₁) E s) :
 wpAny (model prog w) A (eval (.Subscript value (.BinOp e₁ op e₂ p) pos) env) Q E s := by
 rw [eval_Subscript]
 refine wpAny_bind (wpAny_mono h (fun o s₁ h₁ => wpAny_bind (wpAny_holding (wpAny_mono h₁ (fun i s₂ h₂ => wpAny_bind (wpAny_standAt ?_)) fun _ _ x => x))) fun _ _ x => x)
 obtain ⟨T, id, hl, hT, hg⟩ := h₂
 have fin : wpAny (model prog w) A (operate [o, i] (getItem o i)) (fun r s₃ => wpAny (model prog w) A (letTemporaryGo value o r >>= fun _ => pure r) Q E s₃) E s₂ :=
  wpAny_operating (wpAny_mono hg (fun r s₃ h₃ => wpAny_bind (wpAny_letTemporaryGo (wpAny_pure h₃))) fun _ _ x => x)
 first
  | (refine wpAny_bind ?_; rw [getitemInPython_of_ne hT.not_modules]; refine wpAny_bind (wpAny_specialOf hT hl ?_))
  | refine wpAny_bind (wpAny_specialOf hT hl ?_)
 first
  | exact wpAny_pure (wpAny_bind fin)
  | exact wpAny_bind (wpAny_pure (wpAny_bind fin))
  | exact wpAny_bind fin
theorem SubK {value : Expr} {c : Const} {k : Nat} {p pos : Pos} {Q : Value → Shared → Prop}
 (h : wpAny (model prog w) A (eval value env) (fun o s₁ => wpAny (model prog w) A (eval (.Constant c k p) env) (fun i s₂ => ItemOn (model prog w) A E o i Q s₂) E s₁) E s) :
 wpAny (model prog w) A (eval (.Subscript value (.Constant c k p) pos) env) Q E s := by
 rw [eval_Subscript]
 refine wpAny_bind (wpAny_mono h (fun o s₁ h₁ => wpAny_bind (wpAny_holding (wpAny_mono h₁ (fun i s₂ h₂ => wpAny_bind (wpAny_standAt ?_)) fun _ _ x => x))) fun _ _ x => x)
 obtain ⟨T, id, hl, hT, hg⟩ := h₂
 have fin : wpAny (model prog w) A (operate [o, i] (getItem o i)) (fun r s₃ => wpAny (model prog w) A (letTemporaryGo value o r >>= fun _ => pure r) Q E s₃) E s₂ :=
  wpAny_operating (wpAny_mono hg (fun r s₃ h₃ => wpAny_bind (wpAny_letTemporaryGo (wpAny_pure h₃))) fun _ _ x => x)
 first
  | (refine wpAny_bind ?_; rw [getitemInPython_of_ne hT.not_modules]; refine wpAny_bind (wpAny_specialOf hT hl ?_))
  | refine wpAny_bind (wpAny_specialOf hT hl ?_)
 first
  | exact wpAny_pure (wpAny_bind fin)
  | exact wpAny_bind (wpAny_pure (wpAny_bind fin))
  | exact wpAny_bind fin
theorem minN {h₀ g₀ : Heap} {xt : List Addr} {L : Addr} {N : List Str} {vs : List (Option Value)} {mu : List (Addr × Obj)} {a b : Int} {c : Nat} {t u : Tok} {Q : Value → Shared → Prop} (hh : A.handled = none) (F : St h₀ xt g₀ g L N vs mu s.heap) (e : (if b < a then b else a) = (c : Int))
 (h : ∀ h' t' k, St h₀ xt g₀ g L N vs mu h' → Q (.int (c : Int) t') { s with heap := h', toks := k }) : wpAny (model prog w) A (call (.builtin "min") [.int a t, .int b u]) Q E s := by
 refine min_two_ints hh fun h' tk k => ?_
 split
 · rename_i q; rw [if_pos q] at e; rw [e]; exact h h' _ _ (F.more k)
 · rename_i q; rw [if_neg q] at e; rw [e]; exact h h' _ _ (F.more k)
end
end Mine
namespace Mine
open PySem
def allStep (i j : Nat) (r : Run) : List Op :=
 ([(tagOf (decide (i < r.1)) (decide (j < r.2.1)), i, r.1, j, r.2.1)] : List Op) ++ (if 0 < r.2.2 then ([(("equal" : Str), r.1, r.1 + r.2.2, r.2.1, r.2.1 + r.2.2)] : List Op) else [])
def allFrom : Nat → Nat → List Run → List Op
 | _, _, [] => []
 | i, j, r :: rs => allStep i j r ++ allFrom (r.1 + r.2.2) (r.2.1 + r.2.2) rs
theorem allFrom_snoc : ∀ (rs : List Run) (i j : Nat) (r : Run), allFrom i j (rs ++ [r]) = allFrom i j rs ++ allStep (endOf i j rs).1 (endOf i j rs).2 r
 | [], i, j, r => by simp [allFrom, endOf]
 | x :: rs, i, j, r => by simp [allFrom, endOf, allFrom_snoc rs]
theorem tagOf_empty (p q : Bool) : decide (tagOf p q ≠ ("" : Str)) = (p || q) := by cases p <;> cases q <;> decide +kernel
theorem all_ops : ∀ (rs : List Run) (i j : Nat), (allFrom i j rs).filter (fun c : Op => decide (c.1 ≠ ("" : Str))) = opsFrom i j rs
 | [], _, _ => rfl
 | r :: rs, i, j => by
  simp only [allFrom, opsFrom, List.filter_append, all_ops rs]
  congr 1
  unfold allStep opStep
  rw [List.filter_append]
  have e2 : (if 0 < r.2.2 then ([(("equal" : Str), r.1, r.1 + r.2.2, r.2.1, r.2.1 + r.2.2)] : List Op) else []).filter (fun c : Op => decide (c.1 ≠ ("" : Str))) = (if 0 < r.2.2 then ([(("equal" : Str), r.1, r.1 + r.2.2, r.2.1, r.2.1 + r.2.2)] : List Op) else []) := by
   split
   · rw [List.filter_cons, if_pos (show decide (("equal" : Str) ≠ ("" : Str)) = true by decide +kernel), List.filter_nil]
   · rfl
  rw [e2, List.filter_cons]
  have e1 := tagOf_empty (decide (i < r.1)) (decide (j < r.2.1))
  dsimp only
  rw [e1]
  by_cases c : i < r.1 ∨ j < r.2.1
  · rw [if_pos c, if_pos (by simpa using c)]; rfl
  · rw [if_neg c, if_neg (by simpa using c)]; rfl
theorem beg_at (n1 n2 : Nat) (R : List Run) : ∀ k ≤ R.length, ((0, 0) :: R.map fun r => (r.1 + r.2.2, r.2.1 + r.2.2))[k]? = some (endOf 0 0 ((R ++ [(n1, n2, 0)]).take k))
 | 0, _ => rfl
 | k + 1, hk => by
  have hl : k < R.length := by omega
  have e : (R ++ [(n1, n2, 0)])[k]? = some R[k] := by rw [List.getElem?_append_left hl, List.getElem?_eq_getElem hl]
  rw [List.take_add_one, e, Option.toList_some, endOf_snoc, List.getElem?_cons_succ, List.getElem?_map, List.getElem?_eq_getElem hl]; rfl
theorem end_mono {R : List Run} (hsep : R.Pairwise Bef) {n1 n2 : Nat} (hin : ∀ r ∈ R, r.1 + r.2.2 ≤ n1 ∧ r.2.1 + r.2.2 ≤ n2 ∧ 0 < r.2.2) : ∀ (k : Nat) (r : Run), (R ++ [(n1, n2, 0)])[k]? = some r →
 (endOf 0 0 ((R ++ [(n1, n2, 0)]).take k)).1 ≤ r.1 ∧ (endOf 0 0 ((R ++ [(n1, n2, 0)]).take k)).2 ≤ r.2.1
 | 0, _, _ => ⟨Nat.zero_le _, Nat.zero_le _⟩
 | k + 1, r, h => by
  have hlt := (List.getElem?_eq_some_iff.mp h).1
  have hl : k < R.length := by simp at hlt; omega
  have e : (R ++ [(n1, n2, 0)])[k]? = some R[k] := by rw [List.getElem?_append_left hl, List.getElem?_eq_getElem hl]
  rw [List.take_add_one, e, Option.toList_some, endOf_snoc]
  rcases Nat.lt_or_ge (k + 1) R.length with q | q
  · rw [List.getElem?_append_left q, List.getElem?_eq_getElem q] at h
    have hb := List.pairwise_iff_getElem.mp hsep k (k + 1) hl q (by omega)
    rw [Option.some.inj h] at hb
    unfold Bef at hb
    exact ⟨hb.1, hb.2.1⟩
  · rw [List.getElem?_append_right q] at h
    have h0 : k + 1 - R.length = 0 := by simp at hlt; omega
    rw [h0] at h
    obtain rfl := Option.some.inj h
    have := hin _ (List.getElem_mem hl)
    exact ⟨this.1, this.2.1⟩
end Mine
namespace Mine
open PySem PySem.W PyProof.Rows PySem.Calls PySem.Spec
abbrev dPr (p : Nat × Nat) : PyData := .tuple [.int p.1, .int p.2]
def prsOf (L1 L2 : List Pl) : List (Nat × Nat) := (L1.filter fun p => decide (p ∈ L2)).map fun p => (L1.idxOf p, L2.idxOf p)
def prsAt (L1 L2 : List Pl) (i : Nat) : List (Nat × Nat) := ((L1.take i).filter fun p => decide (p ∈ L2)).map fun p => (L1.idxOf p, L2.idxOf p)
theorem idxOf_at {L : List Pl} {p : Pl} (h : p ∈ L) : (L.map dPlace)[L.idxOf p]? = some (dPlace p) := by
 have hl := List.idxOf_lt_length_iff.mpr h
 rw [List.getElem?_map, List.getElem?_eq_getElem hl, List.getElem_idxOf hl]; rfl
theorem idxOf_no {L : List Pl} {p : Pl} : ∀ m < L.idxOf p, ∀ z, (L.map dPlace)[m]? = some z → PyData.eqv z (dPlace p) = false := by
 intro m hm z hz
 rw [List.getElem?_map] at hz
 obtain ⟨q, hq, rfl⟩ := Option.map_eq_some_iff.mp hz
 rw [eqv_place, decide_eq_false_iff_not]
 intro e
 subst e
 have hml := (List.getElem?_eq_some_iff.mp hq).1
 have := List.not_of_lt_findIdx (p := fun x => x == q) (xs := L) (i := m) (by exact hm)
 rw [List.getElem?_eq_getElem hml] at hq
 rw [Option.some.inj hq] at this
 simp at this
theorem canLay_places (L : List Pl) : PyData.canLayAll0 (L.map dPlace) = true := canLay_map canLay_place L
theorem any_place (L : List Pl) (p : Pl) : ((L.map dPlace).any fun y => PyData.eqv y (dPlace p)) = decide (p ∈ L) := by
 rw [List.any_map]
 induction L with
 | nil => rfl
 | cons q L ih =>
  rw [List.any_cons, ih]
  simp only [Function.comp, eqv_place, List.mem_cons]
  by_cases e : q = p
  · simp [e]
  · simp [e, Ne.symm e]
def prvP (P : List (Nat × Nat)) (k : Nat) : Nat × Nat := P.getD (if k = 0 then P.length - 1 else k - 1) (0, 0)
def nxtP (P : List (Nat × Nat)) (k : Nat) : Nat × Nat := P.getD ((k + 1) % P.length) (0, 0)
def isHd (P : List (Nat × Nat)) (k : Nat) : Bool := !(decide ((prvP P k).1 + 1 = (P.getD k (0, 0)).1) && decide ((prvP P k).2 + 1 = (P.getD k (0, 0)).2))
def isEn (P : List (Nat × Nat)) (k : Nat) : Bool := !(decide ((nxtP P k).1 = (P.getD k (0, 0)).1 + 1) && decide ((nxtP P k).2 = (P.getD k (0, 0)).2 + 1))
def hdsTo (P : List (Nat × Nat)) (n : Nat) : List (Nat × Nat) := ((List.range n).filter (isHd P)).map fun k => P.getD k (0, 0)
def ensTo (P : List (Nat × Nat)) (n : Nat) : List (Nat × Nat) := ((List.range n).filter (isEn P)).map fun k => ((P.getD k (0, 0)).1 + 1, (P.getD k (0, 0)).2 + 1)
theorem hdsTo_succ (P : List (Nat × Nat)) (n : Nat) : hdsTo P (n + 1) = hdsTo P n ++ (if isHd P n then [P.getD n (0, 0)] else []) := by
 unfold hdsTo
 rw [List.range_succ, List.filter_append, List.map_append]
 cases h : isHd P n <;> simp [h]
theorem ensTo_succ (P : List (Nat × Nat)) (n : Nat) : ensTo P (n + 1) = ensTo P n ++ (if isEn P n then [((P.getD n (0, 0)).1 + 1, (P.getD n (0, 0)).2 + 1)] else []) := by
 unfold ensTo
 rw [List.range_succ, List.filter_append, List.map_append]
 cases h : isEn P n <;> simp [h]
theorem eqv_pr (a b c d : Int) : PyData.eqv (.tuple [.int a, .int b]) (.tuple [.int c, .int d]) = (decide (a = c) && decide (b = d)) := by
 simp only [PyData.eqv, PyData.eqvAll]
 by_cases e1 : a = c <;> by_cases e2 : b = d <;> simp [e1, e2]
theorem itemPrev {prog : Program} {w : World} {A : Around} {E : Value → Shared → Prop} {s : Shared} {g : Heap} {l : Addr} {xs : List Value} {j k : Nat} {t : Tok} {x : Value} {Q : Value → Shared → Prop} (kk : Le g s.heap) (hl : g.get? l = some (lstObj xs j)) (hk : k < xs.length) (hz : xs.length < 1000)
 (hx : xs[if k = 0 then xs.length - 1 else k - 1]? = some x) (h : Q x s) : ItemOn (model prog w) A E (.ref l) (.int ((k : Int) - 1) t) Q s := by
 by_cases e : k = 0
 · subst e
   rw [if_pos rfl] at hx
   have hne : xs ≠ [] := fun q => by subst q; simp at hk
   have ex : xs = xs.dropLast ++ [x] := by
    have h2 : xs.getLast hne = x := by
     rw [List.getLast_eq_getElem]
     rw [List.getElem?_eq_getElem (by omega)] at hx
     exact Option.some.inj hx
    rw [← h2]; exact (List.dropLast_concat_getLast hne).symm
   rw [ex] at hl
   have := itemNeg (prog := prog) (w := w) (A := A) (E := E) (s := s) (t := t) kk hl h
   simpa using this
 · rw [if_neg e] at hx
   rw [show ((k : Int) - 1) = ((k - 1 : Nat) : Int) by omega]
   exact itemL kk hl hx (by omega) h
theorem hd_dec (a b c d : Nat) : (!(decide ((a : Int) = (c : Int) - 1) && decide ((b : Int) = (d : Int) - 1))) = !(decide (a + 1 = c) && decide (b + 1 = d)) := by
 have e1 : decide ((a : Int) = (c : Int) - 1) = decide (a + 1 = c) := decide_eq_decide.mpr (by omega)
 have e2 : decide ((b : Int) = (d : Int) - 1) = decide (b + 1 = d) := decide_eq_decide.mpr (by omega)
 rw [e1, e2]
theorem en_dec (a b c d : Nat) : (!(decide ((a : Int) = (c : Int) + 1) && decide ((b : Int) = (d : Int) + 1))) = !(decide (a = c + 1) && decide (b = d + 1)) := by
 have e1 : decide ((a : Int) = (c : Int) + 1) = decide (a = c + 1) := decide_eq_decide.mpr (by omega)
 have e2 : decide ((b : Int) = (d : Int) + 1) = decide (b = d + 1) := decide_eq_decide.mpr (by omega)
 rw [e1, e2]
theorem subI {prog : Program} {w : World} {A : Around} {E : Value → Shared → Prop} {s : Shared} {a b : Int} {t u : Tok} {Q : Value → Shared → Prop} (h : Q (.int (a - b) s.toks) { s with toks := s.toks + 1 }) : wpAny (model prog w) A (binaryOp .Sub (.int a t) (.int b u)) Q E s := P.sub_int h
theorem mulZ {w : World} {A : Around} {E : Value → Shared → Prop} {s : Shared} {a b : Int} {c : Nat} {t u : Tok} {Q : Value → Shared → Prop} (e : a * b = (c : Int)) (hm : IntMulOk a b) (h : Q (.int (c : Int) s.toks) { s with toks := s.toks + 1 }) : wpAny (model pw w) A (binaryOp .Mult (.int a t) (.int b u)) Q E s :=
 P.mul_int (by rw [e]; exact h) hm
theorem tag_at (p q : Prop) [Decidable p] [Decidable q] (t1 t2 t3 t4 : Tok) : ∃ tt, ([Value.str "" t1, Value.str "insert" t2, Value.str "delete" t3, Value.str "replace" t4] : List Value)[2 * (if p then 1 else 0) + (if q then 1 else 0)]? = some (.str (tagOf (decide p) (decide q)) tt) := by
 by_cases hp : p <;> by_cases hq : q
 · exact ⟨t4, by simp [hp, hq, tagOf]⟩
 · exact ⟨t3, by simp [hp, hq, tagOf]⟩
 · exact ⟨t2, by simp [hp, hq, tagOf]⟩
 · exact ⟨t1, by simp [hp, hq, tagOf]⟩
theorem ltI {prog : Program} {w : World} {A : Around} {E : Value → Shared → Prop} {s : Shared} {a b : Int} {t u : Tok} {Q : Value → Shared → Prop} (h : Q (.bool (decide (a < b))) s) : wpAny (model prog w) A (compareOp .Lt (.int a t) (.int b u)) Q E s := P.lt_int h
theorem neS {prog : Program} {w : World} {A : Around} {E : Value → Shared → Prop} {s : Shared} {a b : Str} {t u : Tok} {Q : Value → Shared → Prop} (h : Q (.bool (decide (a ≠ b))) s) : wpAny (model prog w) A (compareOp .NotEq (.str a t) (.str b u)) Q E s := by
 refine P.ne_str ?_
 have e : (a.cps.toList != b.cps.toList) = decide (a ≠ b) := by
  by_cases q : a = b
  · subst q; simp
  · have : a.cps.toList ≠ b.cps.toList := fun z => q (str_ext z)
    simp [q, this]
 rw [e]; exact h
theorem itemTag {prog : Program} {w : World} {A : Around} {E : Value → Shared → Prop} {s : Shared} {g : Heap} {l : Addr} {k : Nat} {p q : Prop} [Decidable p] [Decidable q] {t1 t2 t3 t4 t : Tok} {Q : Value → Shared → Prop} (kk : Le g s.heap)
 (hl : g.get? l = some (lstObj [Value.str "" t1, Value.str "insert" t2, Value.str "delete" t3, Value.str "replace" t4] k)) (h : ∀ tt, Q (.str (tagOf (decide p) (decide q)) tt) s) :
 ItemOn (model prog w) A E (.ref l) (.int ((2 * (if p then 1 else 0) + (if q then 1 else 0) : Nat) : Int) t) Q s := by
 obtain ⟨tt, hi⟩ := tag_at p q t1 t2 t3 t4
 exact itemL kk hl hi (by split <;> split <;> omega) (h tt)
abbrev nLC : List Str := ["pairs", "heads", "ends", "k", "a", "b", "begins", "stops", "codes", "i", "j", "tag"]
section
variable {w : World} {A : Around} {s : Shared} {g : Heap} {n : Nat}
set_option maxHeartbeats 4000000 in
theorem lcodes_gives (X : Stat g) (kg : Le g s.heap) (hA : Ok A (n + 2)) (v1 v2 : Value) (L1 L2 : List Pl) (h1 : Dt g v1 (.list (L1.map dPlace))) (h2 : Dt g v2 (.list (L2.map dPlace))) (z1 : L1.length < 64) (z2 : L2.length < 64)
 {R : List Run} (hH : hdsTo (prsOf L1 L2) (prsOf L1 L2).length = R.map fun r => (r.1, r.2.1)) (hE : ensTo (prsOf L1 L2) (prsOf L1 L2).length = R.map fun r => (r.1 + r.2.2, r.2.1 + r.2.2)) (hsep : R.Pairwise Bef)
 (hin : ∀ r ∈ R, r.1 + r.2.2 ≤ L1.length ∧ r.2.1 + r.2.2 ≤ L2.length ∧ 0 < r.2.2) (hR : R.length < 64) :
 Gives pw w A (.call (.ref 423) ⟨[v1, v2], []⟩) s [] g (fun g' _ v => Dt g' v (.list ((opsFrom 0 0 (R ++ [(L1.length, L2.length, 0)])).map dOp))) := by
 refine Gives.goC 24 [v1, v2] ["first", "second"] nLC ["range", "len", "min"] ["first", "second"] [none, none, none, none, none, none, none, none, none, none, none, none] rfl X kg hA rfl rfl (by decide +kernel) (fun n x hx => ?_) rfl (fun j x hx => ?_) fun h₁ env A' t' hA' C hcl hC hIs hL F => ?_
 · simp only [List.mem_cons, List.not_mem_nil, or_false] at hx
   rcases hx with rfl | rfl
   · exact .inr ⟨by decide +kernel, rfl⟩
   · exact .inr ⟨by decide +kernel, rfl⟩
 · rcases j with _ | _ | _ | _ | _ | _ | _ | _ | _ | _ | _ | _ | j
   all_goals first
    | (simp only [List.getElem?_cons_succ, List.getElem?_cons_zero, Option.some.injEq] at hx; subst hx; rfl)
    | simp at hx
 have c1 : env.cells.lookup ("first" : Str) = some (s.heap.objs.size + 1) := by rw [hcl]; rfl
 have c2 : env.cells.lookup ("second" : Str) = some (s.heap.objs.size + 1 + 1) := by rw [hcl]; rfl
 have K1 := hC _ (.head _) _ c1
 have K2 := hC _ (.tail _ (.head _)) _ c2
 obtain ⟨o1, hd1, F⟩ := F.cell (hIs _ _ c1).1 (by rw [hL]; exact (hIs _ _ c1).2) (none_above kg (by omega)) (fun p hp => nomatch hp)
 obtain ⟨o2, hd2, F⟩ := F.cell (hIs _ _ c2).1 (by rw [hL]; exact (hIs _ _ c2).2) (none_above kg (by omega)) (fun p hp => by
  rw [List.mem_singleton.mp hp]; show s.heap.objs.size + 1 ≠ s.heap.objs.size + 1 + 1; omega)
 obtain ⟨g₁, k1, e1, F⟩ := F.freeze (pre := [(_, o2)]) (post := []) rfl (by omega)
 obtain ⟨g₂, k2, e2, F⟩ := F.freeze (pre := []) (post := []) rfl (by omega)
 have hd1' : o1.data = .cell (some v1) := hd1
 have hd2' : o2.data = .cell (some v2) := hd2
 have X₂ := X.up (k1.tr k2)
 have e1 := k2 _ _ e1
 obtain ⟨l1, i1, j1, rfl, el1, dl1⟩ := (h1.up (k1.tr k2)).listInv
 obtain ⟨l2, i2, j2, rfl, el2, dl2⟩ := (h2.up (k1.tr k2)).listInv
 have len1 : i1.length = L1.length := by simpa using dl1.len
 have len2 : i2.length = L2.length := by simpa using dl2.len
 dsimp only [List.nil_append] at F
 refine wpAny_execs_cons ?_
 refine asLst (h₀ := s.heap) (xt := []) (g₀ := g) (l := l1) (k := j1) (items := i1) (cl := [("second", s.heap.objs.size + 1 + 1), ("first", s.heap.objs.size + 1)]) (j := 0) ["place"] [] (fun i g' zs => Dts g' zs ((prsAt L1 L2 i).map dPr)) hA'.handled (by decide +kernel) (by rw [hcl]; rfl) C rfl rfl (by rw [len1, sizeLine_eq]; omega) ?_
 refine ldC K1 F.keep e1 hd1' ⟨rfl, g₂, _, _, F, el1, .nil, cturn ?_, ?_⟩
 · rintro i v s1 g' us ys I oI C' D' h tk hi kg' hys hus Cc F
   obtain ⟨u0, rfl⟩ := List.length_eq_one_iff.mp hus
   have K1' := cellIn (C := C') K1 (sc := ⟨.function, [(".0", .local), ("place", .local), ("first", .free), ("second", .free)], false, false, []⟩) (cl := [("second", s.heap.objs.size + 1 + 1), ("first", s.heap.objs.size + 1)]) rfl rfl rfl
   have K2' := cellIn (C := C') K2 (sc := ⟨.function, [(".0", .local), ("place", .local), ("first", .free), ("second", .free)], false, false, []⟩) (cl := [("second", s.heap.objs.size + 1 + 1), ("first", s.heap.objs.size + 1)]) rfl rfl rfl
   obtain ⟨d, hd, hdt⟩ := dl1.get hi
   obtain ⟨p, hp, rfl⟩ : ∃ x, L1[i]? = some x ∧ dPlace x = d := by simpa using hd
   have hpm : p ∈ L1 := List.mem_of_getElem? hp
   refine st0 Cc F fun h' F => ?_
   refine tests1 ?_
   refine wpAny_isTrue_Compare1 (ld0 Cc F ?_)
   refine ldC K2' F.keep (kg' _ _ e2) hd2' ?_
   refine inD (g := g') F.keep (.list (kg' _ _ el2) (dl2.up kg')) (hdt.up kg') (canLay_places L2) (canLay_place p) (by have := depth_place p; omega) hA'.c (wpAny_truthy_bool ?_)
   rw [any_place]
   by_cases hm : p ∈ L2
   · rw [if_pos (by simpa using hm)]
     refine tupE ?_
     refine sp1 ?_
     refine Call_method1 rfl rfl rfl ?_
     refine ldC K1' F.keep (kg' _ _ e1) hd1' ?_
     refine M_index (F.keep _ _ (kg' _ _ el1)) (ld0 Cc F ?_)
     refine ⟨g', _, _, L1.idxOf p, _, F.keep, kg' _ _ el1, dl1.up kg', hdt.up kg', canLay_places L1, canLay_place p, by have := depth_place p; omega, hA'.c, idxOf_at hpm, by rw [eqv_place]; simp, idxOf_no, by omega, fun w1 w2 => ?_⟩
     refine sp1 ?_
     refine Call_method1 rfl rfl rfl ?_
     refine ldC K2' F.keep (kg' _ _ e2) hd2' ?_
     refine M_index (F.keep _ _ (kg' _ _ el2)) (ld0 Cc F ?_)
     refine ⟨g', _, _, L2.idxOf p, _, F.keep, kg' _ _ el2, dl2.up kg', hdt.up kg', canLay_places L2, canLay_place p, by have := depth_place p; omega, hA'.c, idxOf_at hm, by rw [eqv_place]; simp, idxOf_no, by omega, fun w3 w4 => ?_⟩
     refine sp0 ?_
     refine newTup F fun T g₄ h' k4 eT F => ?_
     refine cEnd k4 F ?_
     have e : prsAt L1 L2 (i + 1) = prsAt L1 L2 i ++ [(L1.idxOf p, L2.idxOf p)] := by
      unfold prsAt
      rw [List.take_add_one, hp, List.filter_append, List.map_append]
      simp [hm]
     rw [e, List.map_append]
     exact (hys.up k4).snoc (.tuple eT (.cons (.int _ _) (.cons (.int _ _) .nil)))
   · rw [if_neg (by simpa using hm)]
     refine cEnd Le.rfl' F ?_
     have e : prsAt L1 L2 (i + 1) = prsAt L1 L2 i := by
      unfold prsAt
      rw [List.take_add_one, hp, List.filter_append, List.map_append]
      simp [hm]
     rw [e]
     exact hys
 intro g₃' g₃ D h' tk ys k3 k3' hys eD F
 simp only [List.set_cons_succ, List.set_cons_zero] at F
 have hP : Dts g₃ ys ((prsOf L1 L2).map dPr) := by
  have := hys.up k3'
  rw [len1] at this
  unfold prsAt at this
  rw [List.take_length] at this
  exact this
 have X₃ := X₂.up k3
 refine wpAny_execs_cons ?_
 refine wpAny_Assign_Name ?_
 refine lstE (sp0 ?_)
 refine newOwn F fun ha h' F hha => ?_
 refine st1 C F fun h' F => ?_
 dsimp only
 refine wpAny_execs_cons ?_
 refine wpAny_Assign_Name ?_
 refine lstE (sp0 ?_)
 refine newOwn F fun ea h' F hea => ?_
 refine st2 C F fun h' F => ?_
 dsimp only
 have Pl : (prsOf L1 L2).length ≤ L1.length := by unfold prsOf; rw [List.length_map]; exact List.length_filter_le ..
 have yl : ys.length = (prsOf L1 L2).length := by simpa using hP.len
 generalize prsOf L1 L2 = P at hP Pl yl hH hE
 refine seqP (fun s₂ => ∃ h' t' g₄ hv ev hj ej u3 u4 u5, s₂ = { s with heap := h', toks := t' } ∧ Le g₃ g₄ ∧ Dts g₄ hv ((hdsTo P P.length).map dPr) ∧ Dts g₄ ev ((ensTo P P.length).map dPr) ∧
  St s.heap [] g g₄ env.locals nLC [some (.ref D), some (.ref ha), some (.ref ea), u3, u4, u5, none, none, none, none, none, none] [(ea, lstObj ev ej), (ha, lstObj hv hj)] h') ?_ ?_
 · refine For_ ?_
   refine C1 (N_range C X₃ F.keep (.head _) ?_)
   refine C1 (N_len C X₃ F.keep (.tail _ (.head _)) (ld0 C F ⟨trivial, ?_⟩))
   refine lenL F.keep eD (by omega) fun w1 w2 => ⟨trivial, ?_⟩
   rw [yl]
   refine rng1 F fun rr g₄ h' r1 r2 r3 rk k4 err F => ?_
   have X₄ := X₃.up k4
   refine each_range (a := 0) (b := P.length) (fun i g' vs' mu' => ∃ hv ev hj ej u3 u4 u5, Dts g' hv ((hdsTo P i).map dPr) ∧ Dts g' ev ((ensTo P i).map dPr) ∧ hv.length ≤ i ∧ ev.length ≤ i ∧ vs' = [some (.ref D), some (.ref ha), some (.ref ea), u3, u4, u5, none, none, none, none, none, none] ∧ mu' = [(ea, lstObj ev ej), (ha, lstObj hv hj)]) hA'.handled F err (by omega) (by omega) ⟨[], [], 0, 0, none, none, none, .nil, .nil, by simp, by simp, rfl, rfl⟩ ?_ ?_
   · rintro k tk0 g' vs' mu' I oI h tk hk kg' ⟨hv, ev, hj, ej, u3, u4, u5, hhv, hev, hl1, hl2, rfl, rfl⟩ F
     rw [Nat.zero_add, hdsTo_succ, ensTo_succ]
     have X' := X₄.up kg'
     have kD := kg' _ _ (k4 _ _ eD)
     have hP' := (hP.up k4).up kg'
     have getP : ∀ m, m < P.length → ∃ T t1 t2, ys[m]? = some (.ref T) ∧ g'.get? T = some (tupObj [.int ((P.getD m (0, 0)).1 : Int) t1, .int ((P.getD m (0, 0)).2 : Int) t2]) := by
      intro m hm
      obtain ⟨d, hd, hdt⟩ := hP'.get (i := m) (v := ys[m]'(by omega)) (by simp)
      have e : d = dPr (P.getD m (0, 0)) := by
       rw [List.getElem?_map, List.getElem?_eq_getElem hm] at hd
       rw [List.getD_eq_getElem?_getD, List.getElem?_eq_getElem hm]
       simpa using hd.symm
      subst e
      obtain ⟨T, vv, ev, eT, dT⟩ := hdt.tupInv
      cases dT with
      | cons a1 r1 => cases r1 with
       | cons a2 r2 => cases r2 with
        | nil =>
         obtain ⟨t1, rfl⟩ := a1.intInv
         obtain ⟨t2, rfl⟩ := a2.intInv
         exact ⟨T, t1, t2, by rw [← ev]; simp, eT⟩
     have hk' : k < P.length := by omega
     obtain ⟨T, q1, q2, eT1, eT2⟩ := getP k hk'
     generalize hpk : P.getD k (0, 0) = p at eT2 ⊢
     refine st3 C F fun h' F => ?_
     dsimp only
     refine wpAny_execs_cons ?_
     refine Assign_Tuple ?_
     refine Subscript_Name ?_
     refine ld0 C F ?_
     refine ld3 C F ?_
     refine itemL F.keep kD eT1 (by omega) ?_
     refine asT hA'.handled F eT2 fun h' F => ?_
     refine assignInOrder_cons (assign_Name (st4 C F fun h' F => ?_))
     refine assignInOrder_cons (assign_Name (st5 C F fun h' F => assignInOrder_nil ?_))
     dsimp only
     refine seqP (fun s₂ => ∃ h' t' g₅ hv' hj', s₂ = { s with heap := h', toks := t' } ∧ Le g' g₅ ∧ Dts g₅ hv' ((hdsTo P k ++ (if isHd P k then [p] else [])).map dPr) ∧ hv'.length ≤ k + 1 ∧
      St s.heap [] g g₅ env.locals nLC [some (.ref D), some (.ref ha), some (.ref ea), some (.int (k : Int) tk0), some (.int (p.1 : Int) q1), some (.int (p.2 : Int) q2), none, none, none, none, none, none] [(I, oI), (ea, lstObj ev ej), (ha, lstObj hv' hj')] h') ?_ ?_
     · have hpv : (if k = 0 then ys.length - 1 else k - 1) < P.length := by split <;> omega
       obtain ⟨T2, y1, y2, eT3, eT4⟩ := getP _ hpv
       have epv : P.getD (if k = 0 then ys.length - 1 else k - 1) (0, 0) = prvP P k := by unfold prvP; rw [yl]
       rw [epv] at eT4
       refine wpAny_If (wpAny_isTrue_Compare1 ?_)
       refine Subscript_BinOp ?_
       refine ld0 C F ?_
       refine wpAny_BinOp ?_
       refine ld3 C F ?_
       refine wpAny_Constant_int ?_
       refine subI ?_
       refine itemPrev F.keep kD (by omega) (by omega) eT3 ?_
       refine tupE ?_
       refine sp1 ?_
       refine wpAny_BinOp ?_
       refine ld4 C F ?_
       refine wpAny_Constant_int ?_
       refine subI ?_
       refine sp1 ?_
       refine wpAny_BinOp ?_
       refine ld5 C F ?_
       refine wpAny_Constant_int ?_
       refine subI ?_
       refine sp0 ?_
       refine newTup F fun T5 g₅ h' k5 eT5 F => ?_
       refine neD (g := g₅) F.keep (.tuple (k5 _ _ eT4) (.cons (.int _ _) (.cons (.int _ _) .nil))) (.tuple eT5 (.cons (.int _ _) (.cons (.int _ _) .nil))) rfl rfl hA'.c (wpAny_truthy_bool ?_)
       rw [eqv_pr, hd_dec]
       have ehd : isHd P k = !(decide ((prvP P k).1 + 1 = p.1) && decide ((prvP P k).2 + 1 = p.2)) := by unfold isHd; rw [hpk]
       rw [← ehd]
       cases isHd P k with
       | false =>
        refine wpAny_execs_nil ⟨rfl, _, _, g₅, hv, hj, rfl, k5, ?_, by omega, F⟩
        simp only [Bool.false_eq_true, if_false, List.append_nil]
        exact hhv.up k5
       | true =>
        rw [if_pos rfl]
        refine wpAny_execs_cons ?_
        refine wpAny_Expr ?_ C.inter
        refine appS (h₀ := s.heap) (xt := []) (g₀ := g) (L := env.locals) (N := nLC) (a := ha) (xs := hv) (j := hj) (pre := [(I, oI), (ea, lstObj ev ej)]) (post := []) (by omega) ?_
        refine ld1 C F ⟨rfl, ⟨_, (F.mt (ha, lstObj hv hj) (by simp)).1, rfl, rfl⟩, ?_⟩
        refine tupE ?_
        refine sp1 (ld4 C F ?_)
        refine sp1 (ld5 C F ?_)
        refine sp0 ?_
        refine newTup F fun T6 g₆ h' k6 eT6 F => ?_
        refine ⟨g₆, _, F, fun h' F => ?_⟩
        refine wpAny_execs_nil ⟨rfl, _, _, g₆, _, _, rfl, k5.tr k6, ?_, by simp; omega, F⟩
        rw [if_pos rfl, List.map_append]
        exact (hhv.up (k5.tr k6)).snoc (.tuple eT6 (.cons (.int _ _) (.cons (.int _ _) .nil)))
     rintro s₂ ⟨h', t', g₅, hv', hj', rfl, k5, hhv', hl1', F⟩
     refine seqP (fun s₂ => ∃ h' t' g₆ ev' ej', s₂ = { s with heap := h', toks := t' } ∧ Le g₅ g₆ ∧ Dts g₆ ev' ((ensTo P k ++ (if isEn P k then [(p.1 + 1, p.2 + 1)] else [])).map dPr) ∧ ev'.length ≤ k + 1 ∧
      St s.heap [] g g₆ env.locals nLC [some (.ref D), some (.ref ha), some (.ref ea), some (.int (k : Int) tk0), some (.int (p.1 : Int) q1), some (.int (p.2 : Int) q2), none, none, none, none, none, none] [(I, oI), (ea, lstObj ev' ej'), (ha, lstObj hv' hj')] h') ?_ ?_
     · have hnx : (k + 1) % P.length < P.length := Nat.mod_lt _ (by omega)
       obtain ⟨T2, y1, y2, eT3, eT4⟩ := getP _ hnx
       have epv : P.getD ((k + 1) % P.length) (0, 0) = nxtP P k := rfl
       rw [epv] at eT4
       have X₅ := X'.up k5
       refine wpAny_If (wpAny_isTrue_Compare1 ?_)
       refine Subscript_BinOp ?_
       refine ld0 C F ?_
       refine wpAny_BinOp ?_
       refine wpAny_BinOp ?_
       refine ld3 C F ?_
       refine wpAny_Constant_int ?_
       refine addZ (c := k + 1) (by push_cast; rfl) ?_
       refine C1 (N_len C X₅ F.keep (.tail _ (.head _)) (ld0 C F ⟨trivial, ?_⟩))
       refine lenL F.keep (k5 _ _ kD) (by omega) fun w1 w2 => ?_
       rw [yl]
       refine modN (by omega) fun w3 w4 => ?_
       refine itemL F.keep (k5 _ _ kD) eT3 (by omega) ?_
       refine tupE ?_
       refine sp1 ?_
       refine wpAny_BinOp ?_
       refine ld4 C F ?_
       refine wpAny_Constant_int ?_
       refine wpAny_add_int ?_
       refine sp1 ?_
       refine wpAny_BinOp ?_
       refine ld5 C F ?_
       refine wpAny_Constant_int ?_
       refine wpAny_add_int ?_
       refine sp0 ?_
       refine newTup F fun T5 g₆ h' k6 eT5 F => ?_
       refine neD (g := g₆) F.keep (.tuple (k6 _ _ (k5 _ _ eT4)) (.cons (.int _ _) (.cons (.int _ _) .nil))) (.tuple eT5 (.cons (.int _ _) (.cons (.int _ _) .nil))) rfl rfl hA'.c (wpAny_truthy_bool ?_)
       rw [eqv_pr, en_dec]
       have ehd : isEn P k = !(decide ((nxtP P k).1 = p.1 + 1) && decide ((nxtP P k).2 = p.2 + 1)) := by unfold isEn; rw [hpk]
       rw [← ehd]
       cases isEn P k with
       | false =>
        refine wpAny_execs_nil ⟨rfl, _, _, g₆, ev, ej, rfl, k6, ?_, by omega, F⟩
        simp only [Bool.false_eq_true, if_false, List.append_nil]
        exact hev.up (k5.tr k6)
       | true =>
        rw [if_pos rfl]
        refine wpAny_execs_cons ?_
        refine wpAny_Expr ?_ C.inter
        refine appS (h₀ := s.heap) (xt := []) (g₀ := g) (L := env.locals) (N := nLC) (a := ea) (xs := ev) (j := ej) (pre := [(I, oI)]) (post := [(ha, lstObj hv' hj')]) (by omega) ?_
        refine ld2 C F ⟨rfl, ⟨_, (F.mt (ea, lstObj ev ej) (by simp)).1, rfl, rfl⟩, ?_⟩
        refine tupE ?_
        refine sp1 ?_
        refine wpAny_BinOp ?_
        refine ld4 C F ?_
        refine wpAny_Constant_int ?_
        refine addZ (c := p.1 + 1) (by push_cast; rfl) ?_
        refine sp1 ?_
        refine wpAny_BinOp ?_
        refine ld5 C F ?_
        refine wpAny_Constant_int ?_
        refine addZ (c := p.2 + 1) (by push_cast; rfl) ?_
        refine sp0 ?_
        refine newTup F fun T6 g₇ h' k7 eT6 F => ?_
        refine ⟨g₇, _, F, fun h' F => ?_⟩
        refine wpAny_execs_nil ⟨rfl, _, _, g₇, _, _, rfl, k6.tr k7, ?_, by simp; omega, F⟩
        rw [if_pos rfl, List.map_append]
        exact (hev.up (k5.tr (k6.tr k7))).snoc (.tuple eT6 (.cons (.int _ _) (.cons (.int _ _) .nil)))
     rintro s₂ ⟨h', t', g₆, ev', ej', rfl, k6, hev', hl2', F⟩
     refine wpAny_execs_nil ?_
     exact turn_next (k5.tr k6) F ⟨hv', ev', _, _, _, _, _, hhv'.up k6, hev', hl1', hl2', rfl, rfl⟩
   · rintro g' vs' mu' h tk kg' ⟨hv, ev, hj, ej, u3, u4, u5, hhv, hev, hl1, hl2, rfl, rfl⟩ F
     rw [Nat.sub_zero] at hhv hev
     exact ⟨rfl, _, _, g', hv, ev, hj, ej, u3, u4, u5, rfl, k4.tr kg', hhv, hev, F⟩
 rintro s₂ ⟨h', t', g₄, hv, ev, hj, ej, u3, u4, u5, rfl, k4, hhv, hev, F⟩
 rw [hH] at hhv
 rw [hE] at hev
 have hvl : hv.length = R.length := by simpa using hhv.len
 have evl : ev.length = R.length := by simpa using hev.len
 obtain ⟨g₅, k5, eea, F⟩ := F.freeze (pre := []) (post := [(ha, lstObj hv hj)]) rfl hea
 obtain ⟨g₆, k6, eha, F⟩ := F.freeze (pre := []) (post := []) rfl hha
 dsimp only [List.nil_append] at F
 have eea := k6 _ _ eea
 have hhv := hhv.up (k5.tr k6)
 have hev := hev.up (k5.tr k6)
 have kk₆ := (k3.tr k4).tr (k5.tr k6)
 have X₆ := X₂.up kk₆
 refine wpAny_execs_cons ?_
 refine wpAny_Assign_Name ?_
 refine wpAny_BinOp ?_
 refine lstE ?_
 refine sp1 ?_
 refine tupE ?_
 refine sp1 (wpAny_Constant_int ?_)
 refine sp1 (wpAny_Constant_int ?_)
 refine sp0 ?_
 refine newTup F fun T0 g₇ h' k7 eT0 F => ?_
 refine sp0 ?_
 refine newLst F fun L0 g₈ h' k8 eL0 F => ?_
 refine ld2 C F ?_
 refine addL F eL0 (k8 _ _ (k7 _ _ eea)) (by simp; omega) fun bg g₉ h' k9 ebg F => ?_
 refine st6 C F fun h' F => ?_
 dsimp only
 have hbg : Dts g₉ ([Value.ref T0] ++ ev) (((0, 0) :: R.map fun r => (r.1 + r.2.2, r.2.1 + r.2.2)).map dPr) := by
  refine .cons (.tuple (k9 _ _ (k8 _ _ eT0)) (.cons (.int _ _) (.cons (.int _ _) .nil))) (hev.up (k7.tr (k8.tr k9)))
 have X₉ := X₆.up (k7.tr (k8.tr k9))
 have kk₉ := kk₆.tr (k7.tr (k8.tr k9))
 refine wpAny_execs_cons ?_
 refine wpAny_Assign_Name ?_
 refine wpAny_BinOp ?_
 refine ld1 C F ?_
 refine lstE ?_
 refine sp1 ?_
 refine tupE ?_
 refine sp1 ?_
 refine C1 (N_len C X₉ F.keep (.tail _ (.head _)) ?_)
 refine ldC K1 F.keep (kk₉ _ _ e1) hd1' ⟨trivial, ?_⟩
 refine lenL F.keep (kk₉ _ _ el1) (by omega) fun w1 w2 => ?_
 refine sp1 ?_
 refine C1 (N_len C X₉ F.keep (.tail _ (.head _)) ?_)
 refine ldC K2 F.keep (kk₉ _ _ e2) hd2' ⟨trivial, ?_⟩
 refine lenL F.keep (kk₉ _ _ el2) (by omega) fun w3 w4 => ?_
 rw [len1, len2]
 refine sp0 ?_
 refine newTup F fun T1 g₁₀ h' k10 eT1 F => ?_
 refine sp0 ?_
 refine newLst F fun L1' g₁₁ h' k11 eL1 F => ?_
 have k7_11 := (k7.tr (k8.tr k9)).tr (k10.tr k11)
 refine addL F (k7_11 _ _ eha) eL1 (by simp; omega) fun sg g₁₂ h' k12 esg F => ?_
 refine st7 C F fun h' F => ?_
 dsimp only
 have hsg : Dts g₁₂ (hv ++ [Value.ref T1]) ((R.map (fun r => (r.1, r.2.1)) ++ [(L1.length, L2.length)]).map dPr) := by
  rw [List.map_append]
  exact (hhv.up (k7_11.tr k12)).append (.cons (.tuple (k12 _ _ (k11 _ _ eT1)) (.cons (.int _ _) (.cons (.int _ _) .nil))) .nil)
 have hbg := hbg.up (k10.tr (k11.tr k12))
 have ebg := (k10.tr (k11.tr k12)) _ _ ebg
 have X₁₂ := X₉.up (k10.tr (k11.tr k12))
 refine wpAny_execs_cons ?_
 refine wpAny_Assign_Name ?_
 refine lstE (sp0 ?_)
 refine newOwn F fun ca h' F hca => ?_
 refine st8 C F fun h' F => ?_
 dsimp only
 have bl : ([Value.ref T0] ++ ev).length = R.length + 1 := by simp [evl]
 have sl : (hv ++ [Value.ref T1]).length = R.length + 1 := by simp [hvl]
 refine seqP (fun s₂ => ∃ h' t' g₁₃ cv cj u3 u4 u5 u9 u10 u11, s₂ = { s with heap := h', toks := t' } ∧ Le g₁₂ g₁₃ ∧ Dts g₁₃ cv ((allFrom 0 0 (R ++ [(L1.length, L2.length, 0)])).map dOp) ∧ cv.length ≤ 200 ∧
  St s.heap [] g g₁₃ env.locals nLC [some (.ref D), some (.ref ha), some (.ref ea), u3, u4, u5, some (.ref bg), some (.ref sg), some (.ref ca), u9, u10, u11] [(ca, lstObj cv cj)] h') ?_ ?_
 · refine For_ ?_
   refine C1 (N_range C X₁₂ F.keep (.head _) ?_)
   refine C1 (N_len C X₁₂ F.keep (.tail _ (.head _)) (ld7 C F ⟨trivial, ?_⟩))
   refine lenL F.keep esg (by omega) fun w5 w6 => ⟨trivial, ?_⟩
   rw [sl]
   refine rng1 F fun rr g₁₃ h' r1 r2 r3 rk k13 err F => ?_
   have X₁₃ := X₁₂.up k13
   refine each_range (a := 0) (b := R.length + 1) (fun i g' vs' mu' => ∃ cv cj u3 u4 u5 u9 u10 u11, Dts g' cv ((allFrom 0 0 ((R ++ [(L1.length, L2.length, 0)]).take i)).map dOp) ∧ cv.length ≤ 2 * i ∧ vs' = [some (.ref D), some (.ref ha), some (.ref ea), u3, u4, u5, some (.ref bg), some (.ref sg), some (.ref ca), u9, u10, u11] ∧ mu' = [(ca, lstObj cv cj)]) hA'.handled F err (by omega) (by omega) ⟨[], 0, _, _, _, none, none, none, .nil, by simp, rfl, rfl⟩ ?_ ?_
   · rintro k tk0 g' vs' mu' I oI h tk hk kg' ⟨cv, cj, u3, u4, u5, u9, u10, u11, hcv, hcl, rfl, rfl⟩ F
     rw [Nat.zero_add]
     have hk2 : k ≤ R.length := by omega
     have hkB : k < (R ++ [(L1.length, L2.length, 0)]).length := by simp; omega
     obtain ⟨r, hr⟩ : ∃ r, (R ++ [(L1.length, L2.length, 0)])[k]? = some r := ⟨_, List.getElem?_eq_getElem hkB⟩
     have etk : (R ++ [(L1.length, L2.length, 0)]).take (k + 1) = (R ++ [(L1.length, L2.length, 0)]).take k ++ [r] := by rw [List.take_add_one, hr]; rfl
     rw [etk, allFrom_snoc]
     have hb := beg_at L1.length L2.length R k hk2
     have hmono : (endOf 0 0 ((R ++ [(L1.length, L2.length, 0)]).take k)).1 ≤ r.1 ∧ (endOf 0 0 ((R ++ [(L1.length, L2.length, 0)]).take k)).2 ≤ r.2.1 := end_mono hsep hin k r hr
     generalize endOf 0 0 ((R ++ [(L1.length, L2.length, 0)]).take k) = ij at hb hmono ⊢
     have hs : (R.map (fun r => (r.1, r.2.1)) ++ [(L1.length, L2.length)])[k]? = some (r.1, r.2.1) := by
      have e : R.map (fun r => (r.1, r.2.1)) ++ [(L1.length, L2.length)] = (R ++ [(L1.length, L2.length, 0)]).map (fun r : Run => (r.1, r.2.1)) := by rw [List.map_append]; rfl
      rw [e, List.getElem?_map, hr]; rfl
     have X' := X₁₃.up kg'
     have two : ∀ (vs : List Value) (ps : List (Nat × Nat)) (m : Nat) (q : Nat × Nat), Dts g' vs (ps.map dPr) → ps[m]? = some q → ∃ T t1 t2, vs[m]? = some (.ref T) ∧ g'.get? T = some (tupObj [.int (q.1 : Int) t1, .int (q.2 : Int) t2]) := by
      intro vs ps m q hv hq
      have hm : m < vs.length := by have := hv.len; have := (List.getElem?_eq_some_iff.mp hq).1; simp at *; omega
      obtain ⟨d, hd, hdt⟩ := hv.get (i := m) (v := vs[m]) (by simp [hm])
      have e : d = dPr q := by rw [List.getElem?_map, hq] at hd; simpa using hd.symm
      subst e
      obtain ⟨T, vv, ev, eT, dT⟩ := hdt.tupInv
      cases dT with
      | cons a1 r1 => cases r1 with
       | cons a2 r2 => cases r2 with
        | nil =>
         obtain ⟨t1, rfl⟩ := a1.intInv
         obtain ⟨t2, rfl⟩ := a2.intInv
         exact ⟨T, t1, t2, by rw [← ev]; simp [hm], eT⟩
     obtain ⟨TB1, x1, x2, eB1, eB2⟩ := two _ _ k ij ((hbg.up k13).up kg') hb
     obtain ⟨TS1, y1, y2, eS1, eS2⟩ := two _ _ k (r.1, r.2.1) ((hsg.up k13).up kg') hs
     refine st3 C F fun h' F => ?_
     dsimp only
     refine wpAny_execs_cons ?_
     refine Assign_Tuple ?_
     refine Subscript_Name ?_
     refine ld6 C F ?_
     refine ld3 C F ?_
     refine itemL F.keep (kg' _ _ (k13 _ _ ebg)) eB1 (by omega) ?_
     refine asT hA'.handled F eB2 fun h' F => ?_
     refine assignInOrder_cons (assign_Name (st9 C F fun h' F => ?_))
     refine assignInOrder_cons (assign_Name (st10 C F fun h' F => assignInOrder_nil ?_))
     dsimp only
     refine wpAny_execs_cons ?_
     refine Assign_Tuple ?_
     refine Subscript_Name ?_
     refine ld7 C F ?_
     refine ld3 C F ?_
     refine itemL F.keep (kg' _ _ (k13 _ _ esg)) eS1 (by omega) ?_
     refine asT hA'.handled F eS2 fun h' F => ?_
     refine assignInOrder_cons (assign_Name (st4 C F fun h' F => ?_))
     refine assignInOrder_cons (assign_Name (st5 C F fun h' F => assignInOrder_nil ?_))
     dsimp only
     obtain ⟨i0, j0⟩ := ij
     dsimp only at hmono F ⊢
     refine wpAny_execs_cons ?_
     refine wpAny_Assign_Name ?_
     refine SubB ?_
     refine lstE ?_
     refine sp1 (Constant_str ?_)
     refine sp1 (Constant_str ?_)
     refine sp1 (Constant_str ?_)
     refine sp1 (Constant_str ?_)
     refine sp0 ?_
     refine newLst F fun tl g₁₄ h' k14 etl F => ?_
     refine wpAny_BinOp ?_
     refine wpAny_BinOp ?_
     refine wpAny_Constant_int ?_
     refine C2 (N_min C (X'.up k14) F.keep (.tail _ (.tail _ (.head _))) ?_)
     refine wpAny_Constant_int ?_
     refine wpAny_BinOp ?_
     refine ld4 C F ?_
     refine ld9 C F ?_
     refine subI ⟨trivial, ?_⟩
     refine minN (c := if i0 < r.1 then 1 else 0) hA'.handled F (by split <;> split <;> omega) fun h' t5 k5 F => ?_
     refine mulZ (c := 2 * (if i0 < r.1 then 1 else 0)) (by split <;> rfl) (.of_left (by decide)) ?_
     refine C2 (N_min C (X'.up k14) F.keep (.tail _ (.tail _ (.head _))) ?_)
     refine wpAny_Constant_int ?_
     refine wpAny_BinOp ?_
     refine ld5 C F ?_
     refine ld10 C F ?_
     refine subI ⟨trivial, ?_⟩
     refine minN (c := if j0 < r.2.1 then 1 else 0) hA'.handled F (by split <;> split <;> omega) fun h' t6 k6 F => ?_
     refine addZ (c := 2 * (if i0 < r.1 then 1 else 0) + (if j0 < r.2.1 then 1 else 0)) (by push_cast; rfl) ?_
     refine itemTag F.keep etl fun tt => ?_
     refine st11 C F fun h' F => ?_
     dsimp only
     refine wpAny_execs_cons ?_
     refine wpAny_Expr ?_ C.inter
     refine appS (h₀ := s.heap) (xt := []) (g₀ := g) (L := env.locals) (N := nLC) (a := ca) (xs := cv) (j := cj) (pre := [(I, oI)]) (post := []) (by omega) ?_
     refine ld8 C F ⟨rfl, ⟨_, (F.mt (ca, lstObj cv cj) (by simp)).1, rfl, rfl⟩, ?_⟩
     refine tupE ?_
     refine sp1 (ld11 C F ?_)
     refine sp1 (ld9 C F ?_)
     refine sp1 (ld4 C F ?_)
     refine sp1 (ld10 C F ?_)
     refine sp1 (ld5 C F ?_)
     refine sp0 ?_
     refine newTup F fun T2 g₁₅ h' k15 eT2 F => ?_
     refine ⟨g₁₅, _, F, fun h' F => ?_⟩
     have hcv5 := (hcv.up (k14.tr k15)).snoc (.tuple eT2 (.cons (.str _ _) (.cons (.int _ _) (.cons (.int _ _) (.cons (.int _ _) (.cons (.int _ _) .nil))))))
     have kA := (k7_11.tr k12).tr (k13.tr (kg'.tr (k14.tr k15)))
     refine wpAny_execs_cons ?_
     refine wpAny_If (wpAny_isTrue_Compare1 ?_)
     refine ld3 C F ?_
     refine C1 (N_len C (X₆.up kA) F.keep (.tail _ (.head _)) (ld1 C F ⟨trivial, ?_⟩))
     refine lenL F.keep (kA _ _ eha) (by omega) fun w1 w2 => ?_
     refine ltI (wpAny_truthy_bool ?_)
     rw [hvl]
     by_cases hkR : k < R.length
     · rw [if_pos (by simpa using hkR)]
       have hrk : R[k] = r := by rw [List.getElem?_append_left hkR, List.getElem?_eq_getElem hkR] at hr; exact Option.some.inj hr
       have hpos : 0 < r.2.2 := by have := hin _ (List.getElem_mem hkR); rw [hrk] at this; exact this.2.2
       have he : (R.map fun r => (r.1 + r.2.2, r.2.1 + r.2.2))[k]? = some (r.1 + r.2.2, r.2.1 + r.2.2) := by rw [List.getElem?_map, List.getElem?_eq_getElem hkR, hrk]; rfl
       obtain ⟨TE, z1, z2, eE1, eE2⟩ := two _ _ k (r.1 + r.2.2, r.2.1 + r.2.2) (hev.up ((k7_11.tr k12).tr (k13.tr kg'))) he
       have eE2 := (k14.tr k15) _ _ eE2
       refine wpAny_execs_cons ?_
       refine wpAny_Expr ?_ C.inter
       refine appS (h₀ := s.heap) (xt := []) (g₀ := g) (L := env.locals) (N := nLC) (a := ca) (xs := cv ++ [Value.ref T2]) (j := cj + 1) (pre := [(I, oI)]) (post := []) (by simp; omega) ?_
       refine ld8 C F ⟨rfl, ⟨_, (F.mt (ca, lstObj _ _) (.tail _ (.head _))).1, rfl, rfl⟩, ?_⟩
       refine tupE ?_
       refine sp1 (Constant_str ?_)
       refine sp1 (ld4 C F ?_)
       refine sp1 ?_
       refine SubK ?_
       refine Subscript_Name ?_
       refine ld2 C F ?_
       refine ld3 C F ?_
       refine itemL F.keep (kA _ _ eea) eE1 (by omega) ?_
       refine wpAny_Constant_int ?_
       refine itemT (i := 0) F.keep eE2 rfl (by omega) ?_
       refine sp1 (ld5 C F ?_)
       refine sp1 ?_
       refine SubK ?_
       refine Subscript_Name ?_
       refine ld2 C F ?_
       refine ld3 C F ?_
       refine itemL F.keep (kA _ _ eea) eE1 (by omega) ?_
       refine wpAny_Constant_int ?_
       refine itemT (i := 1) F.keep eE2 rfl (by omega) ?_
       refine sp0 ?_
       refine newTup F fun T3 g₁₆ h' k16 eT3 F => ?_
       refine ⟨g₁₆, _, F, fun h' F => ?_⟩
       refine wpAny_execs_nil (wpAny_execs_nil ?_)
       refine turn_next (k14.tr (k15.tr k16)) F ⟨_, _, _, _, _, _, _, _, ?_, ?_, rfl, rfl⟩
       · have e : allStep i0 j0 r = [(tagOf (decide (i0 < r.1)) (decide (j0 < r.2.1)), i0, r.1, j0, r.2.1), (("equal" : Str), r.1, r.1 + r.2.2, r.2.1, r.2.1 + r.2.2)] := by
          unfold allStep; rw [if_pos hpos]; rfl
         rw [e, List.map_append]
         rw [show ∀ (a : List PyData) (x y : Op), a ++ [x, y].map dOp = (a ++ [dOp x]) ++ [dOp y] from fun a x y => by simp]
         exact (hcv5.up k16).snoc (.tuple eT3 (.cons (.str _ _) (.cons (.int _ _) (.cons (.int _ _) (.cons (.int _ _) (.cons (.int _ _) .nil))))))
       · simp only [List.length_append, List.length_singleton]; omega
     · rw [if_neg (by simpa using hkR)]
       have hz : r.2.2 = 0 := by
        have : k = R.length := by omega
        subst this
        rw [List.getElem?_append_right (Nat.le_refl _), Nat.sub_self] at hr
        rw [← Option.some.inj hr]
       refine wpAny_execs_nil (wpAny_execs_nil ?_)
       refine turn_next (k14.tr k15) F ⟨_, _, _, _, _, _, _, _, ?_, ?_, rfl, rfl⟩
       · have e : allStep i0 j0 r = [(tagOf (decide (i0 < r.1)) (decide (j0 < r.2.1)), i0, r.1, j0, r.2.1)] := by
          unfold allStep; rw [if_neg (by omega), List.append_nil]
         rw [e, List.map_append]
         exact hcv5
       · simp only [List.length_append, List.length_singleton]; omega
   · rintro g' vs' mu' h tk kg' ⟨cv, cj, u3, u4, u5, u9, u10, u11, hcv, hcl, rfl, rfl⟩ F
     rw [Nat.sub_zero, List.take_of_length_le (by simp)] at hcv
     exact ⟨rfl, _, _, g', cv, cj, u3, u4, u5, u9, u10, u11, rfl, k13.tr kg', hcv, by omega, F⟩
 rintro s₂ ⟨h', t', g₁₃, cv, cj, u3, u4, u5, u9, u10, u11, rfl, k13, hcv, hcl, F⟩
 have X₁₃ := X₁₂.up k13
 obtain ⟨g₁₄, k14, eca, F⟩ := F.freeze (pre := []) (post := []) rfl hca
 dsimp only [List.nil_append] at F
 have hcv := hcv.up k14
 generalize hAq : allFrom 0 0 (R ++ [(L1.length, L2.length, 0)]) = AL at hcv
 have hAL : opsFrom 0 0 (R ++ [(L1.length, L2.length, 0)]) = AL.filter (fun c : Op => decide (c.1 ≠ ("" : Str))) := by rw [← hAq, all_ops]
 rw [hAL]
 have cvl : cv.length = AL.length := by simpa using hcv.len
 refine wpAny_execs_cons ?_
 refine wpAny_Return_some ?_
 refine evLst (h₀ := s.heap) (xt := []) (g₀ := g) (L := env.locals) (N := nLC) (l := ca) (k := cj) (items := cv) (cl := []) ["code"] [] (fun i g' ws => Dts g' ws (((AL.take i).filter (fun c : Op => decide (c.1 ≠ ("" : Str)))).map dOp)) hA'.handled (by decide +kernel) rfl C (by rw [sizeLine_eq]; omega) ?_
 refine ld8 C F ⟨rfl, g₁₄, _, _, F, eca, .nil, cturn ?_, ?_⟩
 · rintro i v s1 g' us ys I oI C' D' h tk hi kg' hys hus Cc F
   obtain ⟨u0, rfl⟩ := List.length_eq_one_iff.mp hus
   obtain ⟨d, hd, hdt⟩ := (hcv.up kg').get hi
   obtain ⟨c, hc, rfl⟩ : ∃ x, AL[i]? = some x ∧ dOp x = d := by simpa using hd
   have hdt₀ := hdt
   obtain ⟨T, vv, rfl, eT, dT⟩ := hdt.tupInv
   refine st0 Cc F fun h' F => ?_
   refine tests1 ?_
   refine wpAny_isTrue_Compare1 ?_
   refine SubK ?_
   refine ld0 Cc F ?_
   refine wpAny_Constant_int ?_
   cases dT with
   | cons a1 r1 =>
    obtain ⟨t1, rfl⟩ := a1.strInv
    refine itemT (i := 0) F.keep eT rfl (by omega) ?_
    refine Constant_str ?_
    refine neS (wpAny_truthy_bool ?_)
    have e : ((AL.take (i + 1)).filter (fun c : Op => decide (c.1 ≠ ("" : Str)))) = ((AL.take i).filter (fun c : Op => decide (c.1 ≠ ("" : Str)))) ++ (if c.1 ≠ ("" : Str) then [c] else []) := by
     rw [List.take_add_one, hc, List.filter_append]
     by_cases q : c.1 = ("" : Str) <;> simp [q]
    rw [e]
    by_cases q : c.1 = ("" : Str)
    · rw [if_neg (by simp [q]), if_neg (by simp [q]), List.append_nil]
      exact cEnd Le.rfl' F hys
    · rw [if_pos (by simp [q]), if_pos q, List.map_append]
      refine ld0 Cc F ?_
      exact cEnd Le.rfl' F (hys.snoc hdt₀)
 intro g₃' g₁₅ D h' tk ys k15 k3' hys eD F
 rw [cvl, List.take_length] at hys
 exact ends F (.list eD (hys.up k3'))
end
theorem pick_mid (vs : List Value) (i j : Nat) (hij : i ≤ j) : slicePick vs.toArray (some (i : Int)) (some (j : Int)) none = ((vs.take j).drop i).toArray := by
 have e : sliceBounds (some (i : Int)) (some (j : Int)) none vs.toArray.size = (((min i vs.toArray.size : Nat) : Int), ((min j vs.toArray.size : Nat) : Int), 1) := by
  simp only [sliceBounds, Option.getD_none, show (1 : Int) > 0 by decide, if_true, if_neg (show ¬ ((i : Int) < 0) by omega), if_neg (show ¬ ((j : Int) < 0) by omega)]
  congr 1
  · omega
  congr 1
  omega
 rw [kmk_pick_nat _ e]
 rw [List.size_toArray]
 congr 1
 apply List.ext_getElem?
 intro m
 simp only [List.getElem?_take, List.getElem?_drop]
 by_cases h1 : m < min j vs.length - min i vs.length
 · rw [if_pos h1, if_pos (by omega), show min i vs.length + m = i + m by omega]
 · rw [if_neg h1]
   by_cases h2 : i + m < j
   · rw [if_pos h2, List.getElem?_eq_none (by omega)]
   · rw [if_neg h2]
section
variable {prog : Program} {w : World} {A : Around} {s : Shared} {env : Env} {E : Value → Shared → Prop}
variable {h₀ g₀ g : Heap} {xt : List Addr} {L : Addr} {N Gl : List Str} {vs : List (Option Value)} {mu : List (Addr × Obj)}
theorem lsl_mid {o e₁ e₂ : Expr} {p pos : Pos} {Q : Value → Shared → Prop}
 (h : wpAny (model prog w) A (eval o env) (fun ov s₁ => wpAny (model prog w) A (eval e₁ env) (fun e1 s₂ => wpAny (model prog w) A (eval e₂ env) (fun ev s₂ => ∃ l items k i j u1 u g₁ mu₁ vs₁, ov = .ref l ∧ e1 = .int ((i : Nat) : Int) u1 ∧ ev = .int ((j : Nat) : Int) u ∧ i ≤ j ∧ items.length ≤ 16777216 ∧ g₁.get? l = some (lstObj items k) ∧ St h₀ xt g₀ g₁ L N vs₁ mu₁ s₂.heap ∧
  ∀ D g' h', Le g₁ g' → g'.get? D = some (lstObj ((items.take j).drop i) 0) → St h₀ xt g₀ g' L N vs₁ mu₁ h' → Q (.ref D) { s₂ with heap := h' }) E s₂) E s₁) E s) (ht : ∀ o' r, letTemporaryGo o o' r = pure () := by intro _ _; rfl) :
 wpAny (model prog w) A (eval (.Subscript o (.Slice (some e₁) (some e₂) none p) pos) env) Q E s := by
 refine wpAny_Subscript_list_slice (wpAny_mono h (fun ov s₁ h₁ => ?_) fun _ _ e => e) ht
 rw [evalPart_some, evalPart_some]
 refine wpAny_mono h₁ (fun e1 s₂ h₂ => ?_) fun _ _ e => e
 refine wpAny_mono h₂ (fun ev s₃ h₃ => ?_) fun _ _ e => e
 obtain ⟨l, items, k, i, j, u1, u, g₁, mu₁, vs₁, rfl, rfl, rfl, hij, hsz, hl, F, hq⟩ := h₃
 refine ⟨l, items.toArray, some (i : Int), some (j : Int), rfl, ⟨_, F.keep _ _ hl, rfl, _, rfl⟩, by show _ ≤ 16777216; simpa using hsz, .int _ _, .int _ _, ?_⟩
 rw [pick_mid _ _ _ hij]
 have F₁ := F.more (le_push s₃.heap { cls := .type "slice", data := .fields #[.int ((i : Nat) : Int) u1, .int ((j : Nat) : Int) u, .none] })
 obtain ⟨g', k', eD, F₂⟩ := F₁.made (lstObj ((items.take j).drop i) 0)
 have es : (s₃.heap.push { cls := .type "slice", data := .fields #[.int ((i : Nat) : Int) u1, .int ((j : Nat) : Int) u, .none] }).objs.size = s₃.heap.objs.size + 1 := Heap.size_push ..
 rw [es] at eD
 exact hq _ g' _ k' eD F₂
theorem ifExp {t b o : Expr} {p : Pos} {Q : Value → Shared → Prop} (h : wpAny (model prog w) A (isTrue t env (eval t env)) (fun c s₁ => wpAny (model prog w) A (if c then eval b env else eval o env) Q E s₁) E s) : wpAny (model prog w) A (eval (.IfExp t b o p) env) Q E s := by
 rw [arm_eval_IfExp]
 exact wpAny_bind (wpAny_mono h (fun c s₁ h₁ => h₁) fun _ _ e => e)
theorem modZ {x : Int} {b : Nat} {t u : Tok} {Q : Value → Shared → Prop} (hb : 0 < b) (h : ∀ t' k, Q (.int (((x.fmod b).toNat : Nat) : Int) t') { s with toks := k }) : wpAny (model prog w) A (binaryOp .Mod (.int x t) (.int (b : Int) u)) Q E s := by
 refine mod_int (by omega) ?_
 have e : Int.fmod x (b : Int) = (((x.fmod b).toNat : Nat) : Int) := by
  have : 0 ≤ Int.fmod x (b : Int) := by rw [Int.fmod_eq_emod_of_nonneg _ (by omega)]; exact Int.emod_nonneg _ (by omega)
  omega
 rw [e]; exact h _ _
abbrev emDict : Obj := { cls := .type "dict", data := .dict #[] }
theorem tc_new {g : Array GenState} {d : Drawn} {t : Nat} {os : OsState} {h : Heap} {mN : Str → Option Value} {rest : List Value} {fI : Addr} {oI : Obj} {Q : Value → Shared → Prop}
 (hC : h.get? 242 = some smCls) (hn : h.Ns 241 mN) (hi : mN "__init__" = some (.ref fI)) (hfI : h.get? fI = some oI) (hfc : oI.cls = .type "function")
 (hq : wpAny (model prog w) (A.under (.builtin "type.__call__" ⟨.ref 242 :: rest, []⟩)) (call (.ref fI) (.ref (h.objs.size + 1) :: rest)) (fun r s' => r = .none ∧ Q (.ref (h.objs.size + 1)) s') E ⟨(h.push emDict).push (instO h.objs.size), g, d, t, os⟩) :
 wpAny (model prog w) A (call (.ref 242) rest) Q E ⟨h, g, d, t, os⟩ := by
 have F := F.objNew
 have f1 := tc_lookup
 have f2 := tc_bind (.ref 242)
 have hT : (⟨h, g, d, t, os⟩ : Shared).TypeIs (.ref 242) "type" := ⟨_, hC, rfl⟩
 refine wpAny_call (codeAny_of_tree ?_)
 show wpAny _ _ (callAny (.ref 242) _) _ _ _
 repeat (any_goals (first | assumption | with_reducible refine wpAny_loadPart_at hC ?_ | wp_step))
 refine ⟨rfl, ?_⟩
 refine codeAny_call_builtin_at (Code.quiet_builtin _ (by decide +kernel)) entry_typeCall (wpAny_check_type_call_sub hC ?_)
 have hmro : mroOf (.type "object") = pure [.type "object"] := by kernel_rfl
 have hlk : typeLookup (.type "object") "__init__" = pure (some (.builtin "object.__init__")) := by rw [typeLookup_type, builtinLookup_eq_fast]; kernel_rfl
 repeat (first | with_reducible refine wpAny_loadPart_at hC ?_ | with_reducible refine wpAny_madeBy_exc hC ?_ | wp_step)
 refine codeAny_call_builtin_code (Code.quiet_builtin _ F.quiet) (wpAny_check_obj_new F hC ?_)
 refine codeAny_obj_new F hC hn hi ?_
 show wpAny _ _ _ _ _ _
 have hC₁ := Heap.get?_push_of_some (instO h.objs.size) (Heap.get?_push_of_some emDict hC)
 have hfI₁ := Heap.get?_push_of_some (instO h.objs.size) (Heap.get?_push_of_some emDict hfI)
 have hn₁ : ((h.push emDict).push (instO h.objs.size)).Ns 241 mN :=
  let ⟨o, es, ep, e, r⟩ := hn; ⟨o, es, ep, Heap.get?_push_of_some _ (Heap.get?_push_of_some _ e), r⟩
 have hget : ((h.push emDict).push (instO h.objs.size)).get? (h.objs.size + 1) = some (instO h.objs.size) := by heap_get
 have hcC : (Value.ref 242 :: [Value.type "object"]).contains (.ref 242) = true := by simp
 unfold isInstance
 repeat (first | with_reducible refine wpAny_loadPart_at hget ?_ | (with_reducible refine wpAny_isSubtype_exc hC₁ ?_; rw [hcC]) | wp_step)
 show wpAny _ _ (typeLookup (.ref 242) _) _ _ _
 refine wpAny_typeLookup_exc hC₁ hn₁ hmro hlk ?_
 rw [hi]
 refine wpAny_holding (wpAny_bind ?_)
 unfold bindSpecial
 refine wpAny_bind (wpAny_typeOf (T := "function") ⟨_, hfI₁, hfc⟩ ?_)
 rw [if_pos (by decide)]
 refine wpAny_pure (wpAny_bind (wpAny_mono hq (fun r s' hr => ?_) fun _ _ x => x))
 obtain ⟨rfl, hQ⟩ := hr
 wp_walk
 exact hQ
end
abbrev nLaw : List Str := ["script", "x", "places", "hung", "rows", "paths", "deed", "which", "front", "old", "new", "before", "after", "one", "two", "matcher", "i", "j", "size", "there", "back", "due", "longest"]
abbrev glLaw : List Str := ["len", "_law_place", "_law_done", "_law_carried", "_law_path", "_law_listing", "SequenceMatcher", "_law_codes", "min"]
def plOf (x : Int) : Pl := placeN (x.fmod 100000).toNat
def numsOf (xs : List Int) : List Int := [1, 5, 42, 71, 17] ++ (xs.take 5).drop 2
def P0 (xs : List Int) : List Pl := (numsOf xs).map plOf
theorem fmod_lt (x : Int) : (x.fmod 100000).toNat < 100000 := by
 have h1 : 0 ≤ Int.fmod x 100000 := by rw [Int.fmod_eq_emod_of_nonneg _ (by omega)]; exact Int.emod_nonneg _ (by omega)
 have h2 : Int.fmod x 100000 < 100000 := by rw [Int.fmod_eq_emod_of_nonneg _ (by omega)]; exact Int.emod_lt_of_pos _ (by omega)
 omega
theorem placeN_good (m : Nat) : GoodPl (placeN m) ∧ (placeN m).length ≤ 3 := by
 have hl : (placeN m).length ≤ 3 := by unfold placeN; rw [List.length_map, List.length_range]; omega
 refine ⟨⟨by omega, fun n hn => ?_⟩, hl⟩
 unfold placeN at hn
 obtain ⟨i, hi, rfl⟩ := List.mem_map.mp hn
 have h5 : m / 4 / 5 ^ i % 5 < 5 := Nat.mod_lt _ (by omega)
 generalize m / 4 / 5 ^ i % 5 = q at h5
 unfold kindsN nameList
 rcases q with _ | _ | _ | _ | _ | q
 · exact List.mem_append_left _ (.head _)
 · exact List.mem_append_left _ (.tail _ (.head _))
 · exact List.mem_append_left _ (.tail _ (.tail _ (.head _)))
 · exact List.mem_append_left _ (.tail _ (.tail _ (.tail _ (.head _))))
 · exact List.mem_append_right _ (List.mem_map.mpr ⟨m / 500 % 256, List.mem_range.mpr (Nat.mod_lt _ (by omega)), rfl⟩)
 · omega
theorem P0_good (xs : List Int) : ∀ p ∈ P0 xs, GoodPl p ∧ p.length ≤ 3 := by
 intro p hp
 obtain ⟨x, hx, rfl⟩ := List.mem_map.mp hp
 exact placeN_good _
theorem P0_len (xs : List Int) : (P0 xs).length ≤ 8 ∧ 0 < (P0 xs).length := by
 unfold P0 numsOf
 simp only [List.length_map, List.length_append, List.length_cons, List.length_nil, List.length_drop, List.length_take]
 omega
section
variable {prog : Program} {w : World} {A : Around} {s : Shared} {env : Env} {E : Value → Shared → Prop}
variable {h₀ g₀ g : Heap} {xt : List Addr} {N Gl Go No : List Str} {vs : List (Option Value)} {mu : List (Addr × Obj)}
theorem asLstE {elt iter : Expr} {x y : Str} {p py : Pos} {ifs : List Expr} {scope : Scope} {pos spos : Pos} {cl : List (Str × Addr)} {j : Nat} {Q : Flow → Shared → Prop}
 (Nn Gl : List Str) (J : Nat → Heap → List Value → Prop) (hh : A.handled = none) (hc : chkC scope Nn Gl = true) (hclo : clo env.cells scope.names [] = some cl) (C₀ : Cx env N Go) (hy : N[j]? = some y)
 (hl : (py.line == pos.line && !(scope.names.any fun (n, k) => n == y && (k == .local || k == .cell))) = true)
 (h : wpAny (model prog w) A (eval iter env) (fun xv s₁ => ∃ l items k, xv = .ref l ∧ items.length ≤ sizeLine ∧ ∃ g₁ vs₁ mu₁, St h₀ xt g₀ g₁ env.locals N vs₁ mu₁ s₁.heap ∧ g₁.get? l = some (lstObj items k) ∧ J 0 g₁ [] ∧ CTurn prog w A env scope cl elt (.Name x p) ifs Nn Gl g₁ (fun i v => items[i]? = some v) J ∧
  ∀ g' g₂ D h' tk ys, Le g₁ g₂ → Le g' g₂ → J items.length g' ys → g₂.get? D = some (lst ys) → St h₀ xt g₀ g₂ env.locals N (vs₁.set j (some (.ref D))) mu₁ h' → Q .next { s₁ with heap := h', toks := tk }) no s)
 (hs : ∀ x, foldedSetIterable iter env x = pure x := by intro _; rfl) :
 wpAny (model prog w) A (exec (.Assign [.Name y py] (.ListComp elt [⟨.Name x p, iter, ifs, 0⟩] scope pos) spos) env) Q E s := by
 refine asComp Nn Gl hc hclo (swaps C₀ hy hl) (wpAny_mono h (fun xv s₁ h₁ => ?_) fun _ _ e => e) hs
 obtain ⟨l, items, k, rfl, hn, g₁, vs₁, mu₁, F, hl, hj, turn, done⟩ := h₁
 exact cmpS_list (Q := Q) J hh hc C₀ F hl hj hn turn hy fun g' g₂ D h' tk ys a b c d e => done g' g₂ D h' tk ys a b c d e
end
section
variable {w : World} {A : Around} {s : Shared} {env : Env} {E : Value → Shared → Prop}
variable {h₀ g₀ g : Heap} {n : Nat} {Q : Flow → Shared → Prop}
set_option maxHeartbeats 4000000 in
theorem ph1 (X : Sm2 g) (hA : Ok A (n + 9)) (C : Cx env nLaw glLaw) {ls : Addr} {sv : List Value} {ks : Nat} {xs : List Int} (els : g.get? ls = some (lstObj sv ks)) (hsv : Dts g sv (xs.map .int)) (hxs : xs.length ≤ 63)
 (F : St h₀ [] g₀ g env.locals nLaw [some (.ref ls), none, none, none, none, none, none, none, none, none, none, none, none, none, none, none, none, none, none, none, none, none, none] [] s.heap)
 (h : ∀ g' pl hu h' t', Le g g' → Dt g' pl (dRows (P0 xs)) → Dt g' hu (dTexts (P0 xs)) →
  St h₀ [] g₀ g' env.locals nLaw [some (.ref ls), none, some pl, some hu, some pl, some hu, none, none, none, none, none, none, none, none, none, none, none, none, none, none, none, none, none] [] h' →
  wpAny (model pw w) A (execs (bodyLaw.drop 4) env) Q E { s with heap := h', toks := t' }) :
 wpAny (model pw w) A (execs bodyLaw env) Q E s := by
 have svl : sv.length = xs.length := by simpa using hsv.len
 refine wpAny_execs_cons ?_
 refine asLstE (h₀ := h₀) (xt := []) (g₀ := g₀) (cl := []) (j := 2) ["x"] ["_law_place"] (fun i g' zs => Dts g' zs ((((numsOf xs).take i).map plOf).map dPlace)) hA.handled (by decide +kernel) rfl C rfl rfl ?_
 refine wpAny_BinOp ?_
 refine lstE ?_
 refine sp1 (wpAny_Constant_int ?_)
 refine sp1 (wpAny_Constant_int ?_)
 refine sp1 (wpAny_Constant_int ?_)
 refine sp1 (wpAny_Constant_int ?_)
 refine sp1 (wpAny_Constant_int ?_)
 refine sp0 ?_
 refine newLst F fun a1 g₁ h' k1 ea1 F => ?_
 refine lsl_mid (h₀ := h₀) (xt := []) (g₀ := g₀) (L := env.locals) (N := nLaw) (ld0 C F ?_)
 refine wpAny_Constant_int ?_
 refine wpAny_Constant_int ?_
 refine ⟨ls, sv, ks, 2, 5, _, _, g₁, _, _, rfl, rfl, rfl, by omega, by omega, k1 _ _ els, F, fun a2 g₂ h' k2 ea2 F => ?_⟩
 refine addL F (k2 _ _ ea1) ea2 (by simp; omega) fun a3 g₃ h' k3 ea3 F => ?_
 have hnums : Dts g₃ ([Value.int 1 s.toks, .int 5 (s.toks + 1), .int 42 (s.toks + 2), .int 71 (s.toks + 3), .int 17 (s.toks + 4)] ++ (sv.take 5).drop 2) ((numsOf xs).map .int) := by
  unfold numsOf
  rw [List.map_append]
  refine Dts.append (.cons (.int _ _) (.cons (.int _ _) (.cons (.int _ _) (.cons (.int _ _) (.cons (.int _ _) .nil))))) ?_
  rw [List.map_drop, List.map_take]
  exact ((hsv.up (k1.tr (k2.tr k3))).take 5).drop 2
 have hnl := hnums.len
 rw [List.length_map] at hnl
 have hnl2 : (numsOf xs).length ≤ 8 := by have := P0_len xs; unfold P0 at this; rw [List.length_map] at this; exact this.1
 have k13 := k1.tr (k2.tr k3)
 have X₃ := X.up k13
 refine ⟨a3, _, 0, rfl, Nat.le_trans (Nat.le_of_eq hnl) (by rw [sizeLine_eq]; omega), g₃, _, _, F, ea3, .nil, cturn ?_, ?_⟩
 · rintro i v s1 g' us ys I oI C' D' h tk hi kg' hys hus Cc F
   obtain ⟨u0, rfl⟩ := List.length_eq_one_iff.mp hus
   obtain ⟨d, hd, hdt⟩ := hnums.get hi
   obtain ⟨x, hx, rfl⟩ : ∃ x, (numsOf xs)[i]? = some x ∧ PyData.int x = d := by simpa using hd
   obtain ⟨t, rfl⟩ := hdt.intInv
   have X' := X₃.up kg'
   refine st0 Cc F fun h' F => ?_
   refine tests0 ?_
   refine C1 (N_law_place Cc X'.toStat F.keep (.head _) ?_)
   refine wpAny_BinOp ?_
   refine ld0 Cc F ?_
   refine wpAny_Constant_int ?_
   refine modZ (b := 100000) (by omega) fun t' k => ?_
   refine ⟨⟨_, F.keep _ _ (X'.fnAt 17 rfl)⟩, ?_⟩
   refine call_c F (place_gives (n := n + 8) X'.toStat F.keep hA _ t' (fmod_lt x)) fun g₄ h' t' v k4 F e => ?_
   refine cEnd k4 F ?_
   rw [List.take_add_one, hx, List.map_append, List.map_append]
   exact (hys.up k4).snoc e
 intro g₃' g₄ D h' tk ys k4 k4' hys eD F
 simp only [List.set_cons_succ, List.set_cons_zero] at F
 rw [hnl, List.take_length] at hys
 have hpl : Dts g₄ ys ((P0 xs).map dPlace) := hys.up k4'
 have hP := P0_len xs
 have hgood := P0_good xs
 generalize P0 xs = P at hpl hP hgood h
 have X₄ := X₃.up k4
 have ysl : ys.length = P.length := by simpa using hpl.len
 dsimp only
 refine wpAny_execs_cons ?_
 refine asLst (h₀ := h₀) (xt := []) (g₀ := g₀) (l := D) (k := ys.length) (items := ys) (cl := []) (j := 3) ["place"] ["_law_path"] (fun i g' zs => Dts g' zs ((P.take i).map fun p => .str (writtenT p))) hA.handled (by decide +kernel) rfl C rfl rfl (by rw [sizeLine_eq]; omega) ?_
 refine ld2 C F ⟨rfl, g₄, _, _, F, eD, .nil, cturn ?_, ?_⟩
 · rintro i v s1 g' us zs I oI C' D' h tk hi kg' hzs hus Cc F
   obtain ⟨u0, rfl⟩ := List.length_eq_one_iff.mp hus
   obtain ⟨d, hd, hdt⟩ := hpl.get hi
   obtain ⟨p, hp, rfl⟩ : ∃ x, P[i]? = some x ∧ dPlace x = d := by simpa using hd
   have hg := (hgood p (List.mem_of_getElem? hp)).1
   have X' := X₄.up kg'
   refine st0 Cc F fun h' F => ?_
   refine tests0 ?_
   refine C1 (N_law_path Cc X'.toStat F.keep (.head _) ?_)
   refine ld0 Cc F ?_
   refine ⟨⟨_, F.keep _ _ (X'.fnAt 18 rfl)⟩, ?_⟩
   refine call_c F (path_gives (n := n + 5) X'.toStat F.keep hA _ p (hdt.up kg') hg.len (fun ns hns => NameOk_all ns (hg.nm ns hns))) fun g₅ h' t' v k5 F e => ?_
   obtain ⟨tp, rfl⟩ := e
   refine cEnd k5 F ?_
   rw [List.take_add_one, hp, List.map_append, W_path hg]
   exact (hzs.up k5).snoc (.str _ _)
 intro g₅' g₅ D2 h' tk zs k5 k5' hzs eD2 F
 simp only [List.set_cons_succ, List.set_cons_zero] at F
 rw [ysl, List.take_length] at hzs
 dsimp only
 refine wpAny_execs_cons ?_
 refine wpAny_Assign_Name ?_
 refine ld2 C F ?_
 refine st4 C F fun h' F => ?_
 dsimp only
 refine wpAny_execs_cons ?_
 refine wpAny_Assign_Name ?_
 refine ld3 C F ?_
 refine st5 C F fun h' F => ?_
 exact h g₅ _ _ _ _ (k13.tr (k4.tr k5)) (.list (k5 _ _ eD) (hpl.up k5)) (.list eD2 (hzs.up k5')) F
end
def deedsOf (xs : List Int) : List Int := if xs = [] then [226] else xs.take 2
theorem deeds_len (xs : List Int) : (deedsOf xs).length ≤ 2 := by
 unfold deedsOf; split
 · decide
 · rw [List.length_take]; omega
abbrev kOf (x : Int) : Nat := (x.fmod 100000).toNat
def oldOf (P : List Pl) (k : Nat) : Pl := (P.getD (k / 3 % P.length) []).take (1 + k / 3 / P.length % 3)
def newOf (P : List Pl) (k : Nat) : Pl := placeN (k / 3 / P.length / 3)
def stepD (P R : List Pl) (x : Int) : List Pl := doneR ((kOf x % 3 : Nat) : Int) (oldOf P (kOf x)) (newOf P (kOf x)) R
def goD (P : List Pl) (ds : List Int) : List Pl := ds.foldl (stepD P) P
theorem done1_len (d : Int) (o nw p : Pl) : (done1 d o nw p).length ≤ 2 := by unfold done1; split <;> split <;> simp
theorem doneR_len (d : Int) (o nw : Pl) (R : List Pl) : (doneR d o nw R).length ≤ 2 * R.length := by
 unfold doneR
 induction R with
 | nil => simp
 | cons p R ih =>
  have := done1_len d o nw p
  rw [List.flatMap_cons, List.length_append, List.length_cons]; omega
theorem done1_mem {d : Int} {o nw p q : Pl} (h : q ∈ done1 d o nw p) : q = p ∨ (q = nw ++ p.drop o.length) := by
 unfold done1 at h
 rcases List.mem_append.mp h with h | h
 · split at h
   · exact .inl (List.mem_singleton.mp h)
   · cases h
 · split at h
   · exact .inr (List.mem_singleton.mp h)
   · cases h
def Fin9 (m : Nat) (p : Pl) : Prop := p.length ≤ m ∧ ∀ n ∈ p, n ∈ nameList
theorem Fin9.good {m : Nat} {p : Pl} (h : Fin9 m p) (hm : m ≤ 9) : GoodPl p := ⟨by have := h.1; omega, h.2⟩
theorem Fin9.le {m k : Nat} {p : Pl} (h : Fin9 m p) (hm : m ≤ k) : Fin9 k p := ⟨by have := h.1; omega, h.2⟩
theorem Fin9.app {m k : Nat} {p nw : Pl} (h : Fin9 m p) (hn : Fin9 k nw) (i : Nat) : Fin9 (m + k) (nw ++ p.drop i) := by
 refine ⟨?_, fun n hn' => ?_⟩
 · have := h.1; have := hn.1; rw [List.length_append, List.length_drop]; omega
 · rcases List.mem_append.mp hn' with q | q
   · exact hn.2 n q
   · exact h.2 n (List.mem_of_mem_drop q)
theorem Fin9.pl (m : Nat) : Fin9 3 (placeN m) := ⟨(placeN_good m).2, (placeN_good m).1.nm⟩
theorem doneR_fine {m : Nat} {d : Int} {o nw : Pl} {R : List Pl} (h : ∀ p ∈ R, Fin9 m p) (hn : Fin9 3 nw) : ∀ q ∈ doneR d o nw R, Fin9 (m + 3) q := by
 intro q hq
 obtain ⟨p, hp, hq⟩ := List.mem_flatMap.mp hq
 rcases done1_mem hq with rfl | rfl
 · exact (h _ hp).le (by omega)
 · exact (h p hp).app hn _
theorem P0_fine (xs : List Int) : ∀ p ∈ P0 xs, Fin9 3 p := fun p hp => ⟨(P0_good xs p hp).2, (P0_good xs p hp).1.nm⟩
theorem goD_fine {P : List Pl} (hP : ∀ p ∈ P, Fin9 3 p) (ds : List Int) (i : Nat) : (∀ q ∈ goD P (ds.take i), Fin9 (3 + 3 * i) q) ∧ (goD P (ds.take i)).length ≤ P.length * 2 ^ i := by
 induction i with
 | zero => exact ⟨hP, by simp [goD]⟩
 | succ i ih =>
  rw [List.take_add_one]
  cases e : ds[i]? with
  | none =>
   simp only [Option.toList_none, List.append_nil]
   refine ⟨fun q hq => (ih.1 q hq).le (by omega), Nat.le_trans ih.2 (Nat.mul_le_mul (Nat.le_refl _) (Nat.pow_le_pow_right (by omega) (by omega)))⟩
  | some x =>
   have e2 : goD P (ds.take i ++ (some x).toList) = stepD P (goD P (ds.take i)) x := by simp [goD, List.foldl_append]
   rw [e2]
   refine ⟨fun q hq => (doneR_fine ih.1 (Fin9.pl _) q hq).le (by omega), ?_⟩
   have h1 := doneR_len ((kOf x % 3 : Nat) : Int) (oldOf P (kOf x)) (newOf P (kOf x)) (goD P (ds.take i))
   have h2 := ih.2
   unfold stepD
   rw [Nat.pow_succ, ← Nat.mul_assoc]; omega
theorem shaped_ints (l : List Int) : SeqAt.shaped (.list (l.map .int)) = true := by
 have h1 : (PyData.list (l.map .int)).canLay0 = true := by simp only [PyData.canLay0]; exact canLay_map (fun _ => rfl) l
 have h2 : (PyData.list (l.map .int)).depth ≤ 1 := by
  simp only [PyData.depth]
  have := depth_map (f := PyData.int) (n := 0) (fun k => Nat.le_refl _) l
  omega
 simp only [SeqAt.shaped, h1, Bool.true_and, decide_eq_true_eq]
 omega
theorem eqv_nilI (l : List Int) : PyData.eqv (.list (l.map .int)) (.list []) = decide (l = []) := by
 cases l with
 | nil => rfl
 | cons x l => simp [PyData.eqv, PyData.eqvAll]
section
variable {w : World} {A : Around} {s : Shared} {env : Env} {E : Value → Shared → Prop}
variable {h₀ g₀ g : Heap} {n : Nat} {Q : Flow → Shared → Prop}
set_option maxHeartbeats 8000000 in
theorem ph2 (X : Sm2 g) (hA : Ok A (n + 9)) (C : Cx env nLaw glLaw) {ls : Addr} {sv : List Value} {ks : Nat} {xs : List Int} (els : g.get? ls = some (lstObj sv ks)) (hsv : Dts g sv (xs.map .int)) (hxs : xs.length ≤ 63)
 {P : List Pl} (hP : ∀ p ∈ P, Fin9 3 p) (hP8 : P.length ≤ 8) (hP0 : 0 < P.length) {pl hu : Value} (hpl : Dt g pl (dRows P)) (hhu : Dt g hu (dTexts P))
 (F : St h₀ [] g₀ g env.locals nLaw [some (.ref ls), none, some pl, some hu, some pl, some hu, none, none, none, none, none, none, none, none, none, none, none, none, none, none, none, none, none] [] s.heap)
 (h : ∀ g' rv pv u1 u6 u7 u8 u9 u10 h' t', Le g g' → Dt g' rv (dRows (goD P (deedsOf xs))) → Dt g' pv (dTexts (goD P (deedsOf xs))) →
  St h₀ [] g₀ g' env.locals nLaw [some (.ref ls), u1, some pl, some hu, some rv, some pv, u6, u7, u8, u9, u10, none, none, none, none, none, none, none, none, none, none, none, none] [] h' →
  wpAny (model pw w) A (execs (bodyLaw.drop 5) env) Q E { s with heap := h', toks := t' }) :
 wpAny (model pw w) A (execs (bodyLaw.drop 4) env) Q E s := by
 have svl : sv.length = xs.length := by simpa using hsv.len
 obtain ⟨lp, ip, jp, rfl, elp, dlp⟩ := hpl.listInv
 have ipl : ip.length = P.length := by simpa using dlp.len
 refine wpAny_execs_cons ?_
 refine For_ ?_
 refine wpAny_mono (Q := fun v s₁ => ∃ l items k g' h' t', v = .ref l ∧ s₁ = { s with heap := h', toks := t' } ∧ Le g g' ∧ g'.get? l = some (lstObj items k) ∧ Dts g' items ((deedsOf xs).map .int) ∧
  St h₀ [] g₀ g' env.locals nLaw [some (.ref ls), none, some (.ref lp), some hu, some (.ref lp), some hu, none, none, none, none, none, none, none, none, none, none, none, none, none, none, none, none, none] [] h') (E := no) ?_ ?_ (fun _ _ x => x)
 · refine ifExp ?_
   refine wpAny_isTrue_Compare1 ?_
   refine ld0 C F ?_
   refine lstE (sp0 ?_)
   refine newLst F fun a1 g₁ h' k1 ea1 F => ?_
   refine neD (g := g₁) F.keep (.list (k1 _ _ els) (hsv.up k1)) (.list ea1 .nil) (shaped_ints xs) (shaped_ints []) hA.c (wpAny_truthy_bool ?_)
   rw [eqv_nilI]
   by_cases hx : xs = []
   · rw [if_neg (by simp [hx])]
     refine lstE ?_
     refine sp1 (wpAny_Constant_int ?_)
     refine sp0 ?_
     refine newLst F fun a2 g₂ h' k2 ea2 F => ?_
     refine ⟨a2, _, _, g₂, _, _, rfl, rfl, k1.tr k2, ea2, ?_, F⟩
     unfold deedsOf
     rw [if_pos hx]
     exact .cons (.int _ _) .nil
   · rw [if_pos (by simp [hx])]
     refine lsl_take (h₀ := h₀) (xt := []) (g₀ := g₀) (L := env.locals) (N := nLaw) (ld0 C F ?_)
     refine wpAny_Constant_int ?_
     refine ⟨ls, sv, ks, 2, _, g₁, _, _, rfl, rfl, by omega, k1 _ _ els, F, fun a2 g₂ h' k2 ea2 F => ?_⟩
     refine ⟨a2, _, _, g₂, _, _, rfl, rfl, k1.tr k2, ea2, ?_, F⟩
     unfold deedsOf
     rw [if_neg hx, List.map_take]
     exact (hsv.up (k1.tr k2)).take 2
 rintro v s₁ ⟨l, items, k, g₁, h', t', rfl, rfl, k1, el, hit, F⟩
 have hdl := deeds_len xs
 generalize deedsOf xs = ds at hit h hdl
 have itl : items.length = ds.length := by simpa using hit.len
 refine each_list (fun i g' vs' mu' => ∃ rv pv u1 u6 u7 u8 u9 u10, Dt g' rv (dRows (goD P (ds.take i))) ∧ Dt g' pv (dTexts (goD P (ds.take i))) ∧
  vs' = [some (.ref ls), u1, some (.ref lp), some hu, some rv, some pv, u6, u7, u8, u9, u10, none, none, none, none, none, none, none, none, none, none, none, none] ∧ mu' = []) hA.handled F el ⟨_, _, _, none, none, none, none, none, hpl.up k1, hhu.up k1, rfl, rfl⟩ ?_ ?_
 · rintro i v g' vs' mu' I oI h2 tk hi kg' ⟨rv, pv, u1, u6, u7, u8, u9, u10, hrv, hpv, rfl, rfl⟩ F
   obtain ⟨d, hd, hdt⟩ := (hit.up kg').get hi
   obtain ⟨x, hx, rfl⟩ : ∃ x, ds[i]? = some x ∧ PyData.int x = d := by simpa using hd
   obtain ⟨tx, rfl⟩ := hdt.intInv
   have hi2 : i < 2 := by have := (List.getElem?_eq_some_iff.mp hx).1; omega
   have X' := X.up (k1.tr kg')
   have elp' := (k1.tr kg') _ _ elp
   obtain ⟨hfine, hlen⟩ := goD_fine hP ds i
   have hRl : (goD P (ds.take i)).length ≤ 16 := Nat.le_trans hlen (by rcases i with _ | _ | i <;> omega)
   have hsucc : goD P (ds.take (i + 1)) = stepD P (goD P (ds.take i)) x := by rw [List.take_add_one, hx]; simp [goD, List.foldl_append]
   rw [hsucc]
   generalize goD P (ds.take i) = R at hrv hpv hfine hRl ⊢
   have hfine : ∀ p ∈ R, Fin9 6 p := fun p hp => (hfine p hp).le (by omega)
   have hk : kOf x < 100000 := fmod_lt x
   unfold stepD
   refine st1 C F fun h' F => ?_
   dsimp only
   refine wpAny_execs_cons ?_
   refine wpAny_Assign_Name ?_
   refine wpAny_BinOp ?_
   refine wpAny_BinOp ?_
   refine ld1 C F ?_
   refine wpAny_Constant_int ?_
   refine modZ (b := 100000) (by omega) fun t1 k2 => ?_
   refine wpAny_Constant_int ?_
   refine modN (b := 3) (by omega) fun t2 k3 => ?_
   refine st6 C F fun h' F => ?_
   dsimp only
   refine wpAny_execs_cons ?_
   refine wpAny_Assign_Name ?_
   refine wpAny_BinOp ?_
   refine wpAny_BinOp ?_
   refine ld1 C F ?_
   refine wpAny_Constant_int ?_
   refine modZ (b := 100000) (by omega) fun t3 k4 => ?_
   refine wpAny_Constant_int ?_
   refine divN (b := 3) (by omega) (by omega) fun t4 k5 => ?_
   refine st7 C F fun h' F => ?_
   dsimp only
   have hkq : (x.fmod ((100000 : Nat) : Int)).toNat = kOf x := rfl
   rw [hkq] at F
   generalize kOf x = q at F hk ⊢
   have hwl : q / 3 % P.length < P.length := Nat.mod_lt _ hP0
   obtain ⟨d2, hd2, hfr⟩ := (dlp.up (k1.tr kg')).get (i := q / 3 % P.length) (v := ip[q / 3 % P.length]'(by omega)) (by simp)
   have efr : d2 = dPlace (P.getD (q / 3 % P.length) []) := by
    rw [List.getElem?_map, List.getElem?_eq_getElem hwl] at hd2
    rw [List.getD_eq_getElem?_getD, List.getElem?_eq_getElem hwl]
    simpa using hd2.symm
   subst efr
   have hfi : ip[q / 3 % P.length]? = some (ip[q / 3 % P.length]'(by omega)) := by simp
   generalize ip[q / 3 % P.length]'(by omega) = fv at hfr hfi
   have hfP : Fin9 3 (P.getD (q / 3 % P.length) []) := by
    rw [List.getD_eq_getElem?_getD, List.getElem?_eq_getElem hwl]
    exact hP _ (List.getElem_mem hwl)
   obtain ⟨lf, fi, jf, rfl, elf, dlf⟩ := hfr.listInv
   refine wpAny_execs_cons ?_
   refine wpAny_Assign_Name ?_
   refine Subscript_BinOp ?_
   refine ld2 C F ?_
   refine wpAny_BinOp ?_
   refine ld7 C F ?_
   refine C1 (N_len C X'.toStat F.keep (.head _) (ld2 C F ⟨trivial, ?_⟩))
   refine lenL F.keep elp' (by omega) fun w1 w2 => ?_
   rw [ipl]
   refine modN hP0 fun w3 w4 => ?_
   refine itemL F.keep elp' hfi (by omega) ?_
   refine st8 C F fun h' F => ?_
   dsimp only
   refine wpAny_execs_cons ?_
   refine wpAny_Assign_Name ?_
   refine lsl_take (h₀ := h₀) (xt := []) (g₀ := g₀) (L := env.locals) (N := nLaw) (ld8 C F ?_)
   refine wpAny_BinOp ?_
   refine wpAny_Constant_int ?_
   refine wpAny_BinOp ?_
   refine wpAny_BinOp ?_
   refine ld7 C F ?_
   refine C1 (N_len C X'.toStat F.keep (.head _) (ld2 C F ⟨trivial, ?_⟩))
   refine lenL F.keep elp' (by omega) fun w5 w6 => ?_
   rw [ipl]
   refine divN hP0 (by omega) fun w7 w8 => ?_
   refine wpAny_Constant_int ?_
   refine modN (b := 3) (by omega) fun w9 w10 => ?_
   refine addZ (c := 1 + q / 3 / P.length % 3) (by push_cast; rfl) ?_
   have fil : fi.length = (P.getD (q / 3 % P.length) []).length := by simpa using dlf.len
   have hfl := hfP.1
   refine ⟨lf, fi, jf, _, _, g', _, _, rfl, rfl, by omega, elf, F, fun oa g₂ h' k2 eoa F => ?_⟩
   refine st9 C F fun h' F => ?_
   dsimp only
   have hold : Dt g₂ (.ref oa) (dPlace (oldOf P q)) := by
    refine .list eoa ?_
    unfold oldOf
    rw [List.map_take]
    exact (dlf.up k2).take _
   have hoG : GoodPl (oldOf P q) := by unfold oldOf; exact (hfP.good (by omega)).take _
   have hol : (oldOf P q).length ≤ 3 := by unfold oldOf; rw [List.length_take]; omega
   have hnF : Fin9 3 (newOf P q) := Fin9.pl _
   have X₂ := X'.up k2
   refine wpAny_execs_cons ?_
   refine wpAny_Assign_Name ?_
   refine C1 (N_law_place C X₂.toStat F.keep (.tail _ (.head _)) ?_)
   refine wpAny_BinOp ?_
   refine wpAny_BinOp ?_
   refine ld7 C F ?_
   refine C1 (N_len C X₂.toStat F.keep (.head _) (ld2 C F ⟨trivial, ?_⟩))
   refine lenL F.keep (k2 _ _ elp') (by omega) fun w11 w12 => ?_
   rw [ipl]
   refine divN hP0 (by omega) fun w13 w14 => ?_
   refine wpAny_Constant_int ?_
   refine divN (b := 3) (by omega) (by omega) fun w15 w16 => ?_
   refine ⟨⟨_, F.keep _ _ (X₂.fnAt 17 rfl)⟩, ?_⟩
   have hlt : q / 3 / P.length / 3 < 100000 := Nat.lt_of_le_of_lt (Nat.le_trans (Nat.div_le_self _ _) (Nat.le_trans (Nat.div_le_self _ _) (Nat.div_le_self _ _))) hk
   refine call_c F (place_gives (n := n + 8) X₂.toStat F.keep hA _ w15 hlt) fun g₃ h' t' nv k3' F hnew => ?_
   refine st10 C F fun h' F => ?_
   dsimp only
   change Dt g₃ nv (dPlace (newOf P q)) at hnew
   have X₃ := X₂.up k3'
   refine wpAny_execs_cons ?_
   refine wpAny_Assign_Name ?_
   refine C4 (N_law_done C X₃.toStat F.keep (.tail _ (.tail _ (.head _))) ?_)
   refine ld4 C F ?_
   refine ld6 C F ?_
   refine ld9 C F ?_
   refine ld10 C F ?_
   refine ⟨⟨_, F.keep _ _ (X₃.fnAt 20 rfl)⟩, ?_⟩
   refine call_c F (done_gives (n := n + 7) X₃.toStat F.keep hA rv (.ref oa) nv ((q % 3 : Nat) : Int) _ R (oldOf P q) (newOf P q) ((hrv.up k2).up k3') (hold.up k3') hnew (by omega) (fun p hp => by have := (hfine p hp).1; omega) (by omega) (by have := hnF.1; omega)) fun g₄ h' t' rv' k4' F hrv' => ?_
   refine st4 C F fun h' F => ?_
   dsimp only
   have X₄ := X₃.up k4'
   refine wpAny_execs_cons ?_
   refine wpAny_Assign_Name ?_
   refine C4 (N_law_carried C X₄.toStat F.keep (.tail _ (.tail _ (.tail _ (.head _)))) ?_)
   refine ld5 C F ?_
   refine ld6 C F ?_
   refine C1 (N_law_path C X₄.toStat F.keep (.tail _ (.tail _ (.tail _ (.tail _ (.head _))))) ?_)
   refine ld9 C F ?_
   refine ⟨⟨_, F.keep _ _ (X₄.fnAt 18 rfl)⟩, ?_⟩
   refine call_c F (path_gives (n := n + 5) X₄.toStat F.keep hA _ (oldOf P q) ((hold.up k3').up k4') hoG.len (fun ns hns => NameOk_all ns (hoG.nm ns hns))) fun g₅ h' t' v5 k5' F e => ?_
   obtain ⟨to, rfl⟩ := e
   rw [W_path hoG]
   have X₅ := X₄.up k5'
   have hnG : GoodPl (newOf P q) := hnF.good (by omega)
   refine C1 (N_law_path C X₅.toStat F.keep (.tail _ (.tail _ (.tail _ (.tail _ (.head _))))) ?_)
   refine ld10 C F ?_
   refine ⟨⟨_, F.keep _ _ (X₅.fnAt 18 rfl)⟩, ?_⟩
   refine call_c F (path_gives (n := n + 5) X₅.toStat F.keep hA _ (newOf P q) ((hnew.up k4').up k5') hnG.len (fun ns hns => NameOk_all ns (hnG.nm ns hns))) fun g₆ h' t' v6 k6' F e => ?_
   obtain ⟨tn, rfl⟩ := e
   rw [W_path hnG]
   have X₆ := X₅.up k6'
   refine ⟨⟨_, F.keep _ _ (X₆.fnAt 22 rfl)⟩, ?_⟩
   have k26 := k2.tr (k3'.tr (k4'.tr (k5'.tr k6')))
   refine call_c F (carried_gives (n := n + 1) X₆.toStat F.keep hA pv ((q % 3 : Nat) : Int) _ to tn R (oldOf P q) (newOf P q) (hpv.up k26) (by omega) (fun p hp => (hfine p hp).good (by omega)) hoG hnG (fun p hp _ => ((hfine p hp).app hnF _).good (by omega))) fun g₇ h' t' pv' k7' F hpv' => ?_
   refine st5 C F fun h' F => ?_
   dsimp only
   refine wpAny_execs_nil ?_
   exact turn_next (k26.tr k7') F ⟨_, _, _, _, _, _, _, _, hrv'.up (k5'.tr (k6'.tr k7')), hpv', rfl, rfl⟩
 · rintro g' vs' mu' h2 tk kg' ⟨rv, pv, u1, u6, u7, u8, u9, u10, hrv, hpv, rfl, rfl⟩ F
   rw [itl, List.take_length] at hrv hpv
   exact h g' _ _ _ _ _ _ _ _ _ _ (k1.tr kg') hrv hpv F
end
abbrev GP := { p : Pl // GoodPl p }
abbrev dG (a : GP) : PyData := .str (writtenT a.1)
theorem weak_gp : WeakB (fun a b : GP => decide (a.1 < b.1)) := weakB_map (fun a : GP => a.1) weak_places
theorem sorts_gp : Sorts dG (fun a b => decide (a.1 < b.1)) := by
 refine sorts_of (d := ⟨[], ⟨by simp, fun n h => nomatch h⟩⟩) (.type "str") weak_gp (fun w g v a h => ?_) rfl rfl fun w A s g v v' a b C hu h h' kg hC => ?_
 · obtain ⟨t, rfl⟩ := h.strInv
   exact Looks.of_pure rfl
 · obtain ⟨t, rfl⟩ := h.strInv
   obtain ⟨t', rfl⟩ := h'.strInv
   refine kas_lt_str ?_
   rw [W_lt a.2 b.2]
   exact hC
theorem eqv_gp (a b : GP) : PyData.eqv (dG a) (dG b) = decide (a = b) := by
 have h := W_eq a.2 b.2
 have e : PyData.eqv (dG a) (dG b) = (writtenT a.1 == writtenT b.1) := rfl
 rw [e, h]
 exact decide_eq_decide.mpr ⟨fun q => Subtype.ext q, fun q => congrArg _ q⟩
theorem shaped_gps (l : List GP) : SeqAt.shaped (.list (l.map dG)) = true := by
 have := shaped_strs (l.map fun a => writtenT a.1) (fun x hx => by
  obtain ⟨a, _, rfl⟩ := List.mem_map.mp hx
  exact W_ok a.2)
 rw [List.map_map] at this
 exact this
theorem shaped_gp (a : GP) : SeqAt.shaped (dG a) = true := by
 have h := W_ok a.2
 show (PyData.canLay0 _ && _) = true
 simp only [PyData.canLay0, h, Bool.true_and]
 rfl
def Lst (P L : List Pl) : Prop := ∃ r : List Pl, r.Perm P ∧ r.Pairwise (fun a b => decide (b < a) = false) ∧ L = keepL r
theorem tri_place (a b : Pl) (h1 : decide (a < b) = false) (h2 : decide (b < a) = false) : a = b := by
 have h1 : ¬ a < b := by simpa using h1
 have h2 : ¬ b < a := by simpa using h2
 exact List.le_antisymm (List.not_lt.mp h2) (List.not_lt.mp h1)
theorem Lst.uniq {P L L' : List Pl} (h : Lst P L) (h' : Lst P L') : L = L' := by
 obtain ⟨r, p, s, rfl⟩ := h
 obtain ⟨r', p', s', rfl⟩ := h'
 rw [perm_uniq tri_place (p.trans p'.symm) s s']
theorem keepL_map {α β : Type} [DecidableEq α] [DecidableEq β] {f : α → β} (hf : ∀ a b, f a = f b → a = b) (r : List α) : keepL (r.map f) = (keepL r).map f := by
 have key : ∀ (r acc : List α), (r.map f).foldl kp (acc.map f) = (r.foldl kp acc).map f := by
  intro r
  induction r with
  | nil => intro acc; rfl
  | cons x r ih =>
   intro acc
   rw [List.map_cons, List.foldl_cons, List.foldl_cons]
   have e : kp (acc.map f) (f x) = (kp acc x).map f := by
    unfold kp
    rw [List.getLast?_map]
    by_cases q : acc.getLast? = some x
    · rw [if_pos q, if_pos (by rw [q]; rfl)]
    · rw [if_neg q, if_neg (fun z => ?_), List.map_append]
      · rfl
      · obtain ⟨y, hy, hy2⟩ := Option.map_eq_some_iff.mp z
        rw [hf _ _ hy2] at hy
        exact q hy
   rw [e, ih]
 exact key r []
theorem Lst.of_gp {P : List Pl} (hP : ∀ p ∈ P, GoodPl p) {r : List GP} (hp : r.Perm (P.attachWith GoodPl hP)) (hs : r.Pairwise (fun a b => decide (b.1 < a.1) = false)) : Lst P ((keepL r).map (·.1)) := by
 refine ⟨r.map (·.1), ?_, ?_, ?_⟩
 · have := hp.map (·.1)
   rwa [List.attachWith_map_subtype_val] at this
 · rw [List.pairwise_map]; exact hs
 · exact (keepL_map (fun a b => Subtype.ext) r).symm
section
variable {w : World} {A : Around} {s : Shared} {g : Heap} {n : Nat}
theorem listing_places (X : Stat g) (kg : Le g s.heap) (hA : Ok A (n + 1)) {v : Value} {P : List Pl} (hv : Dt g v (dRows P)) (hl : P.length < 64) :
 Gives pw w A (.call (.ref 418) ⟨[v], []⟩) s [] g (fun g' _ x => ∃ L, Lst P L ∧ Dt g' x (dRows L)) := by
 intro R hR
 refine listing_gives sorts_places eqv_place shaped_place shaped_rows X kg hA v P hv hl R fun g' h' t' v' o e => hR g' h' t' v' o ?_
 obtain ⟨r, p, s, d⟩ := e
 exact ⟨_, ⟨r, p, s, rfl⟩, d⟩
theorem listing_texts (X : Stat g) (kg : Le g s.heap) (hA : Ok A (n + 1)) {v : Value} {P : List Pl} (hP : ∀ p ∈ P, GoodPl p) (hv : Dt g v (dTexts P)) (hl : P.length < 64) :
 Gives pw w A (.call (.ref 418) ⟨[v], []⟩) s [] g (fun g' _ x => ∃ L, Lst P L ∧ Dt g' x (dTexts L)) := by
 intro R hR
 have e : dTexts P = .list ((P.attachWith GoodPl hP).map dG) := by
  show PyData.list _ = PyData.list _
  congr 1
  conv => lhs; rw [← List.attachWith_map_subtype_val hP]
  rw [List.map_map]; rfl
 refine listing_gives sorts_gp eqv_gp shaped_gp shaped_gps X kg hA v (P.attachWith GoodPl hP) (e ▸ hv) (by simpa using hl) R fun g' h' t' v' o e => hR g' h' t' v' o ?_
 obtain ⟨r, p, s, d⟩ := e
 refine ⟨_, Lst.of_gp hP p s, ?_⟩
 show Dt _ _ (.list _)
 rw [List.map_map]
 exact d
end
section
variable {w : World} {A : Around} {s : Shared} {env : Env} {E : Value → Shared → Prop}
variable {h₀ g₀ g : Heap} {n : Nat} {Q : Flow → Shared → Prop}
set_option maxHeartbeats 8000000 in
theorem ph3 (X : Sm2 g) (hA : Ok A (n + 9)) (C : Cx env nLaw glLaw) {P R : List Pl} (hP : ∀ p ∈ P, GoodPl p) (hR : ∀ p ∈ R, GoodPl p) (zP : P.length ≤ 8) (zR : R.length ≤ 32) {v0 u1 u6 u7 u8 u9 u10 : Option Value} {pl hu rv pv : Value}
 (hpl : Dt g pl (dRows P)) (hhu : Dt g hu (dTexts P)) (hrv : Dt g rv (dRows R)) (hpv : Dt g pv (dTexts R))
 (F : St h₀ [] g₀ g env.locals nLaw [v0, u1, some pl, some hu, some rv, some pv, u6, u7, u8, u9, u10, none, none, none, none, none, none, none, none, none, none, none, none] [] s.heap)
 (h : ∀ g' bv av ov tv Lb La h' t', Le g g' → Lst P Lb → Lst R La → Dt g' bv (dRows Lb) → Dt g' av (dRows La) → Dt g' ov (dTexts Lb) → Dt g' tv (dTexts La) →
  St h₀ [] g₀ g' env.locals nLaw [v0, u1, some pl, some hu, some rv, some pv, u6, u7, u8, u9, u10, some bv, some av, some ov, some tv, none, none, none, none, none, none, none, none] [] h' →
  wpAny (model pw w) A (execs (bodyLaw.drop 9) env) Q E { s with heap := h', toks := t' }) :
 wpAny (model pw w) A (execs (bodyLaw.drop 5) env) Q E s := by
 have hin : ("_law_listing" : Str) ∈ glLaw := .tail _ (.tail _ (.tail _ (.tail _ (.tail _ (.head _)))))
 refine wpAny_execs_cons ?_
 refine wpAny_Assign_Name ?_
 refine C1 (N_law_listing C X.toStat F.keep hin ?_)
 refine ld2 C F ?_
 refine ⟨⟨_, F.keep _ _ (X.fnAt 23 rfl)⟩, ?_⟩
 refine call_c F (listing_places (n := n + 8) X.toStat F.keep hA hpl (by omega)) fun g₁ h' t' bv k1 F e => ?_
 obtain ⟨Lb, hLb, hbv⟩ := e
 refine st11 C F fun h' F => ?_
 dsimp only
 have X₁ := X.up k1
 refine wpAny_execs_cons ?_
 refine wpAny_Assign_Name ?_
 refine C1 (N_law_listing C X₁.toStat F.keep hin ?_)
 refine ld4 C F ?_
 refine ⟨⟨_, F.keep _ _ (X₁.fnAt 23 rfl)⟩, ?_⟩
 refine call_c F (listing_places (n := n + 8) X₁.toStat F.keep hA (hrv.up k1) (by omega)) fun g₂ h' t' av k2 F e => ?_
 obtain ⟨La, hLa, hav⟩ := e
 refine st12 C F fun h' F => ?_
 dsimp only
 have X₂ := X₁.up k2
 refine wpAny_execs_cons ?_
 refine wpAny_Assign_Name ?_
 refine C1 (N_law_listing C X₂.toStat F.keep hin ?_)
 refine ld3 C F ?_
 refine ⟨⟨_, F.keep _ _ (X₂.fnAt 23 rfl)⟩, ?_⟩
 refine call_c F (listing_texts (n := n + 8) X₂.toStat F.keep hA hP (hhu.up (k1.tr k2)) (by omega)) fun g₃ h' t' ov k3 F e => ?_
 obtain ⟨Lb', hLb', hov⟩ := e
 rw [hLb'.uniq hLb] at hov
 refine st13 C F fun h' F => ?_
 dsimp only
 have X₃ := X₂.up k3
 refine wpAny_execs_cons ?_
 refine wpAny_Assign_Name ?_
 refine C1 (N_law_listing C X₃.toStat F.keep hin ?_)
 refine ld5 C F ?_
 refine ⟨⟨_, F.keep _ _ (X₃.fnAt 23 rfl)⟩, ?_⟩
 refine call_c F (listing_texts (n := n + 8) X₃.toStat F.keep hA hR (hpv.up (k1.tr (k2.tr k3))) (by omega)) fun g₄ h' t' tv k4 F e => ?_
 obtain ⟨La', hLa', htv⟩ := e
 rw [hLa'.uniq hLa] at htv
 refine st14 C F fun h' F => ?_
 dsimp only
 exact h g₄ _ _ _ _ _ _ _ _ (k1.tr (k2.tr (k3.tr k4))) hLb hLa (hbv.up (k2.tr (k3.tr k4))) (hav.up (k3.tr k4)) (hov.up k4) htv F
end
theorem keepL_mem {α : Type} [DecidableEq α] (r : List α) : (∀ p, p ∈ keepL r ↔ p ∈ r) ∧ (keepL r).length ≤ r.length := by
 have key : ∀ (r acc : List α), (∀ p, p ∈ r.foldl kp acc ↔ (p ∈ acc ∨ p ∈ r)) ∧ (r.foldl kp acc).length ≤ acc.length + r.length := by
  intro r
  induction r with
  | nil => intro acc; simp
  | cons x r ih =>
   intro acc
   obtain ⟨i1, i2⟩ := ih (kp acc x)
   rw [List.foldl_cons]
   have hm : ∀ p, p ∈ kp acc x ↔ (p ∈ acc ∨ p = x) := by
    intro p
    unfold kp
    by_cases q : acc.getLast? = some x
    · rw [if_pos q]
      have : x ∈ acc := List.mem_of_getLast? q
      constructor
      · exact .inl
      · rintro (z | rfl)
        · exact z
        · exact this
    · rw [if_neg q]; simp
   have hl : (kp acc x).length ≤ acc.length + 1 := by
    unfold kp; split
    · omega
    · simp
   refine ⟨fun p => ?_, ?_⟩
   · rw [i1, hm, List.mem_cons, or_assoc]
   · rw [List.length_cons]; omega
 have := key r []
 exact ⟨fun p => by rw [keepL, this.1]; simp, by have := this.2; simpa [keepL] using this⟩
theorem Lst.mem {P L : List Pl} (h : Lst P L) (p : Pl) : p ∈ L ↔ p ∈ P := by
 obtain ⟨r, pm, s, rfl⟩ := h
 rw [(keepL_mem r).1, pm.mem_iff]
theorem Lst.len {P L : List Pl} (h : Lst P L) : L.length ≤ P.length := by
 obtain ⟨r, pm, s, rfl⟩ := h
 rw [← pm.length_eq]; exact (keepL_mem r).2
theorem eqvAll_refl {α : Type} {f : α → PyData} (h : ∀ a, PyData.eqv (f a) (f a) = true) : ∀ l : List α, PyData.eqvAll (l.map f) (l.map f) = true
 | [] => rfl
 | x :: l => by simp only [List.map_cons, PyData.eqvAll, h, eqvAll_refl h l, Bool.and_self]
theorem eqv_texts (L : List Pl) : PyData.eqv (dTexts L) (dTexts L) = true := by
 simp only [dTexts, PyData.eqv]
 exact eqvAll_refl (fun a => by show (writtenT a == writtenT a) = true; simp) L
theorem shaped_texts {L : List Pl} (h : ∀ p ∈ L, GoodPl p) : SeqAt.shaped (dTexts L) = true := by
 have := shaped_strs (L.map fun a => writtenT a) (fun x hx => by
  obtain ⟨a, ha, rfl⟩ := List.mem_map.mp hx
  exact W_ok (h a ha))
 rw [List.map_map] at this
 exact this
section
variable {w : World} {A : Around} {s : Shared} {env : Env} {E : Value → Shared → Prop}
variable {h₀ g₀ g : Heap} {n : Nat} {Q : Flow → Shared → Prop}
set_option maxHeartbeats 8000000 in
theorem ph4 (X : Sm2 g) (hA : Ok A (n + 9)) (C : Cx env nLaw glLaw) {Lb La : List Pl} (hb : ∀ p ∈ Lb, GoodPl p) (ha : ∀ p ∈ La, GoodPl p) (zb : Lb.length ≤ 8) (za : La.length ≤ 32) {v0 u1 u2 u3 u4 u5 u6 u7 u8 u9 u10 : Option Value} {bv av ov tv : Value}
 (hbv : Dt g bv (dRows Lb)) (hav : Dt g av (dRows La)) (hov : Dt g ov (dTexts Lb)) (htv : Dt g tv (dTexts La))
 (F : St h₀ [] g₀ g env.locals nLaw [v0, u1, u2, u3, u4, u5, u6, u7, u8, u9, u10, some bv, some av, some ov, some tv, none, none, none, none, none, none, none, none] [] s.heap)
 (h : ∀ g' h' t', Le g g' →
  St h₀ [] g₀ g' env.locals nLaw [v0, u1, u2, u3, u4, u5, u6, u7, u8, u9, u10, some bv, some av, some ov, some tv, none, none, none, none, none, none, none, none] [] h' →
  wpAny (model pw w) A (execs (bodyLaw.drop 10) env) Q E { s with heap := h', toks := t' }) :
 wpAny (model pw w) A (execs (bodyLaw.drop 9) env) Q E s := by
 obtain ⟨lb, ib, jb, rfl, elb, dlb⟩ := hbv.listInv
 obtain ⟨la, ia, ja, rfl, ela, dla⟩ := hav.listInv
 have ibl : ib.length = Lb.length := by simpa using dlb.len
 have ial : ia.length = La.length := by simpa using dla.len
 refine wpAny_execs_cons ?_
 refine wpAny_If ?_
 refine isTrue_or ?_
 refine wpAny_isTrue_Compare1 ?_
 refine ld13 C F ?_
 refine evLst (h₀ := h₀) (xt := []) (g₀ := g₀) (L := env.locals) (N := nLaw) (l := lb) (k := jb) (items := ib) (cl := []) ["place"] ["_law_written"] (fun i g' ws => Dts g' ws ((Lb.take i).map fun p => .str (writtenT p))) hA.handled (by decide +kernel) rfl C (by rw [sizeLine_eq]; omega) ?_
 refine ld11 C F ⟨rfl, g, _, _, F, elb, .nil, cturn ?_, ?_⟩
 · rintro i v s1 g' us zs I oI C' D' h tk hi kg' hzs hus Cc F
   obtain ⟨u0, rfl⟩ := List.length_eq_one_iff.mp hus
   obtain ⟨d, hd, hdt⟩ := dlb.get hi
   obtain ⟨p, hp, rfl⟩ : ∃ x, Lb[i]? = some x ∧ dPlace x = d := by simpa using hd
   have hg := hb p (List.mem_of_getElem? hp)
   have X' := X.up kg'
   refine st0 Cc F fun h' F => ?_
   refine tests0 ?_
   refine C1 (N_law_written Cc X'.toStat F.keep (.head _) ?_)
   refine ld0 Cc F ?_
   refine ⟨⟨_, F.keep _ _ (X'.fnAt 19 rfl)⟩, ?_⟩
   refine call_c F (written_gives (n := n + 8) X'.toStat F.keep hA _ p (hdt.up kg') hg.len (fun ns hns => OctOk_all ns (hg.nm ns hns))) fun g₅ h' t' v k5 F e => ?_
   obtain ⟨tp, rfl⟩ := e
   refine cEnd k5 F ?_
   rw [List.take_add_one, hp, List.map_append]
   exact (hzs.up k5).snoc (.str _ _)
 intro g₁' g₁ D h' tk ys k1 k1' hys eD F
 rw [ibl, List.take_length] at hys
 refine neD (g := g₁) F.keep (hov.up k1) (.list eD (hys.up k1')) (shaped_texts hb) (shaped_texts hb) hA.c (wpAny_truthy_bool ?_)
 rw [eqv_texts]
 rw [if_neg (by decide)]
 refine isTrue_or ?_
 refine wpAny_isTrue_Compare1 ?_
 refine ld14 C F ?_
 refine evLst (h₀ := h₀) (xt := []) (g₀ := g₀) (L := env.locals) (N := nLaw) (l := la) (k := ja) (items := ia) (cl := []) ["place"] ["_law_written"] (fun i g' ws => Dts g' ws ((La.take i).map fun p => .str (writtenT p))) hA.handled (by decide +kernel) rfl C (by rw [sizeLine_eq]; omega) ?_
 refine ld12 C F ⟨rfl, g₁, _, _, F, k1 _ _ ela, .nil, cturn ?_, ?_⟩
 · rintro i v s1 g' us zs I oI C' D' h tk hi kg' hzs hus Cc F
   obtain ⟨u0, rfl⟩ := List.length_eq_one_iff.mp hus
   obtain ⟨d, hd, hdt⟩ := dla.get hi
   obtain ⟨p, hp, rfl⟩ : ∃ x, La[i]? = some x ∧ dPlace x = d := by simpa using hd
   have hg := ha p (List.mem_of_getElem? hp)
   have X' := X.up (k1.tr kg')
   refine st0 Cc F fun h' F => ?_
   refine tests0 ?_
   refine C1 (N_law_written Cc X'.toStat F.keep (.head _) ?_)
   refine ld0 Cc F ?_
   refine ⟨⟨_, F.keep _ _ (X'.fnAt 19 rfl)⟩, ?_⟩
   refine call_c F (written_gives (n := n + 8) X'.toStat F.keep hA _ p (hdt.up (k1.tr kg')) hg.len (fun ns hns => OctOk_all ns (hg.nm ns hns))) fun g₅ h' t' v k5 F e => ?_
   obtain ⟨tp, rfl⟩ := e
   refine cEnd k5 F ?_
   rw [List.take_add_one, hp, List.map_append]
   exact (hzs.up k5).snoc (.str _ _)
 intro g₂' g₂ D2 h' tk ys k2 k2' hys eD2 F
 rw [ial, List.take_length] at hys
 refine neD (g := g₂) F.keep (htv.up (k1.tr k2)) (.list eD2 (hys.up k2')) (shaped_texts ha) (shaped_texts ha) hA.c (wpAny_truthy_bool ?_)
 rw [eqv_texts]
 rw [if_neg (by decide)]
 refine isTrue_or_nil ?_
 rw [if_neg (by decide)]
 refine wpAny_execs_nil ?_
 dsimp only
 exact h g₂ _ _ (k1.tr k2) F
end
def KS : Frag := [(242, smCls)]
theorem KS_in {g : Heap} (X : Sm g) : KS.In g := by
 intro a o h
 obtain ⟨rfl, rfl⟩ : a = 242 ∧ smCls = o := by
  have := mem_lk h
  simp only [KS, List.mem_singleton, Prod.mk.injEq] at this
  exact ⟨this.1, this.2.symm⟩
 exact X.ob2 (242, smCls) (.head _)
theorem sm_call {M : Model} {h : Heap} (X : KS.In h) : Looks M h (specialOf (.ref 242) "__call__") (some (.builtin "type.__call__")) := looks_specialIn X (by kernel_rfl)
theorem ato_nil : AtO emDict [] := by
 refine ⟨fun _ => none, ?_, ?_⟩
 · exact ⟨#[], _, rfl, fun e he => absurd he (by simp), by unfold UniqKeys; simp, fun n => rfl⟩
 · intro x
   cases attrs.idxOf? x <;> rfl
section
variable {w : World} {A : Around} {s : Shared} {E : Value → Shared → Prop}
variable {h₀ g₀ g : Heap} {xt : List Addr} {L : Addr} {N : List Str} {vs : List (Option Value)} {mu : List (Addr × Obj)} {n : Nat}
theorem new_sm {la lb ka kb : Nat} {TA TB : List (Str × Tok)} {Q : Value → Shared → Prop} (X : Sm2 g) (hA : Ok A (n + 6)) (F : St h₀ xt g₀ g L N vs mu s.heap) (ea : g.get? la = some (lstObj (strValues TA) ka)) (eb : g.get? lb = some (lstObj (strValues TB) kb))
 (hnd : (TB.map (·.1)).Nodup) (za : TA.length < 200) (zb : TB.length < 200)
 (h : ∀ g' x dx db dj dp od h' t', Le g g' → Ready w g' h' x dx la lb db dj dp TA TB .none .none → St h₀ xt g₀ g' L N vs ((dx, od) :: mu) h' → h₀.objs.size ≤ dx → Q (.ref x) { s with heap := h', toks := t' }) :
 wpAny (model pw w) A (call (.ref 242) [.none, .ref la, .ref lb]) Q E s := by
 obtain ⟨m, hns, hm, hl⟩ := X.ns
 obtain ⟨hp, gn, dr, tk, os⟩ := s
 dsimp only at F h ⊢
 have hC := F.keep _ _ (X.ob2 (242, smCls) (.head _))
 refine tc_new hC (hns.keeps F.keep) (hm ("__init__", .ref 160) (.head _)) (F.keep _ _ (X.fnAt 0 rfl)) rfl ?_
 have low : h₀.objs.size ≤ hp.objs.size := F.lowSz
 have F₁ := F.own emDict
 obtain ⟨g₁, k1, ex, F₂⟩ := F₁.made (instO hp.objs.size)
 have es : (hp.push emDict).objs.size = hp.objs.size + 1 := Heap.size_push ..
 rw [es] at ex
 have X₁ := X.up k1
 have mt := F₂.mt (hp.objs.size, emDict) (.head _)
 refine call_x (s := ⟨(hp.push emDict).push (instO hp.objs.size), gn, dr, tk, os⟩) F₂ (init_gives (n := n) X₁.toSm F₂.keep ((hA.under (w_tc 242 _) (u_tc 242 _)).le (Nat.le_refl _)) ex mt.1 mt.2.2.1 ato_nil TB (k1 _ _ eb) hnd zb) fun g₃ h' t' v k3 hF p => ?_
 obtain ⟨rfl, od, db, dj, dp, es', en, led, hod, ha, edb, ned, hB, ej⟩ := p
 refine ⟨rfl, ?_⟩
 have F₃ := hF od hod
 have kk := k1.tr k3
 have hx := k3 _ _ ex
 have me : Me h' (hp.objs.size + 1) hp.objs.size [.none, .ref la, .ref lb, .bool true, .none, .none, .none, .ref db, .ref dj, .ref dp] := Me.of (pre := []) (post := mu) hx F₃ ha
 exact h g₃ _ _ db dj dp od h' t' kk ⟨hx, me, ⟨ka, kk _ _ ea⟩, ⟨kb, kk _ _ eb⟩, ⟨es', en, edb, hB⟩, ned, ⟨led, ej⟩, hnd, za, zb⟩ F₃ low
end
structure Runs (L1 L2 : List Pl) (R : List Run) : Prop where
 box : Box (L1.map writtenT) (L2.map writtenT) 0 L1.length 0 L2.length R
 hH : hdsTo (prsOf L1 L2) (prsOf L1 L2).length = R.map fun r => (r.1, r.2.1)
 hE : ensTo (prsOf L1 L2) (prsOf L1 L2).length = R.map fun r => (r.1 + r.2.2, r.2.1 + r.2.2)
 len : R.length < 60
abbrev opsOf (L1 L2 : List Pl) (R : List Run) : PyData := .list ((opsFrom 0 0 (R ++ [(L1.length, L2.length, 0)])).map dOp)
section
variable {w : World} {A : Around} {s : Shared} {env : Env} {E : Value → Shared → Prop}
variable {h₀ g₀ g : Heap} {n : Nat} {Q : Flow → Shared → Prop}
set_option maxHeartbeats 8000000 in
theorem ph5 (X : Sm2 g) (hA : Ok A (n + 9)) (C : Cx env nLaw glLaw) {Lb La : List Pl} {R R' : List Run} (hR : Runs Lb La R) (hR' : Runs La Lb R') (nb : (Lb.map writtenT).Nodup) (na : (La.map writtenT).Nodup) (zb : Lb.length ≤ 8) (za : La.length ≤ 32) {v0 u1 u2 u3 u4 u5 u6 u7 u8 u9 u10 : Option Value} {bv av ov tv : Value}
 (hov : Dt g ov (dTexts Lb)) (htv : Dt g tv (dTexts La))
 (F : St h₀ [] g₀ g env.locals nLaw [v0, u1, u2, u3, u4, u5, u6, u7, u8, u9, u10, some bv, some av, some ov, some tv, none, none, none, none, none, none, none, none] [] s.heap)
 (h : ∀ g' mv t1 t2 t3 th bk h' t', Le g g' → Dt g' th (opsOf Lb La R) → Dt g' bk (opsOf La Lb R') →
  St h₀ [] g₀ g' env.locals nLaw [v0, u1, u2, u3, u4, u5, u6, u7, u8, u9, u10, some bv, some av, some ov, some tv, some mv, some (.int ((best 0 0 R).1 : Int) t1), some (.int ((best 0 0 R).2.1 : Int) t2), some (.int ((best 0 0 R).2.2 : Int) t3), some th, some bk, none, none] [] h' →
  wpAny (model pw w) A (execs (bodyLaw.drop 14) env) Q E { s with heap := h', toks := t' }) :
 wpAny (model pw w) A (execs (bodyLaw.drop 10) env) Q E s := by
 obtain ⟨lo, io, jo, rfl, elo, dlo⟩ := hov.listInv
 obtain ⟨lt, it, jt, rfl, elt, dlt⟩ := htv.listInv
 obtain ⟨TA, rfl, hTA⟩ := Dts.strs (ns := Lb.map writtenT) (by rw [List.map_map]; exact dlo)
 obtain ⟨TB, rfl, hTB⟩ := Dts.strs (ns := La.map writtenT) (by rw [List.map_map]; exact dlt)
 have lA : TA.length = Lb.length := by have := congrArg List.length hTA; simpa using this
 have lB : TB.length = La.length := by have := congrArg List.length hTB; simpa using this
 have hin : ("SequenceMatcher" : Str) ∈ glLaw := .tail _ (.tail _ (.tail _ (.tail _ (.tail _ (.tail _ (.head _))))))
 refine wpAny_execs_cons ?_
 refine wpAny_Assign_Name ?_
 refine C3k (N_SequenceMatcher C X.toStat F.keep hin ?_)
 refine ⟨242, rfl, ?_⟩
 refine wpAny_Constant_none ?_
 refine ld13 C F ?_
 refine ld14 C F ?_
 refine ⟨⟨_, _, _, _, F.keep _ _ (X.ob2 (242, smCls) (.head _))⟩, sm_call ((KS_in X.toSm).keeps F.keep), ?_⟩
 refine new_sm (n := n + 3) X hA F elo elt (by rw [hTB]; exact na) (by omega) (by omega) fun g₁ x dx db dj dp od h' t' k1 Rd F low => ?_
 obtain ⟨hx, me, hka, hkb, hb2, dbs, hjk, nb', szA, szB⟩ := Rd
 have hat := me.ato (F.mt (dx, od) (.head _)).1
 have hbox : Box (TA.map (·.1)) (TB.map (·.1)) 0 TA.length 0 TB.length R := by rw [hTA, hTB, lA, lB]; exact hR.box
 refine st15 C F fun h' F => ?_
 dsimp only
 have X₁ := X.up k1
 have hy1 : typeLookup (.type "object") "find_longest_match" = pure none := by rw [typeLookup_type, builtinLookup_eq_fast]; kernel_rfl
 have hy2 : typeLookup (.type "object") "get_opcodes" = pure none := by rw [typeLookup_type, builtinLookup_eq_fast]; kernel_rfl
 refine wpAny_execs_cons ?_
 refine Assign_Tuple ?_
 refine ME0 rfl rfl ?_
 refine ld15 C F ?_
 intro pl
 have me' := Me.of (pre := []) (post := []) hx F hat
 refine methA (f := 196) (fd := fdFind) X₁.toSm F.keep me' (by decide) (by decide +kernel) (X₁.fnAt 5 rfl) hy1 ?_
 refine ⟨⟨_, F.keep _ _ (X₁.fnAt 5 rfl)⟩, ?_⟩
 refine call_c F (find_gives (n := n + 4) X₁ F.keep hA ⟨hx, me', hka, hkb, hb2, dbs, hjk, nb', szA, szB⟩ (alo := 0) (ahi := TA.length) (blo := 0) (bhi := TB.length) (BindsTo.of_defaults rfl (F.keep _ _ (X₁.obAt 1 rfl)) rfl rfl rfl) (.inr ⟨rfl, rfl⟩) (.inr ⟨rfl, rfl⟩) (Nat.le_refl _) (Nat.le_refl _) (Nat.zero_le _) (Nat.zero_le _) (hbox.stop nb')) fun g₂ h' t' v k2 F e => ?_
 obtain ⟨m, d3, t1, t2, t3, rfl, em⟩ := e
 have X₂ := X₁.up k2
 have hsc := hbox.scan nb'
 generalize Mine.scan (TA.map (·.1)) (TB.map (·.1)) 0 TB.length (TA.length - 0) 0 (first 0 0) = S at em hsc
 have e1 : S.bi = (best 0 0 R).1 := by rw [← hsc]; rfl
 have e2 : S.bj = (best 0 0 R).2.1 := by rw [← hsc]; rfl
 have e3 : S.bk = (best 0 0 R).2.2 := by rw [← hsc]; rfl
 rw [e1, e2, e3] at em
 refine asM hA.handled X₂ F em fun h' F => ?_
 refine assignInOrder_cons (assign_Name (st16 C F fun h' F => ?_))
 refine assignInOrder_cons (assign_Name (st17 C F fun h' F => ?_))
 refine assignInOrder_cons (assign_Name (st18 C F fun h' F => assignInOrder_nil ?_))
 dsimp only
 refine wpAny_execs_cons ?_
 refine wpAny_Assign_Name ?_
 refine ME0 rfl rfl ?_
 refine ld15 C F ?_
 intro pl
 have hx₂ := k2 _ _ hx
 have me₂ := Me.of (pre := []) (post := []) hx₂ F hat
 obtain ⟨ka, ea⟩ := hka
 obtain ⟨kb, eb⟩ := hkb
 obtain ⟨es, en, edb, hB⟩ := hb2
 obtain ⟨led, ej⟩ := hjk
 refine methA (f := 210) (fd := fdCodes) X₂.toSm F.keep me₂ (by decide) (by decide +kernel) (X₂.fnAt 7 rfl) hy2 ?_
 refine ⟨⟨_, F.keep _ _ (X₂.fnAt 7 rfl)⟩, ?_⟩
 refine call_but F (codes_gives (n₀ := n) X₂ F.keep hA ⟨hx₂, me₂, ⟨ka, k2 _ _ ea⟩, ⟨kb, k2 _ _ eb⟩, ⟨es, en, k2 _ _ edb, hB.up k2⟩, dbs, ⟨led, k2 _ _ ej⟩, nb', szA, szB⟩ (F.mt (dx, od) (.head _)).2.2.1 hbox hR.len) fun g₃ h' t' th k3 F hth => ?_
 rw [lA, lB] at hth
 refine st19 C F fun h' F => ?_
 dsimp only
 have X₃ := X₂.up k3
 have k13 := k1.tr (k2.tr k3)
 refine wpAny_execs_cons ?_
 refine wpAny_Assign_Name ?_
 refine ME0 rfl rfl ?_
 refine C3k (N_SequenceMatcher C X₃.toStat F.keep hin ?_)
 refine ⟨242, rfl, ?_⟩
 refine wpAny_Constant_none ?_
 refine ld14 C F ?_
 refine ld13 C F ?_
 refine ⟨⟨_, _, _, _, F.keep _ _ (X₃.ob2 (242, smCls) (.head _))⟩, sm_call ((KS_in X₃.toSm).keeps F.keep), ?_⟩
 refine new_sm (n := n + 3) X₃ hA F (k13 _ _ elt) (k13 _ _ elo) (by rw [hTA]; exact nb) (by omega) (by omega) fun g₄ y dy db2 dj2 dp2 od2 h' t' k4 Rd2 F low2 => ?_
 intro pl
 have X₄ := X₃.up k4
 have hbox2 : Box (TB.map (·.1)) (TA.map (·.1)) 0 TB.length 0 TA.length R' := by rw [hTA, hTB, lA, lB]; exact hR'.box
 refine methA (f := 210) (fd := fdCodes) X₄.toSm F.keep Rd2.me (by decide) (by decide +kernel) (X₄.fnAt 7 rfl) hy2 ?_
 refine ⟨⟨_, F.keep _ _ (X₄.fnAt 7 rfl)⟩, ?_⟩
 refine call_but F (codes_gives (n₀ := n) X₄ F.keep hA Rd2 (F.mt (dy, od2) (.head _)).2.2.1 hbox2 hR'.len) fun g₅ h' t' bk k5 F hbk => ?_
 rw [lA, lB] at hbk
 refine st20 C F fun h' F => ?_
 dsimp only
 exact h g₅ _ _ _ _ _ _ _ _ (k13.tr (k4.tr k5)) (hth.up (k4.tr k5)) hbk F
end
def triOf (r : Run) : PyData := .tuple [.int (-(r.2.2 : Int)), .int (r.1 : Int), .int (r.2.1 : Int)]
theorem ltP_tri (r b : Run) : ltP (triOf r) (triOf b) = decide (b.2.2 < r.2.2 ∨ (b.2.2 = r.2.2 ∧ (r.1 < b.1 ∨ (r.1 = b.1 ∧ r.2.1 < b.2.1)))) := by
 simp only [triOf, ltP, ltAllP, PyData.eqv]
 by_cases h1 : b.2.2 = r.2.2
 · by_cases h2 : r.1 = b.1
   · by_cases h3 : r.2.1 = b.2.1
     · simp [h1, h2, h3]
     · have : ¬ ((r.2.1 : Int) = (b.2.1 : Int)) := by omega
       simp [h1, h2, this]
   · have : ¬ ((r.1 : Int) = (b.1 : Int)) := by omega
     simp [h1, h2, this]
 · have : ¬ (-(r.2.2 : Int) = -(b.2.2 : Int)) := by omega
   have h4 : (-(r.2.2 : Int) < -(b.2.2 : Int)) ↔ b.2.2 < r.2.2 := by omega
   simp [this, h1, h4]
def tris (R : List Run) : List PyData := (((0, 0, 0) : Run) :: R).map triOf
theorem best_snoc (R : List Run) (r : Run) : best 0 0 (R ++ [r]) = upd (best 0 0 R) r := by unfold best; rw [List.foldl_append]; rfl
theorem best_min {R : List Run} (hs : R.Pairwise Bef) (hp : ∀ r ∈ R, 0 < r.2.2) : ∀ k ≤ R.length, (((0, 0, 0) : Run) :: R)[argBest (fun i j => ltP ((tris R).getD i .none) ((tris R).getD j .none)) k]? = some (best 0 0 (R.take k)) ∧ (best 0 0 (R.take k) = (0, 0, 0) ∨ ∃ m < k, R[m]? = some (best 0 0 (R.take k)))
 | 0, _ => ⟨rfl, .inl rfl⟩
 | k + 1, hk => by
  obtain ⟨e, hb⟩ := best_min hs hp k (by omega)
  have hl : k < R.length := by omega
  have et : R.take (k + 1) = R.take k ++ [R[k]] := by rw [List.take_add_one, List.getElem?_eq_getElem hl]; rfl
  rw [et, best_snoc]
  generalize hB : best 0 0 (R.take k) = B at e hb ⊢
  generalize hM : argBest (fun i j => ltP ((tris R).getD i .none) ((tris R).getD j .none)) k = M at e
  have hrk := hp _ (List.getElem_mem hl)
  have d1 : (tris R).getD (k + 1) .none = triOf R[k] := by
   rw [List.getD_eq_getElem?_getD, tris, List.getElem?_map, List.getElem?_cons_succ, List.getElem?_eq_getElem hl]; rfl
  have d2 : (tris R).getD M .none = triOf B := by
   rw [List.getD_eq_getElem?_getD, tris, List.getElem?_map, e]; rfl
  have hlt : ltP ((tris R).getD (k + 1) .none) ((tris R).getD M .none) = decide (B.2.2 < (R[k]).2.2) := by
   rw [d1, d2, ltP_tri]
   apply decide_eq_decide.mpr
   constructor
   · rintro (q | ⟨q1, q2⟩)
     · exact q
     · exfalso
       rcases hb with rfl | ⟨m, hm, hm2⟩
       · rw [← q1] at hrk; simp at hrk
       · obtain ⟨hm3, rfl⟩ := List.getElem?_eq_some_iff.mp hm2
         have := List.pairwise_iff_getElem.mp hs m k hm3 hl hm
         unfold Bef at this
         have h0 := hp _ (List.getElem_mem hm3)
         omega
   · exact .inl
  simp only [argBest, hM]
  rw [hlt]
  unfold upd
  by_cases q : B.2.2 < (R[k]).2.2
  · rw [if_pos (by simpa using q), if_pos q]
    exact ⟨by rw [List.getElem?_cons_succ, List.getElem?_eq_getElem hl], .inr ⟨k, by omega, List.getElem?_eq_getElem hl⟩⟩
  · rw [if_neg (by simpa using q), if_neg q]
    refine ⟨e, ?_⟩
    rcases hb with rfl | ⟨m, hm, hm2⟩
    · exact .inl rfl
    · exact .inr ⟨m, by omega, hm2⟩
def eqOp (r : Run) : Op := (("equal" : Str), r.1, r.1 + r.2.2, r.2.1, r.2.1 + r.2.2)
theorem tagOf_eq (p q : Bool) : decide (tagOf p q = ("equal" : Str)) = false := by cases p <;> cases q <;> decide +kernel
theorem step_eqs (i j : Nat) (r : Run) : (opStep i j r).filter (fun c : Op => decide (c.1 = ("equal" : Str))) = if 0 < r.2.2 then [eqOp r] else [] := by
 have ht := tagOf_eq (decide (i < r.1)) (decide (j < r.2.1))
 have he : decide (("equal" : Str) = ("equal" : Str)) = true := by decide +kernel
 unfold opStep eqOp
 rw [List.filter_append]
 have h1 : (if i < r.1 ∨ j < r.2.1 then ([(tagOf (decide (i < r.1)) (decide (j < r.2.1)), i, r.1, j, r.2.1)] : List Op) else []).filter (fun c : Op => decide (c.1 = ("equal" : Str))) = [] := by
  split
  · rw [List.filter_cons]; dsimp only; rw [ht]; rfl
  · rfl
 rw [h1, List.nil_append]
 split
 · rw [List.filter_cons]; dsimp only; rw [he]; rfl
 · rfl
theorem ops_eqs : ∀ (R : List Run) (i j : Nat), (opsFrom i j R).filter (fun c : Op => decide (c.1 = ("equal" : Str))) = (R.filter fun r => decide (0 < r.2.2)).map eqOp
 | [], _, _ => rfl
 | r :: R, i, j => by
  rw [opsFrom, List.filter_append, step_eqs, ops_eqs R, List.filter_cons]
  by_cases q : 0 < r.2.2
  · rw [if_pos q, if_pos (by simpa using q)]; rfl
  · rw [if_neg q, if_neg (by simpa using q)]; rfl
theorem ops_eqs' {R : List Run} (hp : ∀ r ∈ R, 0 < r.2.2) (n m : Nat) : (opsFrom 0 0 (R ++ [(n, m, 0)])).filter (fun c : Op => decide (c.1 = ("equal" : Str))) = R.map eqOp := by
 rw [ops_eqs, List.filter_append, List.filter_eq_self.mpr (fun r hr => by simpa using hp r hr)]
 simp
theorem tag_ok (p q : Bool) : PyData.strOk (tagOf p q) = true := by cases p <;> cases q <;> decide +kernel
theorem equal_ok : PyData.strOk ("equal" : Str) = true := by decide +kernel
theorem tags_ok : ∀ (R : List Run) (i j : Nat), ∀ c ∈ opsFrom i j R, PyData.strOk c.1 = true
 | [], _, _, c, h => nomatch h
 | r :: R, i, j, c, h => by
  rw [opsFrom] at h
  rcases List.mem_append.mp h with h | h
  · unfold opStep at h
    rcases List.mem_append.mp h with h | h
    · split at h
      · rw [List.mem_singleton.mp h]; exact tag_ok _ _
      · cases h
    · split at h
      · rw [List.mem_singleton.mp h]; exact equal_ok
      · cases h
  · exact tags_ok R _ _ c h
theorem eqv_op (c : Op) : PyData.eqv (dOp c) (dOp c) = true := by
 simp [dOp, PyData.eqv, PyData.eqvAll]
theorem eqv_tri (r : Run) : PyData.eqv (triOf r) (triOf r) = true := by
 simp [triOf, PyData.eqv, PyData.eqvAll]
abbrev resD (r : Run) (o1 o2 : List Op) : PyData := .list [triOf r, .list (o1.map dOp), .list (o2.map dOp)]
theorem eqv_res (r : Run) (o1 o2 : List Op) : PyData.eqv (resD r o1 o2) (resD r o1 o2) = true := by
 have h1 := eqvAll_refl eqv_op o1
 have h2 := eqvAll_refl eqv_op o2
 simp only [resD, PyData.eqv, PyData.eqvAll, eqv_tri, h1, h2, Bool.and_self]
theorem canLay_ops : ∀ (o : List Op), (∀ c ∈ o, PyData.strOk c.1 = true) → PyData.canLayAll0 (o.map dOp) = true
 | [], _ => rfl
 | c :: o, h => by
  have h1 := h c (.head _)
  simp only [List.map_cons, PyData.canLayAll0, dOp, PyData.canLay0, h1, canLay_ops o fun x hx => h x (.tail _ hx), Bool.and_self]
theorem shaped_res (r : Run) {o1 o2 : List Op} (h1 : ∀ c ∈ o1, PyData.strOk c.1 = true) (h2 : ∀ c ∈ o2, PyData.strOk c.1 = true) : SeqAt.shaped (resD r o1 o2) = true := by
 have hc : (resD r o1 o2).canLay0 = true := by
  simp only [resD, PyData.canLay0, PyData.canLayAll0, triOf, canLay_ops o1 h1, canLay_ops o2 h2, Bool.and_self]
 have hd : (resD r o1 o2).depth ≤ 3 := by
  have e : ∀ o : List Op, PyData.depthAll (o.map dOp) ≤ 1 := fun o => depth_map (f := dOp) (n := 1) (fun c => by simp [dOp, PyData.depth, PyData.depthAll]) o
  have := e o1
  have := e o2
  simp only [resD, triOf, PyData.depth, PyData.depthAll]
  omega
 simp only [SeqAt.shaped, hc, Bool.true_and, decide_eq_true_eq]
 omega
section
variable {prog : Program} {w : World} {A : Around} {s : Shared} {env : Env} {E : Value → Shared → Prop}
variable {h₀ g₀ g : Heap} {xt : List Addr} {L : Addr} {N Go No : List Str} {vs : List (Option Value)} {mu : List (Addr × Obj)}
theorem evLstT {elt iter : Expr} {elts : List Expr} {kk : Nat} {p : Pos} {ifs : List Expr} {scope : Scope} {pos : Pos} {cl : List (Str × Addr)} {l : Addr} {items : List Value} {k : Nat} {Q : Value → Shared → Prop}
 (Nn Gl : List Str) (J : Nat → Heap → List Value → Prop) (hh : A.handled = none) (hc : chkC scope Nn Gl = true) (hclo : clo env.cells scope.names [] = some cl) (C₀ : Cx env No Go) (hn : items.length ≤ sizeLine)
 (h : wpAny (model prog w) A (eval iter env) (fun xv s₁ => xv = .ref l ∧ ∃ g₁ vs₁ mu₁, St h₀ xt g₀ g₁ L N vs₁ mu₁ s₁.heap ∧ g₁.get? l = some (lstObj items k) ∧ J 0 g₁ [] ∧ CTurn prog w A env scope cl elt (.Tuple elts kk p) ifs Nn Gl g₁ (fun i v => items[i]? = some v) J ∧
  ∀ g' g₂ D h' tk ys, Le g₁ g₂ → Le g' g₂ → J items.length g' ys → g₂.get? D = some (lst ys) → St h₀ xt g₀ g₂ L N vs₁ mu₁ h' → Q (.ref D) { s₁ with heap := h', toks := tk }) no s)
 (hs : ∀ x, foldedSetIterable iter env x = pure x := by intro _; rfl) :
 wpAny (model prog w) A (eval (.ListComp elt [⟨.Tuple elts kk p, iter, ifs, 0⟩] scope pos) env) Q E s := by
 refine evComp Nn Gl hc hclo (wpAny_mono h (fun xv s₁ h₁ => ?_) fun _ _ e => e) hs
 obtain ⟨rfl, g₁, vs₁, mu₁, F, hl, hj, turn, done⟩ := h₁
 refine wpAny_pyIter_list ⟨_, F.keep _ _ hl, rfl, _, rfl⟩ ?_
 have F₁ := F.own (litObj l)
 obtain ⟨hI, h0⟩ := It.list (prog := prog) (w := w) (A := A) (target := .Tuple elts kk p) hh hl (F₁.mt _ (.head _)).2.2.1 F₁.keep (F₁.mt _ (.head _)).1 fun i v s Q hit h => go_tup hit h
 exact cmpE (Q := Q) J hc C₀ F₁ hI h0 hj hn turn fun g' g₂ D h' tk ys a b c d e => done g' g₂ D h' tk ys a b c d e
end
section
variable {w : World} {A : Around} {s : Shared} {env : Env} {E : Value → Shared → Prop}
variable {h₀ g₀ g : Heap} {n : Nat}
theorem eqS {prog : Program} {a b : Str} {t u : Tok} {Q : Value → Shared → Prop} (h : Q (.bool (decide (a = b))) s) : wpAny (model prog w) A (compareOp .Eq (.str a t) (.str b u)) Q E s := by
 refine P.eq_str ?_
 have e : (a.cps.toList == b.cps.toList) = decide (a = b) := by
  by_cases q : a = b
  · subst q; simp
  · have : a.cps.toList ≠ b.cps.toList := fun z => q (str_ext z)
    rw [decide_eq_false q, beq_eq_false_iff_ne.mpr this]
 rw [e]; exact h
theorem negI {prog : Program} {a : Int} {t : Tok} {Q : Value → Shared → Prop} (h : Q (.int (-a) s.toks) { s with toks := s.toks + 1 }) : wpAny (model prog w) A (unaryOp .USub (.int a t)) Q E s := P.neg_int h
theorem Runs.inn {L1 L2 : List Pl} {R : List Run} (h : Runs L1 L2 R) : ∀ r ∈ R, r.1 + r.2.2 ≤ L1.length ∧ r.2.1 + r.2.2 ≤ L2.length ∧ 0 < r.2.2 := fun r hr => by
 have := h.box.inn r hr; omega
set_option maxHeartbeats 8000000 in
theorem ph6 {s₀ : Shared} (X : Sm2 g) (hA : Ok A (n + 9)) (C : Cx env nLaw glLaw) {Lb La : List Pl} {R R' : List Run} (hR : Runs Lb La R) (hR' : Runs La Lb R') (zb : Lb.length ≤ 8) (za : La.length ≤ 32) {v0 u1 u2 u3 u4 u5 u6 u7 u8 u9 u10 u13 u14 u15 : Option Value} {bv av th bk : Value} {t1 t2 t3 : Tok}
 (hbv : Dt g bv (dRows Lb)) (hav : Dt g av (dRows La)) (hth : Dt g th (opsOf Lb La R)) (hbk : Dt g bk (opsOf La Lb R'))
 (F : St s₀.heap [] g₀ g env.locals nLaw [v0, u1, u2, u3, u4, u5, u6, u7, u8, u9, u10, some bv, some av, u13, u14, u15, some (.int ((best 0 0 R).1 : Int) t1), some (.int ((best 0 0 R).2.1 : Int) t2), some (.int ((best 0 0 R).2.2 : Int) t3), some th, some bk, none, none] [] s.heap)
 (hs : ∃ h t, s = { s₀ with heap := h, toks := t }) :
 wpAny (model pw w) A (execs (bodyLaw.drop 14) env) (Ends s₀ [] g₀ (fun _ _ v => v = .bool true)) (fun _ _ => False) s := by
 obtain ⟨hh, tt, rfl⟩ := hs
 dsimp only at F
 have hpos : ∀ r ∈ R, 0 < r.2.2 := fun r hr => (hR.inn r hr).2.2
 have hin : ("_law_codes" : Str) ∈ glLaw := .tail _ (.tail _ (.tail _ (.tail _ (.tail _ (.tail _ (.tail _ (.head _)))))))
 have hin2 : ("min" : Str) ∈ glLaw := .tail _ (.tail _ (.tail _ (.tail _ (.tail _ (.tail _ (.tail _ (.tail _ (.head _))))))))
 refine wpAny_execs_cons ?_
 refine wpAny_Assign_Name ?_
 refine C2 (N_law_codes C X.toStat F.keep hin ?_)
 refine ld11 C F ?_
 refine ld12 C F ?_
 refine ⟨⟨_, F.keep _ _ (X.fnAt 24 rfl)⟩, ?_⟩
 refine call_c F (lcodes_gives (n := n + 7) X.toStat F.keep hA bv av Lb La hbv hav (by omega) (by omega) hR.hH hR.hE hR.box.sep hR.inn (by have := hR.len; omega)) fun g₁ h' t' due k1 F hdue => ?_
 refine st21 C F fun h' F => ?_
 dsimp only
 have X₁ := X.up k1
 obtain ⟨ld, id, jd, rfl, eld, dld⟩ := hdue.listInv
 have hRl := hR.len
 have hol := opsFrom_len (R ++ [(Lb.length, La.length, 0)]) 0 0
 have heq := ops_eqs' hpos Lb.length La.length
 have htg := tags_ok (R ++ [(Lb.length, La.length, 0)]) 0 0
 rw [List.length_append, List.length_singleton] at hol
 have hdue₀ := hdue
 have hth₁ := hth.up k1
 change Dt g₁ th (.list ((opsFrom 0 0 (R ++ [(Lb.length, La.length, 0)])).map dOp)) at hth₁
 generalize opsFrom 0 0 (R ++ [(Lb.length, La.length, 0)]) = AL at dld hdue₀ hol heq htg hth₁
 have idl : id.length = AL.length := by simpa using dld.len
 refine wpAny_execs_cons ?_
 refine wpAny_Assign_Name ?_
 refine C1 (N_min C X₁.toStat F.keep hin2 ?_)
 refine wpAny_BinOp ?_
 refine lstE ?_
 refine sp1 ?_
 refine tupE ?_
 refine sp1 (wpAny_Constant_int ?_)
 refine sp1 (wpAny_Constant_int ?_)
 refine sp1 (wpAny_Constant_int ?_)
 refine sp0 ?_
 refine newTup F fun T0 g₂ h' k2 eT0 F => ?_
 refine sp0 ?_
 refine newLst F fun l0 g₃ h' k3 el0 F => ?_
 refine evLstT (h₀ := s₀.heap) (xt := []) (g₀ := g₀) (L := env.locals) (N := nLaw) (l := ld) (k := jd) (items := id) (cl := []) ["tag", "a", "b", "c", "d"] [] (fun i g' ws => Dts g' ws (((AL.take i).filter (fun c : Op => decide (c.1 = ("equal" : Str)))).map fun c => .tuple [.int ((c.2.1 : Int) - (c.2.2.1 : Int)), .int (c.2.1 : Int), .int (c.2.2.2.1 : Int)])) hA.handled (by decide +kernel) rfl C (by rw [sizeLine_eq]; omega) ?_
 refine ld21 C F ⟨rfl, g₃, _, _, F, (k2.tr k3) _ _ eld, .nil, ?_, ?_⟩
 · rintro i v s1 g' us ys I oI C' D' h tk hi kg' hys hus Cc F
   obtain ⟨w0, w1, w2, w3, w4, rfl⟩ : ∃ a b c d e, us = [a, b, c, d, e] := by
    rcases us with _ | ⟨a, _ | ⟨b, _ | ⟨c, _ | ⟨d, _ | ⟨e, _ | ⟨f, us⟩⟩⟩⟩⟩⟩ <;> simp at hus
    exact ⟨_, _, _, _, _, rfl⟩
   obtain ⟨d, hd, hdt⟩ := ((dld.up (k2.tr k3)).up kg').get hi
   obtain ⟨c, hc, rfl⟩ : ∃ x, AL[i]? = some x ∧ dOp x = d := by simpa using hd
   obtain ⟨T, vv, rfl, eT, dT⟩ := hdt.tupInv
   cases dT with
   | cons a1 r1 => cases r1 with
    | cons a2 r2 => cases r2 with
     | cons a3 r3 => cases r3 with
      | cons a4 r4 => cases r4 with
       | cons a5 r5 => cases r5 with
        | nil =>
         obtain ⟨q1, rfl⟩ := a1.strInv
         obtain ⟨q2, rfl⟩ := a2.intInv
         obtain ⟨q3, rfl⟩ := a3.intInv
         obtain ⟨q4, rfl⟩ := a4.intInv
         obtain ⟨q5, rfl⟩ := a5.intInv
         refine asT hA.handled F eT fun h' F => ?_
         refine assignInOrder_cons (assign_Name (st0 Cc F fun h' F => ?_))
         refine assignInOrder_cons (assign_Name (st1 Cc F fun h' F => ?_))
         refine assignInOrder_cons (assign_Name (st2 Cc F fun h' F => ?_))
         refine assignInOrder_cons (assign_Name (st3 Cc F fun h' F => ?_))
         refine assignInOrder_cons (assign_Name (st4 Cc F fun h' F => assignInOrder_nil ?_))
         dsimp only
         have e : ((AL.take (i + 1)).filter (fun c : Op => decide (c.1 = ("equal" : Str)))) = ((AL.take i).filter (fun c : Op => decide (c.1 = ("equal" : Str)))) ++ (if c.1 = ("equal" : Str) then [c] else []) := by
          rw [List.take_add_one, hc, List.filter_append]
          by_cases q : c.1 = ("equal" : Str) <;> simp [q]
         rw [e]
         refine tests1 ?_
         refine wpAny_isTrue_Compare1 ?_
         refine ld0 Cc F ?_
         refine Constant_str ?_
         refine eqS (wpAny_truthy_bool ?_)
         by_cases q : c.1 = ("equal" : Str)
         · rw [if_pos (by simp [q]), if_pos q, List.map_append]
           refine tupE ?_
           refine sp1 ?_
           refine wpAny_BinOp ?_
           refine ld1 Cc F ?_
           refine ld2 Cc F ?_
           refine subI ?_
           refine sp1 (ld1 Cc F ?_)
           refine sp1 (ld3 Cc F ?_)
           refine sp0 ?_
           refine newTup F fun T5 g₅ h' k5 eT5 F => ?_
           refine cEnd k5 F ?_
           exact (hys.up k5).snoc (.tuple eT5 (.cons (.int _ _) (.cons (.int _ _) (.cons (.int _ _) .nil))))
         · rw [if_neg (by simp [q]), if_neg q, List.append_nil]
           exact cEnd Le.rfl' F hys
 intro g₃' g₄ D h' tk ys k4 k4' hys eD F
 rw [idl, List.take_length, heq] at hys
 have hys : Dts g₄ ys (R.map triOf) := by
  have := hys.up k4'
  rw [List.map_map] at this
  have em : ((fun c : Op => PyData.tuple [.int ((c.2.1 : Int) - (c.2.2.1 : Int)), .int (c.2.1 : Int), .int (c.2.2.2.1 : Int)]) ∘ eqOp) = triOf := by
   funext r
   simp only [Function.comp, eqOp, triOf]
   rw [show ((r.1 : Int) - ((r.1 + r.2.2 : Nat) : Int)) = -(r.2.2 : Int) by omega]
  rw [em] at this
  exact this
 have ysl : ys.length = R.length := by simpa using hys.len
 refine addL F (k4 _ _ el0) eD (by simp; omega) fun l1 g₅ h' k5 el1 F => ⟨trivial, ?_⟩
 have hit : Dts g₅ ([Value.ref T0] ++ ys) (tris R) := by
  refine .cons (.tuple ((k3.tr (k4.tr k5)) _ _ eT0) (.cons (.int _ _) (.cons (.int _ _) (.cons (.int _ _) .nil)))) (hys.up k5)
 have hcmp : CmpIn pw w A.in1.in1 .Lt g₅ ([Value.ref T0] ++ ys) (fun i j => ltP ((tris R).getD i .none) ((tris R).getD j .none)) := by
  intro i j vi vj s Q E kk hi hj hq
  obtain ⟨di, hdi, dti⟩ := hit.get hi
  obtain ⟨dj, hdj, dtj⟩ := hit.get hj
  simp only [List.getD_eq_getElem?_getD, hdi, hdj, Option.getD_some] at hq
  obtain ⟨ri, _, rfl⟩ := List.mem_map.mp (List.mem_of_getElem? hdi)
  obtain ⟨rj, _, rfl⟩ := List.mem_map.mp (List.mem_of_getElem? hdj)
  have hu : A.in1.in1.units + 2 * 1 + 1 < cLine := by
   have := hA.units
   show A.units + 1 + 1 + 2 * 1 + 1 < cLine
   unfold cLine; omega
  exact ltAt_dt 1 (triOf ri) (triOf rj) A.in1.in1 s vi vj dti dtj kk (by simp [triOf, PyData.depth, PyData.depthAll]) rfl rfl rfl hu pw w E Q hq
 refine minL hA.handled _ hcmp F el1 (by simp) fun lv h' tk hv F => ?_
 have hbest := (best_min hR.box.sep hpos R.length (Nat.le_refl _)).1
 rw [List.take_length] at hbest
 rw [show ([Value.ref T0] ++ ys).length - 1 = R.length by simp [ysl]] at hv
 obtain ⟨dl, hdl, hlv⟩ := hit.get hv
 have edl : dl = triOf (best 0 0 R) := by
  rw [tris, List.getElem?_map] at hdl
  unfold tris at hbest
  rw [hbest] at hdl
  exact (Option.some.inj hdl).symm
 subst edl
 refine st22 C F fun h' F => ?_
 dsimp only
 have k15 := k2.tr (k3.tr (k4.tr k5))
 have X₅ := X₁.up k15
 refine wpAny_execs_cons ?_
 refine wpAny_Return_some ?_
 refine wpAny_Compare1 ?_
 refine lstE ?_
 refine sp1 ?_
 refine tupE ?_
 refine sp1 ?_
 refine wpAny_UnaryOp ?_
 refine ld18 C F ?_
 refine negI ?_
 refine sp1 (ld16 C F ?_)
 refine sp1 (ld17 C F ?_)
 refine sp0 ?_
 refine newTup F fun T6 g₆ h' k6 eT6 F => ?_
 refine sp1 (ld19 C F ?_)
 refine sp1 (ld20 C F ?_)
 refine sp0 ?_
 refine newLst F fun l7 g₇ h' k7 el7 F => ?_
 have X₇ := X₅.up (k6.tr k7)
 refine lstE ?_
 refine sp1 (ld22 C F ?_)
 refine sp1 (ld21 C F ?_)
 refine sp1 ?_
 refine C2 (N_law_codes C X₇.toStat F.keep hin ?_)
 refine ld12 C F ?_
 refine ld11 C F ?_
 refine ⟨⟨_, F.keep _ _ (X₇.fnAt 24 rfl)⟩, ?_⟩
 have k17 := k1.tr (k15.tr (k6.tr k7))
 refine call_c F (lcodes_gives (n := n + 7) X₇.toStat F.keep hA av bv La Lb (hav.up k17) (hbv.up k17) (by omega) (by omega) hR'.hH hR'.hE hR'.box.sep hR'.inn (by have := hR'.len; omega)) fun g₈ h' t' due2 k8 F hdue2 => ?_
 refine sp0 ?_
 refine newLst F fun l9 g₉ h' k9 el9 F => ?_
 have k89 := k8.tr k9
 refine eqD (g := g₉) (da := resD (best 0 0 R) AL (opsFrom 0 0 (R' ++ [(La.length, Lb.length, 0)]))) (db := resD (best 0 0 R) AL (opsFrom 0 0 (R' ++ [(La.length, Lb.length, 0)]))) F.keep ?_ ?_ (shaped_res _ htg (tags_ok _ 0 0)) (shaped_res _ htg (tags_ok _ 0 0)) hA.c ?_
 · refine .list (k89 _ _ el7) (.cons (.tuple ((k7.tr k89) _ _ eT6) (.cons (.int _ _) (.cons (.int _ _) (.cons (.int _ _) .nil)))) (.cons (hth₁.up (k15.tr (k6.tr (k7.tr k89)))) (.cons (hbk.up (k17.tr k89)) .nil)))
 · refine .list el9 (.cons (hlv.up (k6.tr (k7.tr k89))) (.cons (hdue₀.up (k15.tr (k6.tr (k7.tr k89)))) (.cons (hdue2.up k9) .nil)))
 rw [eqv_res]
 exact ends F rfl
end
def RunsAll : Prop := ∀ (P1 P2 L1 L2 : List Pl), (∀ p ∈ P1, GoodPl p) → (∀ p ∈ P2, GoodPl p) → P1.length ≤ 32 → P2.length ≤ 32 → Lst P1 L1 → Lst P2 L2 → (L1.map writtenT).Nodup ∧ ∃ R, Runs L1 L2 R
section
variable {w : World} {A : Around} {s : Shared} {g : Heap} {n : Nat}
set_option maxHeartbeats 8000000 in
theorem law_gives (hall : RunsAll) (X : Sm2 g) (kg : Le g s.heap) (hA : Ok A (n + 10)) {v : Value} {xs : List Int} (hv : Dt g v (.list (xs.map .int))) (hxs : xs.length ≤ 63) :
 Gives pw w A (.call (.ref 428) ⟨[v], []⟩) s [] g (fun _ _ r => r = .bool true) := by
 obtain ⟨ls, sv, ks, rfl, els, hsv⟩ := hv.listInv
 refine Gives.go 25 [.ref ls] ["script"] ["x", "places", "hung", "rows", "paths", "deed", "which", "front", "old", "new", "before", "after", "one", "two", "matcher", "i", "j", "size", "there", "back", "due", "longest"] glLaw rfl X.toStat kg hA rfl (BindsTo.of_eq rfl) rfl (by decide +kernel) fun h₁ env A' t' hA' C F => ?_
 dsimp only [List.map_cons, List.map_nil, List.append_nil, List.cons_append, List.nil_append] at F C
 have hP := P0_len xs
 have hPF := P0_fine xs
 have hPG := P0_good xs
 refine ph1 (n := n) X hA' C els hsv hxs F fun g₁ pl hu h' t' k1 hpl hhu F => ?_
 refine ph2 (n := n) (X.up k1) hA' C (k1 _ _ els) (hsv.up k1) hxs hPF hP.1 hP.2 hpl hhu F fun g₂ rv pv u1 u6 u7 u8 u9 u10 h' t' k2 hrv hpv F => ?_
 have hds := deeds_len xs
 obtain ⟨hRf, hRl⟩ := goD_fine hPF (deedsOf xs) 2
 rw [List.take_of_length_le hds] at hRf hRl
 have hRl : (goD (P0 xs) (deedsOf xs)).length ≤ 32 := by have := hP.1; omega
 have hRG : ∀ p ∈ goD (P0 xs) (deedsOf xs), GoodPl p := fun p hp => (hRf p hp).good (by omega)
 generalize goD (P0 xs) (deedsOf xs) = R0 at hrv hpv hRl hRG
 have hPG' : ∀ p ∈ P0 xs, GoodPl p := fun p hp => (hPG p hp).1
 generalize P0 xs = P1 at hP hpl hhu hPG'
 refine ph3 (n := n) ((X.up k1).up k2) hA' C hPG' hRG hP.1 hRl (hpl.up k2) (hhu.up k2) hrv hpv F fun g₃ bv av ov tv Lb La h' t' k3 hLb hLa hbv hav hov htv F => ?_
 have hbG : ∀ p ∈ Lb, GoodPl p := fun p hp => hPG' p ((hLb.mem p).mp hp)
 have haG : ∀ p ∈ La, GoodPl p := fun p hp => hRG p ((hLa.mem p).mp hp)
 have zb : Lb.length ≤ 8 := Nat.le_trans hLb.len hP.1
 have za : La.length ≤ 32 := Nat.le_trans hLa.len hRl
 refine ph4 (n := n) (((X.up k1).up k2).up k3) hA' C hbG haG zb za hbv hav hov htv F fun g₄ h' t' k4 F => ?_
 obtain ⟨nb, R, hR⟩ := hall P1 R0 Lb La hPG' hRG (by omega) hRl hLb hLa
 obtain ⟨na, R', hR'⟩ := hall R0 P1 La Lb hRG hPG' hRl (by omega) hLa hLb
 refine ph5 (n := n) ((((X.up k1).up k2).up k3).up k4) hA' C hR hR' nb na zb za (hov.up k4) (htv.up k4) F fun g₅ mv t1 t2 t3 th bk h' t' k5 hth hbk F => ?_
 exact ph6 (n := n) (s₀ := s) (((((X.up k1).up k2).up k3).up k4).up k5) hA' C hR hR' zb za (hbv.up (k4.tr k5)) (hav.up (k4.tr k5)) hth hbk F ⟨_, _, rfl⟩
end
end Mine
namespace Mine
open PySem
abbrev Pr := Nat × Nat
def Inc (P : List Pr) : Prop := P.Pairwise fun p q => p.1 < q.1 ∧ p.2 < q.2
abbrev adj (p q : Pr) : Prop := p.1 + 1 = q.1 ∧ p.2 + 1 = q.2
def runsOf : List Pr → List Run
 | [] => []
 | p :: ps => match runsOf ps with
  | [] => [(p.1, p.2, 1)]
  | r :: rs => if adj p (r.1, r.2.1) then (p.1, p.2, r.2.2 + 1) :: rs else (p.1, p.2, 1) :: r :: rs
theorem runs_head (p : Pr) (ps : List Pr) : ∃ k rs, runsOf (p :: ps) = (p.1, p.2, k) :: rs := by
 rw [runsOf]
 cases runsOf ps with
 | nil => exact ⟨_, _, rfl⟩
 | cons r rs =>
  dsimp only
  split
  · exact ⟨_, _, rfl⟩
  · exact ⟨_, _, rfl⟩
theorem runs_nil {ps : List Pr} (h : runsOf ps = []) : ps = [] := by
 cases ps with
 | nil => rfl
 | cons p ps => obtain ⟨k, rs, e⟩ := runs_head p ps; rw [e] at h; cases h
theorem runs_pos : ∀ (P : List Pr), ∀ r ∈ runsOf P, 0 < r.2.2
 | [], r, h => nomatch h
 | p :: ps, r, h => by
  have ih := runs_pos ps
  rw [runsOf] at h
  cases e : runsOf ps with
  | nil => rw [e] at h; rw [List.mem_singleton.mp h]; exact Nat.one_pos
  | cons q qs =>
   rw [e] at h ih
   dsimp only at h
   split at h
   · rcases List.mem_cons.mp h with rfl | h
     · exact Nat.succ_pos _
     · exact ih r (.tail _ h)
   · rcases List.mem_cons.mp h with rfl | h
     · exact Nat.one_pos
     · exact ih r h
theorem runs_len : ∀ (P : List Pr), (runsOf P).length ≤ P.length
 | [] => Nat.le_refl _
 | p :: ps => by
  have ih := runs_len ps
  rw [runsOf]
  cases e : runsOf ps with
  | nil => simp
  | cons q qs =>
   rw [e] at ih
   dsimp only
   split <;> simp only [List.length_cons] at ih ⊢ <;> omega
theorem runs_mem : ∀ (P : List Pr), ∀ r ∈ runsOf P, ∀ t < r.2.2, (r.1 + t, r.2.1 + t) ∈ P
 | [], r, h, _, _ => nomatch h
 | p :: ps, r, h, t, ht => by
  have ih := runs_mem ps
  rw [runsOf] at h
  cases e : runsOf ps with
  | nil =>
   rw [e] at h
   rw [List.mem_singleton.mp h] at ht ⊢
   have : t = 0 := by dsimp only at ht; omega
   subst this
   exact .head _
  | cons q qs =>
   rw [e] at h ih
   dsimp only at h
   split at h
   · rename_i ha
     rcases List.mem_cons.mp h with rfl | h
     · cases t with
       | zero => exact .head _
       | succ t =>
        have := ih q (.head _) t (by dsimp only at ht; omega)
        unfold adj at ha
        dsimp only at ha ⊢
        rw [show p.1 + (t + 1) = q.1 + t by omega, show p.2 + (t + 1) = q.2.1 + t by omega]
        exact .tail _ this
     · exact .tail _ (ih r (.tail _ h) t ht)
   · rcases List.mem_cons.mp h with rfl | h
     · have : t = 0 := by dsimp only at ht; omega
       subst this
       exact .head _
     · exact .tail _ (ih r h t ht)
theorem runs_all : ∀ (P : List Pr), ∀ p ∈ P, ∃ r ∈ runsOf P, ∃ t < r.2.2, p = (r.1 + t, r.2.1 + t)
 | [], _, h => nomatch h
 | p :: ps, x, h => by
  have ih := runs_all ps
  rw [runsOf]
  cases e : runsOf ps with
  | nil =>
   rw [runs_nil e] at h
   rw [List.mem_singleton.mp h]
   exact ⟨_, .head _, 0, Nat.one_pos, rfl⟩
  | cons q qs =>
   rw [e] at ih
   dsimp only
   split
   · rename_i ha
     rcases List.mem_cons.mp h with rfl | h
     · exact ⟨_, .head _, 0, Nat.succ_pos _, rfl⟩
     · obtain ⟨r, hr, t, ht, rfl⟩ := ih x h
       rcases List.mem_cons.mp hr with rfl | hr
       · refine ⟨_, .head _, t + 1, by dsimp only; omega, ?_⟩
         unfold adj at ha
         dsimp only at ha ⊢
         rw [show p.1 + (t + 1) = r.1 + t by omega, show p.2 + (t + 1) = r.2.1 + t by omega]
       · exact ⟨r, .tail _ hr, t, ht, rfl⟩
   · rcases List.mem_cons.mp h with rfl | h
     · exact ⟨_, .head _, 0, Nat.one_pos, rfl⟩
     · obtain ⟨r, hr, t, ht, e2⟩ := ih x h
       exact ⟨r, .tail _ hr, t, ht, e2⟩
theorem runs_sep : ∀ {P : List Pr}, Inc P → (runsOf P).Pairwise Bef
 | [], _ => .nil
 | p :: ps, hI => by
  obtain ⟨h1, h2⟩ := List.pairwise_cons.mp hI
  have ih := runs_sep h2
  have hpos := runs_pos ps
  have hmem := runs_mem ps
  rw [runsOf]
  cases e : runsOf ps with
  | nil => exact List.pairwise_singleton ..
  | cons q qs =>
   rw [e] at ih hpos hmem
   obtain ⟨i1, i2⟩ := List.pairwise_cons.mp ih
   have hq := h1 _ (hmem q (.head _) 0 (hpos q (.head _)))
   dsimp only at hq ⊢
   split
   · rename_i ha
     refine List.pairwise_cons.mpr ⟨fun r hr => ?_, i2⟩
     have := i1 r hr
     unfold Bef adj at *
     dsimp only at *
     omega
   · rename_i ha
     refine List.pairwise_cons.mpr ⟨fun r hr => ?_, ih⟩
     rcases List.mem_cons.mp hr with rfl | hr
     · unfold Bef adj at *
       dsimp only at *
       omega
     · have := i1 r hr
       have := hpos q (.head _)
       unfold Bef at *
       dsimp only at *
       omega
def hdR : Option Pr → List Pr → List Pr
 | _, [] => []
 | none, p :: ps => p :: hdR (some p) ps
 | some q, p :: ps => (if adj q p then [] else [p]) ++ hdR (some p) ps
def enR : List Pr → List Pr
 | [] => []
 | [p] => [(p.1 + 1, p.2 + 1)]
 | p :: q :: ps => (if adj p q then [] else [(p.1 + 1, p.2 + 1)]) ++ enR (q :: ps)
theorem runs_hd : ∀ (P : List Pr), (runsOf P).map (fun r => (r.1, r.2.1)) = hdR none P
 | [] => rfl
 | [p] => rfl
 | p :: q :: ps => by
  have ih := runs_hd (q :: ps)
  obtain ⟨k, rs, e⟩ := runs_head q ps
  rw [e] at ih
  rw [runsOf, e]
  dsimp only
  simp only [List.map_cons, hdR] at ih ⊢
  have ih := (List.cons.inj ih).2
  by_cases ha : adj p q
  · rw [if_pos (show adj p (q.1, q.2) from ha), if_pos ha, List.map_cons, ih]; rfl
  · rw [if_neg (show ¬ adj p (q.1, q.2) from ha), if_neg ha, List.map_cons, List.map_cons, ih]; rfl
theorem runs_en : ∀ (P : List Pr), (runsOf P).map (fun r => (r.1 + r.2.2, r.2.1 + r.2.2)) = enR P
 | [] => rfl
 | [p] => rfl
 | p :: q :: ps => by
  have ih := runs_en (q :: ps)
  obtain ⟨k, rs, e⟩ := runs_head q ps
  rw [e] at ih
  rw [runsOf, e]
  dsimp only
  rw [enR, ← ih]
  by_cases ha : adj p q
  · rw [if_pos (show adj p (q.1, q.2) from ha), if_pos ha, List.map_cons, List.map_cons, List.nil_append]
    unfold adj at ha
    dsimp only
    rw [show p.1 + (k + 1) = q.1 + k by omega, show p.2 + (k + 1) = q.2 + k by omega]
  · rw [if_neg (show ¬ adj p (q.1, q.2) from ha), if_neg ha, List.map_cons]; rfl
theorem getD_app {pre suf : List Pr} {p : Pr} : (pre ++ p :: suf).getD pre.length (0, 0) = p := by
 rw [List.getD_eq_getElem?_getD]; simp
theorem inc_le {P : List Pr} (h : Inc P) {i j : Nat} (hij : i ≤ j) (hj : j < P.length) : (P.getD i (0, 0)).1 ≤ (P.getD j (0, 0)).1 := by
 rw [List.getD_eq_getElem?_getD, List.getD_eq_getElem?_getD, List.getElem?_eq_getElem (by omega), List.getElem?_eq_getElem hj]
 rcases Nat.lt_or_ge i j with q | q
 · have := List.pairwise_iff_getElem.mp h i j (by omega) hj q
   simp only [Option.getD_some]; omega
 · have : i = j := by omega
   subst this; exact Nat.le_refl _
theorem hds_suf {P : List Pr} (hI : Inc P) : ∀ (suf pre : List Pr), P = pre ++ suf → ((List.range' pre.length suf.length).filter (isHd P)).map (fun k => P.getD k (0, 0)) = hdR pre.getLast? suf
 | [], pre, _ => by cases pre.getLast? <;> rfl
 | p :: suf, pre, e => by
  have ih := hds_suf hI suf (pre ++ [p]) (by rw [e]; simp)
  rw [List.length_cons, List.range'_succ, List.filter_cons]
  rw [List.length_append, List.length_singleton, List.getLast?_concat] at ih
  have hc : P.getD pre.length (0, 0) = p := by rw [e]; exact getD_app
  have hlt : pre.length < P.length := by rw [e]; simp
  rcases pre.eq_nil_or_concat with rfl | ⟨pre', q, rfl⟩
  · have hh : isHd P ([] : List Pr).length = true := by
     unfold isHd prvP
     have h0 : ([] : List Pr).length = 0 := rfl
     rw [h0] at hlt ⊢
     rw [if_pos rfl]
     have := inc_le hI (i := 0) (j := P.length - 1) (by omega) (by omega)
     have hne : ¬ ((P.getD (P.length - 1) (0, 0)).1 + 1 = (P.getD 0 (0, 0)).1) := by omega
     rw [decide_eq_false hne]; rfl
    rw [if_pos hh, List.map_cons, ih, hc]; rfl
  · rw [List.concat_eq_append] at *
    have hq : prvP P (pre' ++ [q]).length = q := by
     unfold prvP
     rw [if_neg (by simp), List.length_append, List.length_singleton, Nat.add_sub_cancel, e, List.append_assoc]
     exact getD_app
    have hh : isHd P (pre' ++ [q]).length = !decide (adj q p) := by
     unfold isHd
     rw [hq, hc]
     unfold adj
     rw [Bool.decide_and]
    rw [hh, List.getLast?_concat, hdR]
    by_cases ha : adj q p
    · rw [if_pos ha, if_neg (by simp [ha]), List.nil_append]; exact ih
    · rw [if_neg ha, if_pos (by simp [ha]), List.map_cons, hc, ih]; rfl
theorem hds_eq {P : List Pr} (hI : Inc P) : hdsTo P P.length = hdR none P := by
 have := hds_suf hI P [] rfl
 unfold hdsTo
 rw [List.range_eq_range']
 exact this
theorem ens_suf {P : List Pr} (hI : Inc P) : ∀ (suf pre : List Pr), P = pre ++ suf → ((List.range' pre.length suf.length).filter (isEn P)).map (fun k => ((P.getD k (0, 0)).1 + 1, (P.getD k (0, 0)).2 + 1)) = enR suf
 | [], pre, _ => rfl
 | [p], pre, e => by
  have hc : P.getD pre.length (0, 0) = p := by rw [e]; exact getD_app
  have hlen : P.length = pre.length + 1 := by rw [e]; simp
  have hh : isEn P pre.length = true := by
   unfold isEn nxtP
   rw [hlen, Nat.mod_self]
   have := inc_le hI (i := 0) (j := pre.length) (by omega) (by omega)
   have hne : ¬ ((P.getD 0 (0, 0)).1 = (P.getD pre.length (0, 0)).1 + 1) := by omega
   rw [decide_eq_false hne]; rfl
  rw [List.length_singleton, List.range'_one, List.filter_cons, if_pos hh, List.filter_nil, List.map_cons, List.map_nil, hc]; rfl
 | p :: q :: suf, pre, e => by
  have ih := ens_suf hI (q :: suf) (pre ++ [p]) (by rw [e]; simp)
  rw [List.length_cons, List.range'_succ, List.filter_cons]
  rw [List.length_append, List.length_singleton] at ih
  have hc : P.getD pre.length (0, 0) = p := by rw [e]; exact getD_app
  have hlen : pre.length + 1 < P.length := by rw [e]; simp
  have hn : nxtP P pre.length = q := by
   unfold nxtP
   rw [Nat.mod_eq_of_lt hlen, e, show pre ++ p :: q :: suf = (pre ++ [p]) ++ q :: suf by simp, show pre.length + 1 = (pre ++ [p]).length by simp]
   exact getD_app
  have hh : isEn P pre.length = !decide (adj p q) := by
   unfold isEn
   rw [hn, hc]
   unfold adj
   rw [Bool.decide_and]
   congr 2
   · exact decide_eq_decide.mpr eq_comm
   · exact decide_eq_decide.mpr eq_comm
  rw [hh, enR]
  by_cases ha : adj p q
  · rw [if_pos ha, if_neg (by simp [ha]), List.nil_append]; exact ih
  · rw [if_neg ha, if_pos (by simp [ha]), List.map_cons, hc, ih]; rfl
theorem ens_eq {P : List Pr} (hI : Inc P) : ensTo P P.length = enR P := by
 have := ens_suf hI P [] rfl
 unfold ensTo
 rw [List.range_eq_range']
 exact this
theorem idx_lt {L : List Pl} (h : L.Pairwise (· < ·)) {p q : Pl} (hp : p ∈ L) (hq : q ∈ L) (hpq : p < q) : L.idxOf p < L.idxOf q := by
 have lp := List.idxOf_lt_length_iff.mpr hp
 have lq := List.idxOf_lt_length_iff.mpr hq
 rcases Nat.lt_trichotomy (L.idxOf p) (L.idxOf q) with z | z | z
 · exact z
 · exfalso
   have e1 := List.getElem_idxOf lp
   have e2 := List.getElem_idxOf lq
   have e3 : L[L.idxOf p] = L[L.idxOf q] := by congr 1
   rw [e1, e2] at e3
   rw [e3] at hpq
   exact List.lt_irrefl _ hpq
 · exfalso
   have := List.pairwise_iff_getElem.mp h _ _ lq lp z
   rw [List.getElem_idxOf lq, List.getElem_idxOf lp] at this
   exact List.lt_asymm hpq this
theorem prs_inc {L1 L2 : List Pl} (h1 : L1.Pairwise (· < ·)) (h2 : L2.Pairwise (· < ·)) : Inc (prsOf L1 L2) := by
 unfold Inc prsOf
 rw [List.pairwise_map]
 have hf : (L1.filter fun p => decide (p ∈ L2)).Pairwise (· < ·) := h1.filter _
 refine List.Pairwise.imp_of_mem (fun {p q} hp hq hpq => ?_) hf
 obtain ⟨p1, p2⟩ := List.mem_filter.mp hp
 obtain ⟨q1, q2⟩ := List.mem_filter.mp hq
 exact ⟨idx_lt h1 p1 q1 hpq, idx_lt h2 (by simpa using p2) (by simpa using q2) hpq⟩
theorem sorted_nodup {L : List Pl} (h : L.Pairwise (· < ·)) : L.Nodup := h.imp fun {a b} hab e => by rw [e] at hab; exact List.lt_irrefl _ hab
end Mine
namespace Mine
open PySem
theorem kp_sorted {acc r : List Pl} {x : Pl} (hs : acc.Pairwise (· < ·)) (hx : ∀ a ∈ acc, ¬ x < a) : (kp acc x).Pairwise (· < ·) := by
 unfold kp
 split
 · exact hs
 · rename_i hne
   rw [List.pairwise_append]
   refine ⟨hs, List.pairwise_singleton .., fun a ha b hb => ?_⟩
   rw [List.mem_singleton.mp hb]
   by_cases e : a < x
   · exact e
   · exfalso
     have eq : a = x := List.le_antisymm (List.not_lt.mp (hx a ha)) (List.not_lt.mp e)
     subst eq
     rcases acc.eq_nil_or_concat with rfl | ⟨l, z, rfl⟩
     · cases ha
     · rw [List.concat_eq_append] at *
       rw [List.getLast?_concat] at hne
       rcases List.mem_append.mp ha with h | h
       · have := (List.pairwise_append.mp hs).2.2 a h z (.head _)
         exact hx z (by simp) this
       · rw [List.mem_singleton.mp h] at hne; exact hne rfl
theorem kp_mem {acc : List Pl} {x : Pl} : ∀ a, a ∈ kp acc x → a ∈ acc ∨ a = x := by
 intro a h
 unfold kp at h
 split at h
 · exact .inl h
 · rcases List.mem_append.mp h with h | h
   · exact .inl h
   · exact .inr (List.mem_singleton.mp h)
theorem fold_sorted : ∀ (r acc : List Pl), acc.Pairwise (· < ·) → (∀ a ∈ acc, ∀ x ∈ r, ¬ x < a) → r.Pairwise (fun a b => decide (b < a) = false) → (r.foldl kp acc).Pairwise (· < ·)
 | [], acc, h, _, _ => h
 | x :: r, acc, h, hx, hr => by
  obtain ⟨r1, r2⟩ := List.pairwise_cons.mp hr
  refine fold_sorted r (kp acc x) (kp_sorted (r := r) h fun a ha => hx a ha x (.head _)) (fun a ha y hy => ?_) r2
  rcases kp_mem a ha with ha | rfl
  · exact hx a ha y (.tail _ hy)
  · simpa using r1 y hy
theorem Lst.sorted {P L : List Pl} (h : Lst P L) : L.Pairwise (· < ·) := by
 obtain ⟨r, p, s, rfl⟩ := h
 exact fold_sorted r [] .nil (fun a h => nomatch h) s
theorem nodup_idx {L : List Pl} (h : L.Nodup) {i : Nat} {p : Pl} (hi : L[i]? = some p) : L.idxOf p = i := by
 obtain ⟨hl, e⟩ := List.getElem?_eq_some_iff.mp hi
 have hm : p ∈ L := List.mem_of_getElem? hi
 have hlt := List.idxOf_lt_length_iff.mpr hm
 have e2 := List.getElem_idxOf hlt
 have e3 := e2.trans e.symm
 rcases Nat.lt_trichotomy (L.idxOf p) i with z | z | z
 · exact absurd e3 (List.pairwise_iff_getElem.mp h _ _ hlt hl z)
 · exact z
 · exact absurd e3.symm (List.pairwise_iff_getElem.mp h _ _ hl hlt z)
theorem prs_mem {L1 L2 : List Pl} {i j : Nat} (h : (i, j) ∈ prsOf L1 L2) : ∃ p, L1[i]? = some p ∧ L2[j]? = some p := by
 unfold prsOf at h
 obtain ⟨p, hp, e⟩ := List.mem_map.mp h
 obtain ⟨h1, h2⟩ := List.mem_filter.mp hp
 have h2 : p ∈ L2 := by simpa using h2
 obtain ⟨rfl, rfl⟩ : L1.idxOf p = i ∧ L2.idxOf p = j := by simpa using e
 refine ⟨p, ?_, ?_⟩
 · rw [List.getElem?_eq_getElem (List.idxOf_lt_length_iff.mpr h1), List.getElem_idxOf]
 · rw [List.getElem?_eq_getElem (List.idxOf_lt_length_iff.mpr h2), List.getElem_idxOf]
theorem runs_all_ok : RunsAll := by
 intro P1 P2 L1 L2 g1 g2 z1 z2 h1 h2
 have s1 := h1.sorted
 have s2 := h2.sorted
 have n1 := sorted_nodup s1
 have n2 := sorted_nodup s2
 have G1 : ∀ p ∈ L1, GoodPl p := fun p hp => g1 p ((h1.mem p).mp hp)
 have G2 : ∀ p ∈ L2, GoodPl p := fun p hp => g2 p ((h2.mem p).mp hp)
 have l1 : L1.length ≤ 32 := Nat.le_trans h1.len z1
 have hI := prs_inc s1 s2
 have hpl : (prsOf L1 L2).length ≤ L1.length := by unfold prsOf; rw [List.length_map]; exact List.length_filter_le ..
 refine ⟨?_, runsOf (prsOf L1 L2), ?_, ?_, ?_, ?_⟩
 · rw [List.nodup_iff_pairwise_ne, List.pairwise_map]
   exact n1.imp_of_mem fun {a b} ha hb hab e => hab (W_inj (G1 a ha) (G1 b hb) e)
 · refine ⟨by simp, by simp, Nat.zero_le _, Nat.zero_le _, runs_sep hI, fun r hr => ?_, fun r hr t ht => ?_, fun i j _ hi _ hj e => ?_⟩
   · have hp := runs_pos _ r hr
     have hm := runs_mem _ r hr (r.2.2 - 1) (by omega)
     obtain ⟨p, a, b⟩ := prs_mem hm
     have a := (List.getElem?_eq_some_iff.mp a).1
     have b := (List.getElem?_eq_some_iff.mp b).1
     omega
   · obtain ⟨p, a, b⟩ := prs_mem (runs_mem _ r hr t ht)
     rw [List.getElem?_map, List.getElem?_map, a, b]
   · rw [List.getElem?_map, List.getElem?_map, List.getElem?_eq_getElem hi, List.getElem?_eq_getElem hj] at e
     have e : writtenT L1[i] = writtenT L2[j] := by simpa using e
     have ee := W_inj (G1 _ (List.getElem_mem hi)) (G2 _ (List.getElem_mem hj)) e
     have hm : (i, j) ∈ prsOf L1 L2 := by
      unfold prsOf
      refine List.mem_map.mpr ⟨L1[i], List.mem_filter.mpr ⟨List.getElem_mem hi, ?_⟩, ?_⟩
      · rw [ee]; simpa using List.getElem_mem hj
      · rw [nodup_idx n1 (List.getElem?_eq_getElem hi), ee, nodup_idx n2 (List.getElem?_eq_getElem hj)]
     obtain ⟨r, hr, t, ht, e3⟩ := runs_all _ _ hm
     exact ⟨r, hr, t, ht, (Prod.mk.inj e3).1, (Prod.mk.inj e3).2⟩
 · rw [hds_eq hI, runs_hd]
 · rw [ens_eq hI, runs_en]
 · have := runs_len (prsOf L1 L2); omega
end Mine
namespace Mine
set_option maxRecDepth 1000000
set_option maxHeartbeats 0
open PySem PySem.W PyProof.Rows
def fastAny {α : Type u} (as : Array α) (p : α → Bool) (start : Nat := 0) (stop : Nat := as.size) : Bool :=
 match Nat.beq start 0 with
 | true => (as.toList.take stop).any p
 | false => Array.any as p start stop
theorem any_take {α : Type u} (as : Array α) (p : α → Bool) (stop : Nat) : Array.any as p 0 stop = (as.toList.take stop).any p := by
 rw [Bool.eq_iff_iff, Array.any_iff_exists, List.any_eq_true]
 constructor
 · rintro ⟨i, hi, _, hlt, hp⟩
   refine ⟨as[i], ?_, hp⟩
   rw [List.mem_take_iff_getElem]
   exact ⟨i, by simp; omega, by simp⟩
 · rintro ⟨x, hx, hp⟩
   rw [List.mem_take_iff_getElem] at hx
   obtain ⟨i, hi, rfl⟩ := hx
   exact ⟨i, by simp at hi; omega, Nat.zero_le _, by simp at hi; omega, by simpa using hp⟩
theorem fastAny_eq : @Array.any.{u} = @fastAny.{u} := by
 funext α as p start stop
 unfold fastAny
 cases h : Nat.beq start 0 with
 | true =>
  obtain rfl : start = 0 := Nat.eq_of_beq_eq_true h
  exact any_take as p stop
 | false => rfl
noncomputable def typeNew : Builtin := by
 refine (fun _ : True => ?f) ?p
 case p =>
  have h : PySem.W.Fast.tw4202317264376624991 = ?f := by
   unfold PySem.W.Fast.tw4202317264376624991
   rw [fastAny_eq]
  trivial
theorem typeNew_eq : PySem.W.Fast.tw4202317264376624991 = typeNew := by
 unfold PySem.W.Fast.tw4202317264376624991
 rw [fastAny_eq]
 kernel_rfl
noncomputable def tb (id : String) : Option Builtin :=
 match Nat.beq (code id) 29827186395103491166823348853 with
 | true => some typeNew
 | false => treeTable id
theorem tb_eq : treeTable = tb := by
 funext id
 unfold tb
 cases h : Nat.beq (code id) 29827186395103491166823348853 with
 | false => rfl
 | true =>
  have e := Nat.eq_of_beq_eq_true h
  obtain rfl : id = "type.__new__" := code_inj _ _ (e.trans (by kernel_rfl))
  show treeTable "type.__new__" = some typeNew
  rw [← typeNew_eq, ← PySem.W.Fast.te4202317264376624991]
  kernel_rfl
end Mine
namespace Mine
set_option maxRecDepth 1000000
set_option maxHeartbeats 0
open PySem PySem.W PyProof.Rows
def topRunT (tb : String → Option Builtin) (p : Program) (w : World) (n₀ : Nat) (ann : Option Value) : Nat → SharedT → Thread → Option SharedT
 | 0, _, _ => none
 | n + 1, s, t => match through t with
  | true => some s
  | false => match stepOk n₀ ann t with
   | false => none
   | true => match stepT (denote tb) p w s t with
    | some (s', t') => topRunT tb p w n₀ ann n s' t'
    | none => none
theorem topRun_of {tb : String → Option Builtin} {p : Program} {w : World} {n₀ : Nat} {ann : Option Value} : ∀ {n : Nat} {s s' : SharedT} {t : Thread}, topRunT tb p w n₀ ann n s t = some s' → topRun tb p w n₀ ann n s.abs t = some s'.abs
 | 0, _, _, _, h => by cases h
 | n + 1, s, s', t, h => by
  unfold topRunT at h
  unfold topRun
  cases ht : through t with
  | true => rw [ht] at h; cases h; rfl
  | false =>
   rw [ht] at h
   cases hk : stepOk n₀ ann t with
   | false => rw [hk] at h; cases h
   | true =>
    rw [hk] at h
    cases hs : stepT (denote tb) p w s t with
    | none => rw [hs] at h; cases h
    | some r => obtain ⟨s₂, t₂⟩ := r; rw [hs] at h; rw [stepT_spec hs]; exact topRun_of h
def plant : List Obj → Nat → BT → BT
 | [], _, t => t
 | o :: l, i, t => plant l (i + 1) (t.ins i o)
noncomputable def bootT (w : World) (os : OsState) : SharedT := ⟨plant (boot_heap w.params).objs.toList 0 .nil, 11, (boot_heap w.params).life, #[], boot_drawn, boot_toks, os⟩
theorem boot_abs (w : World) (os : OsState) : (bootT w os).abs = ⟨boot_heap w.params, #[], boot_drawn, boot_toks, os⟩ := by kernel_rfl!
end Mine
namespace Mine
set_option maxRecDepth 1000000
open PySem PySem.W PyProof.Rows
def codeName (h : Heap) (cd : Value) : Option Str := match cd with
 | .ref c => match h.get? c with
  | some o => match o.data with
   | .fields vs => match vs[1]? with
    | some (Value.str q _) => some q
    | _ => none
   | _ => none
  | none => none
 | _ => none
theorem codeRec_of {h : Heap} {cd : Value} {q : Str} (e : codeName h cd = some q) : h.CodeRec cd q := by
 unfold codeName at e
 split at e <;> try cases e
 rename_i c
 split at e <;> try cases e
 rename_i o ho
 split at e <;> try cases e
 rename_i vs hd
 split at e <;> cases e
 rename_i q t hv
 exact ⟨c, o, vs, t, rfl, ho, hd, hv⟩
def obsH (h : Heap) :=
 ((fnList.map fun p => h.get? p.1, fnList.map fun p => codeName h p.2.code, h.noLimitOk && h.isNs mainGlobals && h.isNs builtinsNs && h.isNs 241 && h.isNs 134 && h.isNs cStatics),
  (globList.map fun p => h.nsMap mainGlobals p.1, bltList.map fun p => h.nsMap mainGlobals p.1, bltList.map fun p => h.nsMap builtinsNs p.1),
  (obList.map fun p => h.get? p.1, obList2.map fun p => h.get? p.1),
  (smHas.map fun p => h.nsMap 241 p.1, smLacks.map fun x => h.nsMap 241 x, mtHas.map fun p => h.nsMap 134 p.1), codeName h fdMMake.code, h.nsMap cStatics "thirdparty.any")
def valH :=
 ((fnList.map fun p => some (fnObj p.2), fnList.map fun p => some p.2.qualname, true),
  (globList.map fun p => some p.2, bltList.map fun _ => (none : Option Value), bltList.map fun p => some p.2),
  (obList.map fun p => some p.2, obList2.map fun p => some p.2),
  (smHas.map fun p => some p.2, smLacks.map fun _ => (none : Option Value), mtHas.map fun p => p.2), some fdMMake.qualname, (none : Option Value))
theorem map_at {α β : Type} {f g : α → β} : ∀ {l : List α}, l.map f = l.map g → ∀ x ∈ l, f x = g x
 | a :: l, e, x, hx => by
  simp only [List.map_cons, List.cons.injEq] at e
  rcases List.mem_cons.mp hx with rfl | h
  · exact e.1
  · exact map_at e.2 x h
theorem sm2_of {h : Heap} (e : obsH h = valH) : Sm2 h := by
 unfold obsH valH at e
 simp only [Prod.mk.injEq, Bool.and_eq_true] at e
 obtain ⟨⟨e1, e2, ⟨⟨⟨⟨b1, b2⟩, b3⟩, b4⟩, b5⟩, b6⟩, ⟨g1, g2, g3⟩, ⟨o1, o2⟩, ⟨m1, m2, m3⟩, c1, c2⟩ := e
 exact
  { fn := fun p hp => ⟨map_at e1 p hp, codeRec_of (map_at e2 p hp)⟩, lim := .of_ok b1, glob := ⟨_, .of_isNs b2, map_at g1, map_at g2⟩, blt := ⟨_, .of_isNs b3, map_at g3⟩, ob := map_at o1, ob2 := map_at o2, ns := ⟨_, .of_isNs b4, map_at m1, map_at m2⟩, mns := ⟨_, .of_isNs b5, map_at m3⟩, mkrec := codeRec_of c1, cst := ⟨_, .of_isNs b6, c2⟩ }
end Mine
namespace Mine
open PySem PySem.W PyProof.Rows PySem.Calls PySem.Spec
def fdMMakeP (p : Program) : FuncData := { name := "_make", qualname := "Match._make", params := parOf (nth (inside (nth p.main.body 3)) 5), body := .stmts (bodyOf (nth (inside (nth p.main.body 3)) 5)), scope := (scopeOf (nth (inside (nth p.main.body 3)) 5)), globals := 3, closure := [], defaults := .none, kwdefaults := .none, doc := .str (docIn (bodyOf (nth (inside (nth p.main.body 3)) 5))) 293, pyModule := .str "cpy313.difflib" 194, annotations := some 92, code := .ref 88, closureTuple := .none, builtins := 0 }
def fnObsP (p : Program) : List (Option Obj) := [some (fnObj (fdMk (nth (inside (nth p.main.body 5)) 1) "__init__" "SequenceMatcher.__init__" (.ref 153) (docV (nth (inside (nth p.main.body 5)) 1) 416) "cpy313.difflib" 194 159)), some (fnObj (fdMk (nth (inside (nth p.main.body 5)) 2) "set_seqs" "SequenceMatcher.set_seqs" .none (docV (nth (inside (nth p.main.body 5)) 2) 426) "cpy313.difflib" 194 166)), some (fnObj (fdMk (nth (inside (nth p.main.body 5)) 3) "set_seq1" "SequenceMatcher.set_seq1" .none (docV (nth (inside (nth p.main.body 5)) 3) 435) "cpy313.difflib" 194 173)), some (fnObj (fdMk (nth (inside (nth p.main.body 5)) 4) "set_seq2" "SequenceMatcher.set_seq2" .none (docV (nth (inside (nth p.main.body 5)) 4) 444) "cpy313.difflib" 194 180)), some (fnObj (fdMk (nth (inside (nth p.main.body 5)) 5) "__chain_b" "SequenceMatcher.__chain_b" .none .none "cpy313.difflib" 194 187)), some (fnObj (fdMk (nth (inside (nth p.main.body 5)) 6) "find_longest_match" "SequenceMatcher.find_longest_match" (.ref 189) (docV (nth (inside (nth p.main.body 5)) 6) 490) "cpy313.difflib" 194 195)), some (fnObj (fdMk (nth (inside (nth p.main.body 5)) 7) "get_matching_blocks" "SequenceMatcher.get_matching_blocks" .none (docV (nth (inside (nth p.main.body 5)) 7) 517) "cpy313.difflib" 194 202)), some (fnObj (fdMk (nth (inside (nth p.main.body 5)) 8) "get_opcodes" "SequenceMatcher.get_opcodes" .none (docV (nth (inside (nth p.main.body 5)) 8) 532) "cpy313.difflib" 194 209)), some (fnObj (fdMk (nth (inside (nth p.main.body 3)) 4) "__new__" "Match.__new__" .none (docV (nth (inside (nth p.main.body 3)) 4) 283) "cpy313.difflib" 194 81)), some (fnObj (fdMk (nth p.main.body 7) "_buffer" "_buffer" .none .none "binascii" 583 252)), some (fnObj (fdMk (nth p.main.body 9) "b2a_hex" "b2a_hex" (.ref 255) .none "binascii" 583 261)), some (fnObj (fdMk (nth p.main.body 12) "b16encode" "b16encode" .none (docV (nth p.main.body 12) 614) "cpy313.base64" 606 268)), some (fnObj (fdMk (nth p.main.body 21) "fspath" "fspath" .none .none "os" 703 341)), some (fnObj (fdMk (nth p.main.body 25) "_get_sep" "_get_sep" .none .none "cpy313.posixpath" 728 355)), some (fnObj (fdMk (nth p.main.body 26) "join" "join" .none (docV (nth p.main.body 26) 747) "cpy313.posixpath" 728 362)), some (fnObj (fdMk (nth p.main.body 27) "split" "split" .none (docV (nth p.main.body 27) 759) "cpy313.posixpath" 728 369)), some (fnObj (fdMk (nth p.main.body 28) "commonpath" "commonpath" .none (docV (nth p.main.body 28) 766) "cpy313.posixpath" 728 374)), some (fnObj (fdMk (nth p.main.body 30) "_law_place" "_law_place" .none .none "law_ik0100_01" 768 379)), some (fnObj (fdMk (nth p.main.body 31) "_law_path" "_law_path" .none .none "law_ik0100_01" 768 384)), some (fnObj (fdMk (nth p.main.body 32) "_law_written" "_law_written" .none .none "law_ik0100_01" 768 389)), some (fnObj (fdMk (nth p.main.body 33) "_law_done" "_law_done" .none .none "law_ik0100_01" 768 396)), some (fnObj (fdMk (nth p.main.body 34) "_law_hung" "_law_hung" .none .none "law_ik0100_01" 768 403)), some (fnObj (fdMk (nth p.main.body 35) "_law_carried" "_law_carried" .none .none "law_ik0100_01" 768 410)), some (fnObj (fdMk (nth p.main.body 36) "_law_listing" "_law_listing" .none .none "law_ik0100_01" 768 417)), some (fnObj (fdMk (nth p.main.body 37) "_law_codes" "_law_codes" .none .none "law_ik0100_01" 768 422)), some (fnObj (fdMk (nth p.main.body 38) "law" "law" .none .none "law_ik0100_01" 768 427))]
def obs2P (p : Program) : List (Option Obj) := [some (smCls), some (mtCls), some ({ cls := .type "staticmethod", data := .fields #[.ref 82] }), some ({ cls := .type "classmethod", dict := some 90, data := .fields #[.ref 89, .bool false] }), some (fnObj (fdMMakeP p))]
def fnNamesV : List (Option Str) := [some fdInit.qualname, some fdSetSeqs.qualname, some fdSetSeq1.qualname, some fdSetSeq2.qualname, some fdChainB.qualname, some fdFind.qualname, some fdBlocks.qualname, some fdCodes.qualname, some fdMNew.qualname, some fdBuffer.qualname, some fdHex.qualname, some fdB16.qualname, some fdFspath.qualname, some fdGetSep.qualname, some fdJoin.qualname, some fdSplit.qualname, some fdCommon.qualname, some fdPlace.qualname, some fdPath.qualname, some fdWritten.qualname, some fdDone.qualname, some fdHung.qualname, some fdCarried.qualname, some fdListing.qualname, some fdLCodes.qualname, some fdLaw.qualname]
def globsV : List (Option Value) := [some (.ref 135), some (.ref 242), some (.ref 253), some (.ref 254), some (.ref 262), some (.ref 262), some (.ref 269), some (.ref 342), some (.ref 356), some (.ref 363), some (.ref 370), some (.ref 375), some (.ref 380), some (.ref 385), some (.ref 390), some (.ref 397), some (.ref 404), some (.ref 411), some (.ref 418), some (.ref 423)]
def bltNoV : List (Option Value) := [none, none, none, none, none, none, none, none, none, none, none, none, none, none, none, none, none, none, none, none, none, none]
def bltsV : List (Option Value) := [some (.builtin "isinstance"), some (.builtin "issubclass"), some (.builtin "len"), some (.builtin "min"), some (.builtin "max"), some (.builtin "chr"), some (.builtin "sorted"), some (.type "type"), some (.type "bytes"), some (.type "bytearray"), some (.type "str"), some (.type "tuple"), some (.type "map"), some (.type "enumerate"), some (.type "range"), some (.type "list"), some (.type "set"), some (.type "ValueError"), some (.type "TypeError"), some (.type "AttributeError"), some (.type "BytesWarning"), some (.type "int")]
def obs1V : List (Option Obj) := [some ({ cls := .type "tuple", data := .seq #[.ref 254, .int 1 594] }), some ({ cls := .type "tuple", data := .seq #[.int 0 464, .none, .int 0 465, .none] }), some ({ cls := .type "tuple", data := .seq #[.none, .str "" 404, .str "" 405, .bool true] }), some ({ cls := .type "object", data := .plain })]
def smHasV : List (Option Value) := [some (.ref 160), some (.ref 167), some (.ref 174), some (.ref 181), some (.ref 188), some (.ref 196), some (.ref 203), some (.ref 210)]
def smLackV : List (Option Value) := [none, none, none, none, none, none, none, none, none, none, none, none, none]
def mtHasV : List (Option Value) := [some (.ref 136), some (.ref 91), none, none, none, none, none, none, none, none, none, none, none, none]
def valP (p : Program) :=
 ((fnObsP p, fnNamesV, true), (globsV, bltNoV, bltsV), (obs1V, obs2P p), (smHasV, smLackV, mtHasV), (some fdMMake.qualname, (none : Option Value)))
theorem val_eq : valH = valP pw := rfl
def qL : Program := { pw with main := { pw.main with body := [stmLaw] } }
def looseL : List Str := ["_wall", "_tuplegetter", "Match", "_calculate_ratio", "SequenceMatcher", "_buffer", "_NO_SEP", "b2a_hex", "hexlify", "b16encode", "_plain_name", "ABCMeta", "_ABCLike", "_abc_plain_meta", "fspath", "_check_arg_types", "_get_sep", "join", "split", "commonpath", "_law_place", "_law_path", "_law_written", "_law_done", "_law_hung", "_law_carried", "_law_listing", "_law_codes"]
def obsF (s : Shared) := (obsH s.heap, s.heap.nsMap mainGlobals "law")
def valF := (valH, (some (Value.ref 428) : Option Value))
def Says (_ : World) (h : Heap) : Prop := Sm2 h ∧ ∃ m, h.Ns mainGlobals m ∧ m "law" = some (.ref 428)
theorem says_of (w : World) (s : Shared) (e : obsF s = valF) : Says w s.heap := by
 have X := sm2_of (congrArg Prod.fst e)
 have e1 : obsH s.heap = valH := congrArg Prod.fst e
 have b : s.heap.isNs mainGlobals = true := by
  unfold obsH valH at e1
  simp only [Prod.mk.injEq, Bool.and_eq_true] at e1
  exact e1.1.2.2.1.1.1.1.2
 exact ⟨X, _, .of_isNs b, congrArg Prod.snd e⟩
theorem says_up (w : World) (h h' : Heap) (x : Says w h) (k : ∀ b o, h.get? b = some o → h'.get? b = some o) : Says w h' :=
 ⟨x.1.up k, let ⟨m, a, b⟩ := x.2; ⟨m, a.keeps k, b⟩⟩
theorem ns_one {h : Heap} {a : Addr} {m m' : Str → Option Value} (x : h.Ns a m) (y : h.Ns a m') (n : Str) : m n = m' n := by
 obtain ⟨o, es, ep, e, d, _, f⟩ := x
 obtain ⟨o', es', ep', e', d', _, f'⟩ := y
 rw [e] at e'
 cases e'
 rw [d] at d'
 cases d'
 rw [← f, ← f']
theorem ints_of {R : WRecords} {P : Params} {h : Heap} : ∀ {vs : List Value} {ds : List WData}, WShape.hasItems R ds .int = true → WellAll P h vs ds → ∃ xs : List Int, ds = xs.map .int ∧ Dts h vs (xs.map .int)
 | _, [], _, .nil => ⟨[], rfl, .nil⟩
 | _, d :: ds, hh, .cons a b => by
  simp only [WShape.hasItems, Bool.and_eq_true] at hh
  obtain ⟨i, rfl⟩ := hasW_int hh.1
  obtain ⟨xs, rfl, hx⟩ := ints_of hh.2 b
  cases a with
  | int _ t => exact ⟨i :: xs, rfl, .cons (.int _ _) hx⟩
theorem caller_ok : Ok callerA 10 := ⟨rfl, by decide, by decide⟩
abbrev rwL : OpenLaw := PySem.Challenge.rw_ik0100_01
theorem len_of {ds : List WData} (h : rwL.row.pre.holds rwL.row.records { args := [.list ds] } = true) : ds.length ≤ 63 := by
 have h : WTm.holds [] (.and (.not (.lt (.lit (.int 63)) (.len (.arg 0)))) (.lit (.bool true))) { args := [.list ds] } = true := h
 have e : PySem.W.less? (.int 63) (.int (ds.length : Int)) = some (decide ((63 : Int) < (ds.length : Int))) := rfl
 simp only [WTm.holds, WTm.value, List.getElem?_cons_zero, e, Option.map_some] at h
 by_cases q : (63 : Int) < (ds.length : Int)
 · rw [decide_eq_true q] at h
   cases h
 · omega
theorem post_ok (A B : List WData) : rwL.row.claim.post A (.bool true) B = true := by
 show (WShape.has [] (.bool true) .bool && WTm.holds [] (.eq .res (.lit (.bool true))) { args := A, res := some (.bool true), after := B }) = true
 simp [WShape.has, WShape.arms, WTm.holds, WTm.value, PySem.W.same]
theorem call_law : WalkO qL looseL (fun _ _ => True) Says rwL.row.toRowW ⟨"law", parOf stmLaw, bodyLaw, scopeLaw, ⟨689, 0, 714, 84⟩⟩ [] fun f vs => PySem.call f vs := by
 intro w s₀ s₁ mg mb G Y a o pm cd doc dV kV ho hd hcd hdf hm hgens args vals as hpre hlay hrd hwell hlow
 obtain ⟨X, m, hns, hlaw⟩ := Y
 have hm : mg "law" = some (.ref a) := hm
 have : (some (.ref a) : Option Value) = some (.ref 428) := by rw [← hm, ← hlaw]; exact ns_one G.T.g hns _
 obtain rfl : a = 428 := by cases this; rfl
 obtain ⟨h1, h2⟩ := pre_splitW hpre
 obtain ⟨d, r, rfl, hd1, hr⟩ := hasAllW_cons h1
 obtain rfl := hasAllW_nil hr
 obtain ⟨ds, rfl, hitems⟩ := hasW_list hd1
 have hlen := len_of h2
 cases hwell with
 | cons hv hrest =>
  cases hrest
  cases hv with
  | list e hall =>
   obtain ⟨xs, rfl, hxs⟩ := ints_of hitems hall
   rw [List.length_map] at hlen
   refine wpAny_call ?_
   refine law_gives (n := 0) runs_all_ok X (g := s₁.heap) (fun _ _ e => e) caller_ok (.list e hxs) hlen _ fun g' h' t' v out hv => ?_
   subst hv
   have hb : ∀ b o, s₁.heap.get? b = some o → h'.get? b = some o := fun b o e => out.base b o (by simp) e
   refine GoodW.toG ⟨.inl ⟨.bool true, .bool true, [], rfl, fun cls => rfl, .bool _, post_ok _ _, fun _ => ⟨.nil, fun a ha => nomatch ha⟩⟩, hb, rfl, hgens⟩
end Mine
namespace Mine
set_option maxRecDepth 1000000
open PySem PySem.W PyProof.Rows PySem.Calls PySem.Spec
def topOk (p : Program) (h₀ : Heap) (s : Shared) : Bool := staticsOk (importedModules p.main.body) h₀ s.heap && namesBound p s.heap && gensDone s && laidKept h₀ s.heap
theorem left_gen {p q : Program} {loose : List Str} {Xt : Shared → Bool} {α : Type} {Yf : Shared → α} {Ya : α} {N m₀ : Nat} {ann : Option Value} {H₀ : Params → Heap} {d₀ : Drawn} {k₀ : Nat}
 (open_ : ∀ w : World, (fencedOpening treeTable p w N).map (fun s => (s.heap, s.gens, s.drawn, s.toks)) = some (H₀ w.params, Array.mk [], d₀, k₀))
 (size : ∀ w : World, ((H₀ w.params).isNs mainGlobals, (H₀ w.params).objs.size, (H₀ w.params).nsMap mainGlobals "__annotations__") = (true, m₀, ann))
 (run : ∀ (w : World) (os : OsState), ∃ s : Shared, topRun treeTable p w m₀ ann N ⟨H₀ w.params, Array.mk [], d₀, k₀, os⟩ (topStub p) = some s ∧ topOk p (H₀ w.params) s = true ∧ openSeen q loose (importedModules p.main.body) Xt true s = openGood q loose ∧ Yf s = Ya) :
 LeftO p q loose Xt Yf (fun _ => Ya) N := fun w => by
 obtain ⟨⟨h, gs, d, k, os⟩, e, e'⟩ := Option.map_eq_some_iff.mp (open_ w)
 obtain ⟨rfl, rfl, rfl, rfl⟩ : h = H₀ w.params ∧ gs = Array.mk [] ∧ d = d₀ ∧ k = k₀ := by simpa only [Prod.mk.injEq] using e'
 obtain ⟨s, hrun, v1, v2, v3⟩ := run w os
 obtain ⟨z1, z2, z3⟩ : _ ∧ _ ∧ _ := by simpa only [Prod.mk.injEq] using size w
 have t : topFrom treeTable p w N ⟨H₀ w.params, Array.mk [], d, k, os⟩ = some s := by
  unfold topFrom
  dsimp only
  rw [z1, z2, z3, hrun]
  show (match topOk p (H₀ w.params) s with | true => _ | false => _) = _
  rw [v1]
 unfold openEnds
 rw [e]
 show (topFrom treeTable p w N _).map _ = _
 rw [t]
 exact congrArg some (Prod.ext v2 v3)
theorem run_gen {p q : Program} {w : World} {tab : String → Option Builtin} (ht : treeTable = tab) {loose : List Str} {Xt : Shared → Bool} {α : Type} {Yf : Shared → α} {Ya : α} {N m₀ : Nat} {ann : Option Value} {T : SharedT} {S : Shared} (hT : T.abs = S) {h₀ : Heap}
 (hs : ∃ s, topRunT tab p w m₀ ann N T (topStub p) = some s ∧ topOk p h₀ s.abs = true ∧ openSeen q loose (importedModules p.main.body) Xt true s.abs = openGood q loose ∧ Yf s.abs = Ya) :
 ∃ s : Shared, topRun treeTable p w m₀ ann N S (topStub p) = some s ∧ topOk p h₀ s = true ∧ openSeen q loose (importedModules p.main.body) Xt true s = openGood q loose ∧ Yf s = Ya := by
 obtain ⟨s, h1, h2⟩ := hs
 subst hT ht
 exact ⟨s.abs, topRun_of h1, h2⟩
theorem size_l (w : World) : ((boot_heap w.params).isNs mainGlobals, (boot_heap w.params).objs.size, (boot_heap w.params).nsMap mainGlobals "__annotations__") = (true, 11, some (.ref 6)) := by kernel_rfl!
theorem opening_l : opening pw = plainProg pw.main.scope.names := rfl
theorem fence_l (s : Shared) : fenceModules? pw s = some s := rfl
theorem ble_l : Nat.ble 600 4000 = true := rfl
theorem boot_l : ∀ w : World, (fencedOpening treeTable pw w 4000).map (fun s => (s.heap, s.gens, s.drawn, s.toks)) = some (boot_heap w.params, Array.mk [], boot_drawn, boot_toks) := boot_open (p := pw) (N := 4000) opening_l ble_l fence_l
theorem left_of (hk : ∀ (w : World) (os : OsState), ∃ s, topRunT tb pw w 11 (some (.ref 6)) 4000 (bootT w os) (topStub pw) = some s ∧ topOk pw (boot_heap w.params) s.abs = true ∧ openSeen qL looseL (importedModules pw.main.body) (fun _ => true) true s.abs = openGood qL looseL ∧ obsF s.abs = valF) :
 LeftO pw qL looseL (fun _ => true) obsF (fun _ => valF) 4000 :=
 left_gen boot_l size_l fun w os => run_gen tb_eq (boot_abs w os) (hk w os)
end Mine
namespace Mine
set_option maxRecDepth 1000000
set_option maxHeartbeats 0
open PySem PySem.W PyProof.Rows
noncomputable def chkA (w : World) (os : OsState) :=
 (topRunT tb PySem.Challenge.pw_ik0100_01 w 11 (some (.ref 6)) 4000 (bootT w os) (topStub PySem.Challenge.pw_ik0100_01)).map fun s => (topOk PySem.Challenge.pw_ik0100_01 (boot_heap w.params) s.abs, openSeen qL looseL (importedModules PySem.Challenge.pw_ik0100_01.main.body) (fun _ => true) true s.abs, obsF s.abs)
theorem twinsA : (Function.const _ true Mine.chkA) = true := by k_qdec
theorem chkA_ok (w : World) (os : OsState) : chkA w os = some (true, openGood qL looseL, valP PySem.Challenge.pw_ik0100_01, some (Value.ref 428)) := by
 rw [PySem.W.Fast.te3583313287731996835]
 show _ = some (true, openGood qL looseL, valP PySem.Challenge.pw_ik0100_01, some (Value.ref 428))
 conv => rhs; rw [PySem.W.Fast.te14804151176394994148]
 kernel_rfl
end Mine
namespace Mine
open PySem PySem.W PyProof.Rows PySem.Calls PySem.Spec
theorem chk_all (w : World) (os : OsState) : ∃ s, topRunT tb pw w 11 (some (.ref 6)) 4000 (bootT w os) (topStub pw) = some s ∧ topOk pw (boot_heap w.params) s.abs = true ∧ openSeen qL looseL (importedModules pw.main.body) (fun _ => true) true s.abs = openGood qL looseL ∧ obsF s.abs = valF := by
 have h := chkA_ok w os
 unfold chkA at h
 obtain ⟨s, hs, hv⟩ := Option.map_eq_some_iff.mp h
 have h1 := congrArg Prod.fst hv
 have h2 := congrArg (fun x => x.2.1) hv
 have h3 := congrArg (fun x => x.2.2) hv
 refine ⟨s, hs, h1, h2, h3.trans ?_⟩
 show (valP pw, (some (Value.ref 428) : Option Value)) = (valH, some (Value.ref 428))
 rw [val_eq]
theorem wit : rwL.row.toRowW.promised := ⟨[.list []], by decide +kernel, by decide +kernel⟩
theorem row_holds (said : rwL.row.wellSaid = true) : rwL.row.Holds :=
 holds_open (q := qL) (loose := looseL) (Xt := fun _ => true) (XP := fun _ _ => True) (Yf := obsF) (Ya := fun _ => valF) (YP := Says) (N := 4000) (left_of chk_all) says_of says_up (fun _ _ => trivial) (fun _ _ _ _ _ => trivial)
  (by rfl) (by rfl) (by rfl) (fun s _ => recFacts_nil rfl) (by rfl) said (by decide +kernel) ⟨rfl, rfl, rfl, rfl, rfl, by decide +kernel⟩ wit call_law
end Mine
theorem PySem.Challenge.cw_ik0100_01_holds : PySem.Challenge.rw_ik0100_01.Holds := by
 o_law
 rename_i said
 exact Mine.row_holds said
