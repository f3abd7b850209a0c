import PyProof.Rows.All
import Wide.All
import OpenK.AllK
import Wide.FinOn
import KE.KOpsOwn
import PyProof.Rows.Range3
import Lean
import PySem.Challenge.RW_bq0014_02
open PySem PySem.Calls PyProof.Rows PySem.W
set_option Elab.async false
namespace Mine

/-- every object of `h` stands in `h'` -/
def Ext (h h' : Heap) : Prop := ∀ b o, h.get? b = some o → h'.get? b = some o
theorem Ext.refl (h : Heap) : Ext h h := fun _ _ e => e
theorem Ext.trans {a b c : Heap} (x : Ext a b) (y : Ext b c) : Ext a c := fun p o e => y p o (x p o e)
theorem Ext.push (h : Heap) (o : Obj) : Ext h (h.push o) := fun _ _ e => Heap.get?_push_of_some o e
theorem Ext.hide (h : Heap) (X : List Addr) : Ext (hideAll h X) h := fun _ _ e => of_hideAll X e
theorem hide_not_mem {h : Heap} {X : List Addr} {b : Addr} {o : Obj} (e : (hideAll h X).get? b = some o) : b ∉ X := fun m => by
  rw [hideAll_none X m] at e; cases e
theorem Ext.hide_mono {h h' : Heap} {X Y : List Addr} (k : ∀ b o, b ∉ X → h.get? b = some o → h'.get? b = some o) (s : ∀ b ∈ Y, b ∉ X → h.get? b = none) :
    Ext (hideAll h X) (hideAll h' Y) := fun b o e => by
  have nX := hide_not_mem e
  have e' := of_hideAll X e
  refine hideAll_get Y (k b o nX e') fun m => ?_
  rw [s b m nX] at e'; cases e'

/-- a persistent fact about the heap -/
structure Fact where
  holds : Heap → Prop
  mono : ∀ {h h' : Heap}, Ext h h' → holds h → holds h'

/-- a resource: it owns the addresses `fp` -/
structure Res where
  fp : List Addr
  holds : Heap → Prop
  loc : ∀ {h h' : Heap}, (∀ b ∈ fp, ∀ o, h.get? b = some o → h'.get? b = some o) → holds h → holds h'
  live : ∀ {h : Heap}, holds h → ∀ b ∈ fp, b < h.objs.size

def Res.fact (r : Res) : Fact := ⟨r.holds, fun k x => r.loc (fun b _ o e => k b o e) x⟩

abbrev fps (R : List Res) : List Addr := R.flatMap (·.fp)

structure Tab where
  c : Addr
  P : Addr
  ps : Array Value

structure Dat where
  hb : Heap
  tabs : List Tab
  os : OsState
  ng : Nat

abbrev Dat.withNg (D : Dat) (n : Nat) : Dat := { D with ng := n }
abbrev Dat.Ps (D : Dat) : List Addr := D.tabs.map (·.P)
abbrev Dat.base (D : Dat) : Heap := hideAll D.hb D.Ps
abbrev seen (D : Dat) (R : List Res) (h : Heap) : Heap := hideAll h (D.Ps ++ fps R)

/-- the generators: all bare, and no fewer than D.ng -/
def GOk (D : Dat) (g : Array GenState) : Prop := AllBare g ∧ D.ng ≤ g.size
def TabNow (t : Tab) (h : Heap) : Prop := ∃ more, h.IsCode t.c t.P (t.ps ++ more) ∧ h.TableAt t.c t.P (t.ps ++ more)

structure At (D : Dat) (Fs : List Fact) (R : List Res) (s : Shared) : Prop where
  os : s.os = D.os
  gens : GOk D s.gens
  tab : ∀ t ∈ D.tabs, TabNow t s.heap
  cs : ∀ t ∈ D.tabs, ∃ o, (seen D R s.heap).get? t.c = some o
  nodup : (D.Ps ++ fps R).Nodup
  res : ∀ r ∈ R, r.holds s.heap
  base : Ext D.base (seen D R s.heap)
  facts : ∀ F ∈ Fs, F.holds (seen D R s.heap)

/-- r replaced by r' at one place -/
inductive Rp (r r' : Res) : List Res → List Res → Prop
  | head {R} : Rp r r' (r :: R) (r' :: R)
  | tail {x R R'} : Rp r r' R R' → Rp r r' (x :: R) (x :: R')
/-- r taken out at one place -/
inductive Rm (r : Res) : List Res → List Res → Prop
  | head {R} : Rm r (r :: R) R
  | tail {x R R'} : Rm r R R' → Rm r (x :: R) (x :: R')
section
variable {D : Dat} {Fs Fs' : List Fact} {R R' : List Res} {s : Shared} {r r' : Res}

theorem TabNow.lt {t : Tab} {h : Heap} (x : TabNow t h) : t.P < h.objs.size := let ⟨_, a, _⟩ := x; a.lt.2
theorem TabNow.keep {t : Tab} {h h' : Heap} (x : TabNow t h) (hc : ∀ o, h.get? t.c = some o → h'.get? t.c = some o) (hP : ∀ o, h.get? t.P = some o → h'.get? t.P = some o) : TabNow t h' := by
  obtain ⟨more, ⟨o, vs, file, tf, flags, tg, inF, text, tt, op, a, r1, r2, r3, r4, r5, r6, b, q⟩, ⟨o2, vs2, a2, q2⟩, t2⟩ := x
  exact ⟨more, ⟨o, vs, file, tf, flags, tg, inF, text, tt, op, hc _ a, r1, r2, r3, r4, r5, r6, hP _ b, q⟩, ⟨o2, vs2, hc _ a2, q2⟩, hP _ t2⟩

theorem At.lt (H : At D Fs R s) : ∀ b ∈ D.Ps ++ fps R, b < s.heap.objs.size := by
  intro b hb
  rcases List.mem_append.mp hb with hb | hb
  · obtain ⟨t, ht, rfl⟩ := List.mem_map.mp hb
    exact (H.tab t ht).lt
  · obtain ⟨r, hr, hb⟩ := List.mem_flatMap.mp hb
    exact r.live (H.res r hr) b hb

theorem At.fact (H : At D Fs R s) {F : Fact} (hm : F ∈ Fs) : F.holds s.heap := F.mono (Ext.hide _ _) (H.facts F hm)
theorem At.ofBase (H : At D Fs R s) : Ext D.base s.heap := H.base.trans (Ext.hide _ _)

theorem At.toks (H : At D Fs R s) (t : Nat) : At D Fs R { s with toks := t } := ⟨H.os, H.gens, H.tab, H.cs, H.nodup, H.res, H.base, H.facts⟩

theorem At.sub (H : At D Fs R s) (hs : ∀ F ∈ Fs', F ∈ Fs) : At D Fs' R s := ⟨H.os, H.gens, H.tab, H.cs, H.nodup, H.res, H.base, fun F hF => H.facts F (hs F hF)⟩
theorem At.learn (H : At D Fs R s) {F G : Fact} (hm : F ∈ Fs) (h : ∀ h, F.holds h → G.holds h) : At D (G :: Fs) R s :=
  ⟨H.os, H.gens, H.tab, H.cs, H.nodup, H.res, H.base, fun F' hF => by
    rcases List.mem_cons.mp hF with rfl | hF
    · exact h _ (H.facts F hm)
    · exact H.facts F' hF⟩
theorem At.openF {ι : Sort _} (H : At D Fs R s) {F : Fact} {G : ι → Fact} (hm : F ∈ Fs) (h : ∀ h, F.holds h → ∃ x, (G x).holds h) : ∃ x, At D (G x :: Fs) R s := by
  obtain ⟨x, hx⟩ := h _ (H.facts F hm)
  refine ⟨x, H.os, H.gens, H.tab, H.cs, H.nodup, H.res, H.base, fun F' hF => ?_⟩
  rcases List.mem_cons.mp hF with rfl | hF
  · exact hx
  · exact H.facts F' hF

/-- everything stays; new facts -/
theorem At.grow {h' : Heap} {gens' : Array GenState} {tk : Nat} (H : At D Fs R s) (hx : Ext s.heap h') (hg : GOk D gens')
    (hF : ∀ F ∈ Fs', F ∈ Fs ∨ F.holds (seen D R h')) : At D Fs' R { s with heap := h', gens := gens', toks := tk } := by
  have hv : Ext (seen D R s.heap) (seen D R h') := Ext.hide_mono (fun b o _ e => hx b o e) fun b hb hn => absurd hb hn
  refine ⟨H.os, hg, fun t ht => (H.tab t ht).keep (fun o e => hx _ o e) (fun o e => hx _ o e), fun t ht => let ⟨o, ho⟩ := H.cs t ht; ⟨o, hv _ _ ho⟩, H.nodup,
    fun r hr => r.loc (fun b _ o e => hx b o e) (H.res r hr), H.base.trans hv, fun F hm => ?_⟩
  rcases hF F hm with h | h
  · exact F.mono hv (H.facts F h)
  · exact h
theorem At.keeps {h' : Heap} {tk : Nat} (H : At D Fs R s) (hx : Ext s.heap h') : At D Fs R { s with heap := h', toks := tk } :=
  H.grow (gens' := s.gens) hx H.gens fun _ h => .inl h

def Cell (a : Addr) (o : Obj) : Fact := ⟨fun h => h.get? a = some o, fun k e => k a o e⟩

theorem At.alloc {o : Obj} (H : At D Fs R s) (hf : o.isFreed = false) {tk : Nat} : At D (Cell s.heap.objs.size o :: Fs) R { s with heap := s.heap.push o, toks := tk } :=
  H.grow (gens' := s.gens) (Ext.push _ _) H.gens fun F hF => by
    rcases List.mem_cons.mp hF with rfl | hF
    · exact .inr (hideAll_get _ (Heap.get?_push_size _ hf) fun hm => Nat.lt_irrefl _ (H.lt _ hm))
    · exact .inl hF

/-- a new resource over new addresses -/
theorem At.own {h' : Heap} {gens' : Array GenState} {tk : Nat} (H : At D Fs R s) (hx : Ext s.heap h') (hg : GOk D gens') (hr : r.holds h') (hn : r.fp.Nodup) (hnew : ∀ b ∈ r.fp, s.heap.objs.size ≤ b) :
    At D Fs (r :: R) { s with heap := h', gens := gens', toks := tk } := by
  have old : ∀ b o, b ∉ D.Ps ++ fps R → s.heap.get? b = some o → b ∉ D.Ps ++ fps (r :: R) := fun b o nb e m => by
    rcases List.mem_append.mp m with m | m
    · exact nb (List.mem_append_left _ m)
    · rcases List.mem_append.mp (show b ∈ r.fp ++ fps R from m) with m | m
      · exact absurd (Heap.lt_size e) (Nat.not_lt.mpr (hnew b m))
      · exact nb (List.mem_append_right _ m)
  have hv : Ext (seen D R s.heap) (seen D (r :: R) h') := fun b o e => hideAll_get _ (hx b o (of_hideAll _ e)) (old b o (hide_not_mem e) (of_hideAll _ e))
  refine ⟨H.os, hg, fun t ht => (H.tab t ht).keep (fun o e => hx _ o e) (fun o e => hx _ o e), fun t ht => let ⟨o, ho⟩ := H.cs t ht; ⟨o, hv _ _ ho⟩, ?_, ?_, H.base.trans hv, fun F hF => F.mono hv (H.facts F hF)⟩
  · have h0 := H.nodup
    rw [List.nodup_append] at h0 ⊢
    obtain ⟨n1, n2, n3⟩ := h0
    refine ⟨n1, ?_, fun a ha b hb => ?_⟩
    · show (r.fp ++ fps R).Nodup
      rw [List.nodup_append]
      refine ⟨hn, n2, fun a ha b hb e => ?_⟩
      subst e
      exact absurd (H.lt a (List.mem_append_right _ hb)) (Nat.not_lt.mpr (hnew a ha))
    · rcases List.mem_append.mp (show b ∈ r.fp ++ fps R from hb) with hb | hb
      · rintro rfl
        exact absurd (H.lt a (List.mem_append_left _ ha)) (Nat.not_lt.mpr (hnew a hb))
      · exact n3 a ha b hb
  · intro r' hr'
    rcases List.mem_cons.mp hr' with rfl | hr'
    · exact hr
    · exact r'.loc (fun b _ o e => hx b o e) (H.res r' hr')

theorem Rp.fps_eq (h : Rp r r' R R') (e : r'.fp = r.fp) : fps R' = fps R := by
  induction h with
  | head => simp only [fps, List.flatMap_cons, e]
  | tail _ ih => simp only [fps, List.flatMap_cons] at ih ⊢; rw [ih]
theorem Rp.mem (h : Rp r r' R R') : r ∈ R := by
  induction h with
  | head => exact .head _
  | tail _ ih => exact .tail _ ih
theorem Rp.split (h : Rp r r' R R') : ∃ A B, R = A ++ r :: B ∧ R' = A ++ r' :: B := by
  induction h with
  | head => exact ⟨[], _, rfl, rfl⟩
  | tail _ ih => obtain ⟨A, B, rfl, rfl⟩ := ih; exact ⟨_ :: A, B, rfl, rfl⟩

/-- the resource r is turned, all else stands -/
theorem At.upd {h' : Heap} {gens' : Array GenState} {tk : Nat} (H : At D Fs R s) (hp : Rp r r' R R') (e : r'.fp = r.fp) (hx : ∀ b o, b ∉ r.fp → s.heap.get? b = some o → h'.get? b = some o) (hr : r'.holds h')
    (hg : GOk D gens') : At D Fs R' { s with heap := h', gens := gens', toks := tk } := by
  have hfp := hp.fps_eq e
  have hin : ∀ b ∈ r.fp, b ∈ fps R := fun b hb => List.mem_flatMap.mpr ⟨r, hp.mem, hb⟩
  have hv : Ext (seen D R s.heap) (seen D R' h') := by
    unfold seen
    rw [hfp]
    exact Ext.hide_mono (fun b o nb e => hx b o (fun m => nb (List.mem_append_right _ (hin b m))) e) fun b hb hn => absurd hb hn
  obtain ⟨A, B, eA, eB⟩ := hp.split
  have nd := H.nodup
  refine ⟨H.os, hg, fun t ht => ?_, fun t ht => let ⟨o, ho⟩ := H.cs t ht; ⟨o, hv _ _ ho⟩, by rw [hfp]; exact H.nodup, fun x hx' => ?_, H.base.trans hv, fun F hF => F.mono hv (H.facts F hF)⟩
  · obtain ⟨oc, hoc⟩ := H.cs t ht
    have nc := hide_not_mem hoc
    refine (H.tab t ht).keep (fun o e => hx _ o (fun m => nc (List.mem_append_right _ (hin _ m))) e) fun o e => hx _ o (fun m => ?_) e
    exact (List.nodup_append.mp nd).2.2 _ (List.mem_map.mpr ⟨t, ht, rfl⟩) _ (hin _ m) rfl
  · subst eA eB
    have key : ∀ y ∈ A ++ B, ∀ b ∈ y.fp, b ∉ r.fp := by
      intro y hy b hb hb'
      have n2 := (List.nodup_append.mp nd).2.1
      rw [fps, List.flatMap_append, List.flatMap_cons] at n2
      rcases List.mem_append.mp hy with hy | hy
      · exact (List.nodup_append.mp n2).2.2 b (List.mem_flatMap.mpr ⟨y, hy, hb⟩) b (List.mem_append_left _ hb') rfl
      · have n3 := (List.nodup_append.mp n2).2.1
        exact (List.nodup_append.mp n3).2.2 b hb' b (List.mem_flatMap.mpr ⟨y, hy, hb⟩) rfl
    rcases List.mem_append.mp hx' with hm | hm
    · exact x.loc (fun b hb o e => hx b o (key x (List.mem_append_left _ hm) b hb) e) (H.res x (List.mem_append_left _ hm))
    · rcases List.mem_cons.mp hm with rfl | hm
      · exact hr
      · exact x.loc (fun b hb o e => hx b o (key x (List.mem_append_right _ hm) b hb) e) (H.res x (List.mem_append_right _ (.tail _ hm)))

theorem Rm.split (h : Rm r R R') : ∃ A B, R = A ++ r :: B ∧ R' = A ++ B := by
  induction h with
  | head => exact ⟨[], _, rfl, rfl⟩
  | tail _ ih => obtain ⟨A, B, rfl, rfl⟩ := ih; exact ⟨_ :: A, B, rfl, rfl⟩

/-- r to the front -/
theorem At.front (H : At D Fs R s) (h : Rm r R R') : At D Fs (r :: R') s := by
  obtain ⟨A, B, rfl, rfl⟩ := h.split
  have hp : (A ++ r :: B).Perm (r :: (A ++ B)) := List.perm_middle
  have hf : (fps (A ++ r :: B)).Perm (fps (r :: (A ++ B))) := List.Perm.flatMap_right _ hp
  have hPf : (D.Ps ++ fps (A ++ r :: B)).Perm (D.Ps ++ fps (r :: (A ++ B))) := List.Perm.append_left _ hf
  have hv : Ext (seen D (A ++ r :: B) s.heap) (seen D (r :: (A ++ B)) s.heap) := Ext.hide_mono (fun _ _ _ e => e) fun b hb hn => absurd (hPf.mem_iff.mpr hb) hn
  exact ⟨H.os, H.gens, H.tab, fun t ht => let ⟨o, ho⟩ := H.cs t ht; ⟨o, hv _ _ ho⟩, hPf.nodup_iff.mp H.nodup, fun x hx => H.res x (hp.mem_iff.mpr hx), H.base.trans hv, fun F hF => F.mono hv (H.facts F hF)⟩

/-- the first resource is let go; what it says is a fact from now on -/
theorem At.freeze (H : At D Fs (r :: R) s) : At D (r.fact :: Fs) R s := by
  have hv : Ext (seen D (r :: R) s.heap) (seen D R s.heap) := Ext.hide_mono (fun _ _ _ e => e) fun b hb hn => by
    refine absurd ?_ hn
    rcases List.mem_append.mp hb with h | h
    · exact List.mem_append_left _ h
    · exact List.mem_append_right _ (List.mem_append_right r.fp h)
  have nd := H.nodup
  refine ⟨H.os, H.gens, H.tab, fun t ht => let ⟨o, ho⟩ := H.cs t ht; ⟨o, hv _ _ ho⟩, ?_, fun x hx => H.res x (.tail _ hx), H.base.trans hv, fun F hF => ?_⟩
  · rw [List.nodup_append] at nd ⊢
    exact ⟨nd.1, (List.nodup_append.mp (show (r.fp ++ fps R).Nodup from nd.2.1)).2.1, fun a ha b hb => nd.2.2 a ha b (List.mem_append_right r.fp hb)⟩
  · rcases List.mem_cons.mp hF with rfl | hF
    · refine r.loc (fun b hb o e => ?_) (H.res r (.head _))
      refine hideAll_get _ e fun hm => ?_
      rw [List.nodup_append] at nd
      rcases List.mem_append.mp hm with h | h
      · exact nd.2.2 b h b (List.mem_append_left _ hb) rfl
      · exact (List.nodup_append.mp (show (r.fp ++ fps R).Nodup from nd.2.1)).2.2 b hb b h rfl
    · exact F.mono hv (H.facts F hF)
theorem At.drop (H : At D Fs (r :: R) s) : At D Fs R s := H.freeze.sub fun _ h => .tail _ h
end
end Mine

namespace Mine

/-- enough room for n more levels -/
structure Ok (A : Around) (n : Nat) : Prop where
  handled : A.handled = none
  depth : A.depth + n ≤ 900
  units : A.units + 16 * n ≤ 4000
theorem Ok.mono {A : Around} {n k : Nat} (h : Ok A n) (hk : k ≤ n) : Ok A k := ⟨h.handled, by have := h.depth; omega, by have := h.units; omega⟩
theorem Ok.in1 {A : Around} {n : Nat} (h : Ok A (n + 1)) : Ok A.in1 n := ⟨h.handled, by have := h.depth; show A.depth + n ≤ _; omega, by have := h.units; show A.units + 1 + 16 * n ≤ _; omega⟩
theorem Ok.deeper {A : Around} {n : Nat} (h : Ok A (n + 1)) (e : Env) : Ok (A.deeper e) n := ⟨h.handled, by have := h.depth; show A.depth + 1 + n ≤ _; omega, by have := h.units; show A.units + 3 + 16 * n ≤ _; omega⟩
theorem Ok.room {A : Around} {n : Nat} (h : Ok A n) : A.depth < recursionLimit := by have := h.depth; unfold recursionLimit; omega
theorem Ok.cl {A : Around} {n : Nat} (h : Ok A n) : A.units < cLine := by have := h.units; have := cLine_is; omega

structure Wd (K : Frag) (D : Dat) : Prop where
  K : K.In D.base
  names : ∃ mg mb, D.base.Ns mainGlobals mg ∧ D.base.Ns builtinsNs mb ∧ ∀ x : Str, x ≠ "__name__" → mb x = bootBuiltins x
  lim : D.base.NoLimit
  bmod : ∃ mg bm ob, D.base.Ns mainGlobals mg ∧ mg "__builtins__" = some (.ref bm) ∧ bm ≠ builtinsNs ∧ D.base.get? bm = some ob ∧ ob.cls = .type "module" ∧ ob.dict = some builtinsNs ∧ ob.data = .plain

def Loc (L : Addr) (m : Str → Option Value) : Res :=
  ⟨[L], fun h => h.Ns L m, fun k x => x.at' fun o e => k L (.head _) o e, fun x b hb => by rw [List.mem_singleton.mp hb]; exact x.lt⟩
def Lst (l : Addr) (vs : List Value) : Res :=
  ⟨[l], fun h => h.PlainList l vs.toArray, fun k x => x.at fun o e => k l (.head _) o e, fun x b hb => by obtain ⟨_, e⟩ := x; rw [List.mem_singleton.mp hb]; exact Heap.lt_size e⟩
def ListF (l : Addr) (vs : List Value) : Fact := ⟨fun h => h.PlainList l vs.toArray, fun k x => x.at fun o e => k l o e⟩
def TupF (t : Addr) (vs : List Value) : Fact := ⟨fun h => h.IsTuple t vs.toArray, fun k ⟨o, e, r⟩ => ⟨o, k _ _ e, r⟩⟩
def CellF (c : Addr) (v : Value) : Fact := ⟨fun h => h.IsCell c (some v), fun k x => x.keeps k⟩

section
variable {prog : Program} {w : World} {M : Model} {A : Around} {E : Value → Shared → Prop} {D : Dat} {Fs : List Fact} {R R' : List Res} {s : Shared} {env : Env} {K : Frag}
variable {L : Addr} {m : Str → Option Value} {x : Str} {pos : Pos} {v : Value} {a b : Int} {t u : Tok} {Q : Value → Shared → Prop}

theorem At.toks' (H : At D Fs R s) {g : Array GenState} (hg : g = s.gens) (d : Drawn) (tk : Nat) : At D Fs R { s with gens := g, drawn := d, toks := tk } :=
  ⟨H.os, hg ▸ H.gens, H.tab, H.cs, H.nodup, H.res, H.base, H.facts⟩
theorem At.ns (H : At D Fs R s) (hm : Loc L m ∈ R) : s.heap.Ns L m := H.res _ hm
theorem At.kin (W : Wd K D) (H : At D Fs R s) : K.In s.heap := W.K.keeps H.ofBase
theorem At.lim (W : Wd K D) (H : At D Fs R s) : s.heap.NoLimit := W.lim.keeps H.ofBase

theorem r_ld (H : At D Fs R s) (hm : Loc env.locals m ∈ R) (hv : m x = some v) (h : Q v s) (hk : env.scope.kind = .function) (hl : env.kindOf x = some .local) (hd : (x == ("__debug__" : Str)) = false) :
    wpAny M A (eval (.Name x pos) env) Q E s := wpAny_Name (wpAny_loadName_local hk hl (H.ns hm) hv h) hd
theorem r_ldn (H : At D Fs R s) (hm : Loc env.locals m ∈ R) (hv : m x = some v) (h : Q v s) (hk : env.scope.kind = .function) (hl : env.kindOf x = some .local) :
    wpAny M A (loadName env x) Q E s := wpAny_loadName_local hk hl (H.ns hm) hv h
theorem r_ldcell {c : Addr} (H : At D Fs R s) (hm : CellF c v ∈ Fs) (hc : env.cells.lookup x = some c) (h : Q v s) (hk : env.scope.kind = .function) (hl : env.kindOf x = some .cell) (hd : (x == ("__debug__" : Str)) = false) :
    wpAny M A (eval (.Name x pos) env) Q E s := wpAny_Name (wpAny_loadName_cell hk hl hc (H.fact hm) h) hd
theorem r_ldfree {c : Addr} (H : At D Fs R s) (hm : CellF c v ∈ Fs) (hc : env.cells.lookup x = some c) (h : Q v s) (hk : env.scope.kind = .function) (hl : env.kindOf x = some .free) (hd : (x == ("__debug__" : Str)) = false) (hn : (x == ("__classdict__" : Str)) = false) :
    wpAny M A (eval (.Name x pos) env) Q E s := wpAny_Name (wpAny_loadName_free hk hl hc (H.fact hm) h hn) hd
theorem r_ldglob (W : Wd K D) (H : At D Fs R s) (e : nsIn K mainGlobals x = some (some v)) (h : Q v s) (hk : env.scope.kind = .function) (hg : env.globals = mainGlobals) (hl : env.kindOf x = some .globalImplicit) (hd : (x == ("__debug__" : Str)) = false) :
    wpAny M A (eval (.Name x pos) env) Q E s := by
  obtain ⟨mg, mb, g, _, _⟩ := W.names
  refine Calls.Name_function_global hk hl (Calls.loadGlobal_global (mg := mg) (by rw [hg]; exact g.keeps H.ofBase) (mg_of W.K g e) h) hd
theorem r_ldbuiltin (W : Wd K D) (H : At D Fs R s) (e : nsIn K mainGlobals x = some none) (hv : bootBuiltins x = some v) (h : Q v s) (hn : x ≠ "__name__") (hk : env.scope.kind = .function) (hg : env.globals = mainGlobals) (hb : env.builtins = builtinsNs)
    (hl : env.kindOf x = some .globalImplicit) (hd : (x == ("__debug__" : Str)) = false) : wpAny M A (eval (.Name x pos) env) Q E s := by
  obtain ⟨mg, mb, g, b, bi⟩ := W.names
  exact Calls.Name_function_global hk hl (Calls.loadGlobal_builtin (mg := mg) (mb := mb) (by rw [hg]; exact g.keeps H.ofBase) (mg_none_of W.K g e) (by rw [hb]; exact b.keeps H.ofBase) ((bi x hn).trans hv) h) hd

theorem r_st {Q : Unit → Shared → Prop} (H : At D Fs R s) (hp : Rp (Loc env.locals m) (Loc env.locals fun y => if y = x then some v else m y) R R') (h : ∀ s', At D Fs R' s' → Q () s')
    (hk : env.scope.kind = .function) (hl : env.kindOf x = some .local) : wpAny M A (storeName env x v) Q E s :=
  wpAny_storeName_local hl (H.ns hp.mem) (fun h' hn hs => h _ (H.upd hp rfl (fun b o nb e => hs.extBut b o (fun q => nb (List.mem_singleton.mpr q)) e) hn H.gens)) (by rw [hk]; rfl)

theorem r_int {k : Nat} (H : At D Fs R s) (h : ∀ t s', At D Fs R s' → Q (.int a t) s') : wpAny M A (eval (.Constant (.int a) k pos) env) Q E s := wpAny_Constant_int (h _ _ (H.toks _))

section
variable (H : At D Fs R s)
include H
theorem r_add (h : ∀ t s', At D Fs R s' → Q (.int (a + b) t) s') : wpAny (model prog w) A (binaryOp .Add (.int a t) (.int b u)) Q E s := add_int (h _ _ (H.toks _))
theorem r_sub (h : ∀ t s', At D Fs R s' → Q (.int (a - b) t) s') : wpAny (model prog w) A (binaryOp .Sub (.int a t) (.int b u)) Q E s := sub_int (h _ _ (H.toks _))
theorem r_mul (hb : IntMulOk a b) (h : ∀ t s', At D Fs R s' → Q (.int (a * b) t) s') : wpAny (model prog w) A (binaryOp .Mult (.int a t) (.int b u)) Q E s := mul_int (h _ _ (H.toks _)) hb
theorem r_mod (hb : b ≠ 0) (h : ∀ t s', At D Fs R s' → Q (.int (a.fmod b) t) s') : wpAny (model prog w) A (binaryOp .Mod (.int a t) (.int b u)) Q E s := mod_int' hb (h _ _ (H.toks _))
theorem r_fdiv (hb : b ≠ 0) (hd : Builtin.divisionGoesByPylong a b = false) (h : ∀ t s', At D Fs R s' → Q (.int (a.fdiv b) t) s') : wpAny (model prog w) A (binaryOp .FloorDiv (.int a t) (.int b u)) Q E s := floordiv_int hb (h _ _ (H.toks _)) (.inl hd)
theorem r_and (h : ∀ t s', At D Fs R s' → Q (.int (Builtin.bitAnd a b) t) s') : wpAny (model prog w) A (binaryOp .BitAnd (.int a t) (.int b u)) Q E s := and_int (h _ _ (H.toks _))
theorem r_iadd (h : ∀ t s', At D Fs R s' → Q (.int (a + b) t) s') : wpAny (model prog w) A (inplaceOp .Add (.int a t) (.int b u)) Q E s := iadd_int (h _ _ (H.toks _))
theorem r_isub (h : ∀ t s', At D Fs R s' → Q (.int (a - b) t) s') : wpAny (model prog w) A (inplaceOp .Sub (.int a t) (.int b u)) Q E s := isub_int (h _ _ (H.toks _))
theorem r_imod (hb : b ≠ 0) (h : ∀ t s', At D Fs R s' → Q (.int (a.fmod b) t) s') : wpAny (model prog w) A (inplaceOp .Mod (.int a t) (.int b u)) Q E s := imod_int hb (h _ _ (H.toks _))
theorem r_irsh (hb : 0 ≤ b) (h : ∀ t s', At D Fs R s' → Q (.int (a.fdiv (2 ^ b.toNat)) t) s') : wpAny (model prog w) A (inplaceOp .RShift (.int a t) (.int b u)) Q E s := irshift_int hb (h _ _ (H.toks _))
theorem r_neg (h : ∀ t s', At D Fs R s' → Q (.int (-a) t) s') : wpAny (model prog w) A (unaryOp .USub (.int a t)) Q E s := neg_int (h _ _ (H.toks _))
theorem r_abs (h : ∀ t s', At D Fs R s' → Q (.int (if a < 0 then -a else a) t) s') : wpAny (model prog w) A (call (.builtin "abs") [.int a t]) Q E s := call_abs_int fun _ _ => h _ _ (H.toks _)
end
end
end Mine

namespace Mine
section
variable {prog : Program} {w : World} {M : Model} {A : Around} {E : Value → Shared → Prop} {D : Dat} {Fs : List Fact} {R R' : List Res} {s : Shared} {env : Env} {K : Frag} {n : Nat}
variable {L : Addr} {m : Str → Option Value} {x : Str} {pos : Pos} {v : Value} {a b : Int} {t u : Tok} {Q : Value → Shared → Prop}

abbrev Bs (l : List (Str × Value)) : Str → Option Value := fun y => l.lookup y
theorem isTup {h : Heap} {t : Addr} {vs : List Value} (x : (TupF t vs).holds h) : IsTup h t vs.toArray := x
theorem isTuple {h : Heap} {t : Addr} {vs : List Value} (x : (TupF t vs).holds h) : h.IsTuple t vs.toArray := x
theorem nd1 {α : Type} (a : α) : [a].Nodup := by simp
/-- what a call gives back -/
def Ret (Q : Value → Shared → Prop) : Result → Shared → Prop := fun r s' => match r with
  | .ok (.ret v) => Q v s'
  | _ => False
theorem r_use {f : Value} {vals : List Value} (h : codeAny M A (.call f ⟨vals, []⟩) (Ret Q) s) : wpAny M A (call f vals) Q E s :=
  wpAny_call (codeAny_mono h fun r s' q => by
    cases r with
    | error e => exact q.elim
    | ok f => cases f <;> exact q)
/-- a plain def is called: its frame -/
theorem r_call {name qual : Str} {params : Arguments} {body : List Stmt} {scope : Scope} {dV kV doc pm cdv ct oc : Value} {an od : Option Addr} {osl : Array (Option Value)} {f : Addr} {vals : List Value} {binds : List (Str × Value)}
    (W : Wd K D) (H : At D Fs R s) (hA : Ok A n) (ho : K.lookup f = some ⟨oc, od, .func (fnOf name qual params body scope dV kV doc pm an cdv ct), osl⟩) (hcd : codeIn K cdv qual = true)
    (hbind : bindArgs (fnOf name qual params body scope dV kV doc pm an cdv ct) ⟨vals, []⟩ = pure binds) (hloc : ∀ y ∈ binds, scope.names.lookup y.1 = some .local)
    (hm : (fun y => binds.reverse.lookup y) = m)
    (h : ∀ L s', At D Fs (Loc L m :: R) s' → wpAny (model prog w) (A.deeper (envOf qual scope L f cdv)) (execs body (envOf qual scope L f cdv)) (fun fl s' => Q (match fl with | .ret v => v | _ => .none) s') (fun _ _ => False) s')
    (hcell : ∀ x ∈ scope.names, x.2 ≠ .cell) (hco : scope.isCoroutine = false) (hgen : scope.isGenerator = false) (hk : scope.kind = .function) : codeAny (model prog w) A (.call (.ref f) ⟨vals, []⟩) (Ret Q) s := by
  refine (codeAny_call_def (R := Ret Q) (fd := fnOf name qual params body scope dV kV doc pm an cdv ct) (body := body) (binds := binds) hA.room ((At.kin W H) _ _ ho) rfl (H.lim W) (codeRec_of (At.kin W H) hcd) rfl (BindsTo.of_eq hbind) hcell hloc (fun h₁ hns hk₁ => ?_) hco hgen hk)
  rw [hm] at hns
  exact wpAny_mono (h s.heap.objs.size _ (H.own (r := Loc _ _) (gens' := s.gens) (tk := s.toks + binds.length) hk₁ H.gens hns (nd1 _) fun b hb => by rw [List.mem_singleton.mp hb]; exact Nat.le_refl _)) (fun _ _ q => q) fun _ _ f => f.elim

/-- a def with cells is called -/
theorem r_callc {name qual : Str} {params : Arguments} {body : List Stmt} {scope : Scope} {dV kV doc pm cdv ct oc : Value} {an od : Option Addr} {osl : Array (Option Value)} {f : Addr} {vals : List Value} {binds : List (Str × Value)}
    {m : Addr → Str → Option Value} {cm : Addr → List (Addr × Value)}
    (W : Wd K D) (H : At D Fs R s) (hA : Ok A n) (ho : K.lookup f = some ⟨oc, od, .func (fnOf name qual params body scope dV kV doc pm an cdv ct), osl⟩) (hcd : codeIn K cdv qual = true)
    (hbind : bindArgs (fnOf name qual params body scope dV kV doc pm an cdv ct) ⟨vals, []⟩ = pure binds)
    (hkind : (binds.all fun y => scope.names.lookup y.1 == some .local || scope.names.lookup y.1 == some .cell) = true)
    (hm : ∀ L, bindL (envOfC qual scope L f cdv).kindOf binds (fun _ => none) = m L)
    (hcm : ∀ L, cm L = (cellsFrom (L + 1) scope.names []).filterMap fun p => (bindC (envOfC qual scope L f cdv).kindOf binds (fun _ => none) p.1).map fun v => (p.2, v))
    (hnd : ((cellsFrom 0 scope.names []).map (·.1)).Nodup)
    (h : ∀ L s', At D ((cm L).map (fun p => CellF p.1 p.2) ++ Fs) (Loc L (m L) :: R) s' →
      wpAny (model prog w) (A.deeper (envOfC qual scope L f cdv)) (execs body (envOfC qual scope L f cdv)) (fun fl s' => Q (match fl with | .ret v => v | _ => .none) s') (fun _ _ => False) s')
    (hco : scope.isCoroutine = false) (hgen : scope.isGenerator = false) (hk : scope.kind = .function) : codeAny (model prog w) A (.call (.ref f) ⟨vals, []⟩) (Ret Q) s := by
  refine (codeAny_call_cells (R := Ret Q) (fd := fnOf name qual params body scope dV kV doc pm an cdv ct) (body := body) (binds := binds) hA.room ((At.kin W H) _ _ ho) rfl (H.lim W) (codeRec_of (At.kin W H) hcd) rfl hbind rfl (kindsX hkind _) (fun s₁ x => ?_) hco hgen hk)
  obtain ⟨h₁, tk, rfl, hk₁⟩ := x.done
  have Hn : At D Fs (Loc s.heap.objs.size (m s.heap.objs.size) :: R) { s with heap := h₁, toks := tk } :=
    H.own (r := Loc _ _) (gens' := s.gens) (tk := tk) hk₁ H.gens (by rw [← hm]; exact x.toInCall.ns) (nd1 _) fun b hb => by rw [List.mem_singleton.mp hb]; exact Nat.le_refl _
  have above : ∀ p ∈ cellsFrom (s.heap.objs.size + 1) scope.names [], s.heap.objs.size < p.2 := fun p hp => x.above p.1 p.2 hp
  refine wpAny_mono (h s.heap.objs.size _ (Hn.grow (h' := h₁) (gens' := s.gens) (tk := tk) (Ext.refl _) H.gens fun F hF => ?_)) (fun _ _ q => q) fun _ _ f => f.elim
  rcases List.mem_append.mp hF with hF | hF
  · obtain ⟨p, hp, rfl⟩ := List.mem_map.mp hF
    rw [hcm] at hp
    obtain ⟨q, hq, e⟩ := List.mem_filterMap.mp hp
    obtain ⟨v, hv, rfl⟩ := Option.map_eq_some_iff.mp e
    right
    have hc := x.cell q.1 q.2 (lookup_of_mem_nodup (cellsFrom_names scope.names 0 (s.heap.objs.size + 1) [] [] rfl ▸ hnd) hq)
    rw [show bindC (callEnvC (fnOf name qual params body scope dV kV doc pm an cdv ct) s.heap.objs.size f).kindOf binds (fun _ => none) q.1 = some v from hv] at hc
    obtain ⟨o, ho, hd⟩ := hc
    refine ⟨o, hideAll_get _ ho fun hmem => ?_, hd⟩
    have hlt := above q hq
    rcases List.mem_append.mp hmem with hmem | hmem
    · exact absurd (H.lt _ (List.mem_append_left _ hmem)) (Nat.not_lt.mpr (Nat.le_of_lt hlt))
    · rcases List.mem_append.mp (show q.2 ∈ [s.heap.objs.size] ++ fps R from hmem) with hmem | hmem
      · exact absurd (List.mem_singleton.mp hmem) (Nat.ne_of_gt hlt)
      · exact absurd (H.lt _ (List.mem_append_right _ hmem)) (Nat.not_lt.mpr (Nat.le_of_lt hlt))
  · exact .inl hF

theorem r_lenL {l : Addr} {vs : List Value} (H : At D Fs R s) (hm : ListF l vs ∈ Fs) (hz : vs.length < 2 ^ 60) (h : ∀ t s', At D Fs R s' → Q (.int vs.length t) s') : wpAny (model prog w) A (call (.builtin "len") [.ref l]) Q E s :=
  Calls.call_len_list (Heap.PlainList.isList (H.fact hm)) (by simp; omega) (by simpa using h _ _ (H.toks _))
theorem r_lenR {l : Addr} {vs : List Value} (H : At D Fs R s) (hm : Lst l vs ∈ R) (hz : vs.length < 2 ^ 60) (h : ∀ t s', At D Fs R s' → Q (.int vs.length t) s') : wpAny (model prog w) A (call (.builtin "len") [.ref l]) Q E s :=
  Calls.call_len_list (Heap.PlainList.isList (H.res _ hm)) (by simp; omega) (by simpa using h _ _ (H.toks _))
theorem r_lenT {l : Addr} {vs : List Value} (H : At D Fs R s) (hm : TupF l vs ∈ Fs) (hz : vs.length < 2 ^ 60) (h : ∀ t s', At D Fs R s' → Q (.int vs.length t) s') : wpAny (model prog w) A (call (.builtin "len") [.ref l]) Q E s :=
  len_tuple (isTup (H.fact hm)) (by simp; omega) (by simpa using h _ _ (H.toks _))
theorem r_itemL {value slice : Expr} {l : Addr} {vs : List Value} {k : Int} (H : At D Fs R s) (hm : ListF l vs ∈ Fs) (h0 : 0 ≤ k) (h1 : k < 2 ^ 60) (hx : vs[k.toNat]? = some v) (h : Q v s)
    (hs : subscripted slice false (.ref l) (.int k u) = operate [.ref l, .int k u] (getItem (.ref l) (.int k u))) : wpAny (model prog w) A (subscriptTail value slice (.ref l) (.int k u)) Q E s :=
  have hL := Heap.PlainList.isList (H.fact hm)
  tail_any (Heap.IsList.typeIs hL) slot_list_getitem.lookup (wpAny_getItem_list hL h0 (by omega) (by simpa using hx) h) hs
theorem r_itemR {value slice : Expr} {l : Addr} {vs : List Value} {k : Int} (H : At D Fs R s) (hm : Lst l vs ∈ R) (h0 : 0 ≤ k) (h1 : k < 2 ^ 60) (hx : vs[k.toNat]? = some v) (h : Q v s)
    (hs : subscripted slice false (.ref l) (.int k u) = operate [.ref l, .int k u] (getItem (.ref l) (.int k u))) : wpAny (model prog w) A (subscriptTail value slice (.ref l) (.int k u)) Q E s :=
  have hL := Heap.PlainList.isList (H.res _ hm)
  tail_any (Heap.IsList.typeIs hL) slot_list_getitem.lookup (wpAny_getItem_list hL h0 (by omega) (by simpa using hx) h) hs
theorem r_itemT {value slice : Expr} {l : Addr} {vs : List Value} {k : Int} (H : At D Fs R s) (hm : TupF l vs ∈ Fs) (h0 : 0 ≤ k) (h1 : k < 2 ^ 60) (hx : vs[k.toNat]? = some v) (h : Q v s)
    (hs : subscripted slice false (.ref l) (.int k u) = operate [.ref l, .int k u] (getItem (.ref l) (.int k u))) : wpAny (model prog w) A (subscriptTail value slice (.ref l) (.int k u)) Q E s := by
  have hlt : k.toNat < vs.length := (List.getElem?_eq_some_iff.mp hx).1
  refine item_tupleT (isTup (H.fact hm)) (by omega) (by omega) (j := k.toNat) ?_ (by simpa using hx) h hs
  have c1 : (if k < 0 then k + ((vs.toArray.size : Nat) : Int) else k) = k := if_neg (by omega)
  have c2 : (decide (0 ≤ k) && decide (k < ((vs.toArray.size : Nat) : Int))) = true := by
    rw [Bool.and_eq_true, decide_eq_true_eq, decide_eq_true_eq]
    exact ⟨h0, by simp; omega⟩
  unfold seqIndex?
  simp only [List.size_toArray] at c1 c2 ⊢
  simp only [c1, c2, if_true]
theorem r_giL {l : Addr} {vs : List Value} {k : Int} (H : At D Fs R s) (hm : ListF l vs ∈ Fs) (h0 : 0 ≤ k) (h1 : k < 2 ^ 60) (hx : vs[k.toNat]? = some v) (h : Q v s) : wpAny (model prog w) A (getItem (.ref l) (.int k u)) Q E s :=
  wpAny_getItem_list (Heap.PlainList.isList (H.fact hm)) h0 (by omega) (by simpa using hx) h
theorem r_giR {l : Addr} {vs : List Value} {k : Int} (H : At D Fs R s) (hm : Lst l vs ∈ R) (h0 : 0 ≤ k) (h1 : k < 2 ^ 60) (hx : vs[k.toNat]? = some v) (h : Q v s) : wpAny (model prog w) A (getItem (.ref l) (.int k u)) Q E s :=
  wpAny_getItem_list (Heap.PlainList.isList (H.res _ hm)) h0 (by omega) (by simpa using hx) h
end
end Mine

namespace Mine

def Inst (h : Heap) (x C : Addr) (m : Str → Option Value) : Prop := ∃ dx, h.get? x = some (instObj C dx) ∧ h.Ns dx m
def InstF (x C : Addr) (m : Str → Option Value) : Fact := ⟨fun h => Inst h x C m, fun k ⟨dx, a, b⟩ => ⟨dx, k _ _ a, b.keeps k⟩⟩

/-- an own object's dict while __init__ runs -/
def DRes (dx : Addr) (m : Str → Option Value) (ns : List Str) : Res :=
  ⟨[dx], fun h => h.Ns1 dx m ∧ Within m ns, fun k x => ⟨x.1.at fun o e => k dx (.head _) o e, x.2⟩, fun x b hb => by rw [List.mem_singleton.mp hb]; exact x.1.ns.lt⟩

theorem lookIn_ns {h : Heap} {dx : Addr} {m : Str → Option Value} (n : h.Ns dx m) : ∃ od, h.get? dx = some od ∧ ∀ name, lookIn name od = some (m name) := by
  obtain ⟨o, es, ep, ho, hd, hk, hm⟩ := n
  refine ⟨o, ho, fun name => ?_⟩
  unfold lookIn
  rw [hd]
  dsimp only
  have e : (es.toList.find? fun x => x.key.isStr name) = es.find? fun x => x.key.isStr name := by
    rw [Array.find?_toList]
  have hr : (es.toList.any fun x => x.refKey) = false := by
    rw [List.any_eq_false]
    intro en hen
    obtain ⟨n, t, q⟩ := hk en (Array.mem_toList_iff.mp hen)
    simp [DictEntry.refKey, q]
  have hm' := hm name
  unfold nsFind findBy at hm'
  rw [e]
  cases q : es.find? fun x => x.key.isStr name with
  | none => rw [q] at hm'; rw [hr]; simp at hm' ⊢; exact hm'
  | some en => rw [q] at hm'; simp at hm' ⊢; exact hm'
theorem Inst.at {h : Heap} {x C : Addr} {m : Str → Option Value} (I : Inst h x C m) : ∃ ox od, InstAt h x ox C (some od) ∧ ∀ name, lookIn name od = some (m name) := by
  obtain ⟨dx, hx, hn⟩ := I
  obtain ⟨od, h1, h2⟩ := lookIn_ns hn
  exact ⟨_, od, ⟨hx, rfl, rfl, h1⟩, h2⟩

section
variable {prog : Program} {w : World} {M : Model} {A : Around} {E : Value → Shared → Prop} {D : Dat} {Fs : List Fact} {R R' : List Res} {s : Shared} {env : Env} {K : Frag} {n : Nat}
variable {L y C : Addr} {m : Str → Option Value} {x : Str} {pos : Pos} {v : Value} {a b : Int} {t u : Tok} {Q : Value → Shared → Prop}

theorem r_attr {name : Str} {attr : Option Value} {expr : Bool} (W : Wd K D) (H : At D Fs R s) (hm : InstF y C m ∈ Fs) (hg : plainGet K C name = true) (hh : hasDictIn K C = true) (ha : findIn K (.ref C) name = some attr) (hn : noGet K attr = true)
    (hl : m name = some v) (hv : handedIn v = true) (h : ∀ s', At D Fs R s' → Q v s') : wpAny (model prog w) A (getAttr (.ref y) name expr) Q E s := by
  obtain ⟨ox, od, I, hlk⟩ := Inst.at (H.fact hm)
  exact get_value (At.kin W H) I (plainGet_of hg).1 (findObj_own hh ha hn ((hlk name).trans (by rw [hl]))) hv (h _ (H.toks _))
theorem r_attrR {name : Str} {attr : Option Value} {expr : Bool} {dx : Addr} {ns : List Str} (W : Wd K D) (H : At D Fs R s) (hx : Cell y (instObj C dx) ∈ Fs) (hm : DRes dx m ns ∈ R) (hg : plainGet K C name = true) (hh : hasDictIn K C = true) (ha : findIn K (.ref C) name = some attr) (hn : noGet K attr = true)
    (hl : m name = some v) (hv : handedIn v = true) (h : ∀ s', At D Fs R s' → Q v s') : wpAny (model prog w) A (getAttr (.ref y) name expr) Q E s := by
  obtain ⟨ox, od, I, hlk⟩ := Inst.at ⟨dx, H.fact hx, (H.res _ hm).1.ns⟩
  exact get_value (At.kin W H) I (plainGet_of hg).1 (findObj_own hh ha hn ((hlk name).trans (by rw [hl]))) hv (h _ (H.toks _))
theorem r_meth {name : Str} {pl : Sem Bool} {f : Addr} {Q : Value × List Value → Shared → Prop} (W : Wd K D) (H : At D Fs R s) (hm : InstF y C m ∈ Fs) (hg : plainGet K C name = true) (hf : findIn K (.ref C) name = some (some (.ref f))) (ht : isFn K (.ref f) = true)
    (hl : m name = none) (h : Q (.ref f, [.ref y]) s) : wpAny (model prog w) A (getMethod (.ref y) name pl) Q E s := by
  obtain ⟨ox, od, I, hlk⟩ := Inst.at (H.fact hm)
  exact method_fn (At.kin W H) I (plainGet_of hg).1 (plainGet_of hg).2 hf (beq_iff_eq.mp ht) (by show (lookIn name od).map _ = _; rw [hlk, hl]; rfl) h

theorem r_isi_int {c : Value} {r : Bool} (W : Wd K D) (H : At D Fs R s) (e : kitOne K (.type "int") c = some r) (h : ∀ s', At D Fs R s' → Q (.bool r) s') : wpAny (model prog w) A (call (.builtin "isinstance") [.int a t, c]) Q E s :=
  kia_one kitx_int (At.kin W H) trivial e (by intro q; cases q) fun _ => h _ (H.toks _)
theorem r_isi_inst {c : Value} {r : Bool} (W : Wd K D) (H : At D Fs R s) (hm : InstF y C m ∈ Fs) (e : kitOne K (.ref C) c = some r) (hg : plainGet K C "__class__" = true) (hdct : hasDictIn K C = true) (ha : findIn K (.ref C) "__class__" = some (some (.builtin "object.__class__")))
    (hn : specialIn K (.builtin "object.__class__") "__get__" = some (some (.builtin "getset_descriptor.__get__"))) (htk : takesIn K (.builtin "object.__class__") = some true) (hmr : mroIn K C (.type "object") = some true)
    (h : ∀ s', At D Fs R s' → Q (.bool r) s') : wpAny (model prog w) A (call (.builtin "isinstance") [.ref y, c]) Q E s := by
  obtain ⟨ox, od, I, hlk⟩ := Inst.at (H.fact hm)
  exact kia_one (kitx_own (ox := ox) hg hdct ha hn htk hmr) (At.kin W H) I e (by intro q; cases q) fun _ => h _ (H.toks _)
theorem r_isi_intT {tp : Addr} {its : List Value} {r : Bool} {nn : Nat} (W : Wd K D) (H : At D Fs R s) (ht : Cell tp ⟨.type "tuple", none, .seq its.toArray nn, #[]⟩ ∈ Fs) (e : kitAny K (.type "int") its = some r) (h : ∀ s', At D Fs R s' → Q (.bool r) s') : wpAny (model prog w) A (call (.builtin "isinstance") [.int a t, .ref tp]) Q E s :=
  kia_tup kitx_int (At.kin W H) trivial (H.fact ht) e (by intro q; cases q) fun _ => h _ (H.toks _)
theorem r_isi_instT {tp : Addr} {its : List Value} {r : Bool} {nn : Nat} (W : Wd K D) (H : At D Fs R s) (hm : InstF y C m ∈ Fs) (ht : Cell tp ⟨.type "tuple", none, .seq its.toArray nn, #[]⟩ ∈ Fs) (e : kitAny K (.ref C) its = some r) (hg : plainGet K C "__class__" = true) (hdct : hasDictIn K C = true) (ha : findIn K (.ref C) "__class__" = some (some (.builtin "object.__class__")))
    (hn : specialIn K (.builtin "object.__class__") "__get__" = some (some (.builtin "getset_descriptor.__get__"))) (htk : takesIn K (.builtin "object.__class__") = some true) (hmr : mroIn K C (.type "object") = some true)
    (h : ∀ s', At D Fs R s' → Q (.bool r) s') : wpAny (model prog w) A (call (.builtin "isinstance") [.ref y, .ref tp]) Q E s := by
  obtain ⟨ox, od, I, hlk⟩ := Inst.at (H.fact hm)
  exact kia_tup (kitx_own (ox := ox) hg hdct ha hn htk hmr) (At.kin W H) I (H.fact ht) e (by intro q; cases q) fun _ => h _ (H.toks _)

theorem r_new {rest : List Value} {fI : Addr} (W : Wd K D) (H : At D Fs R s) (hm : makesIn K C = true) (hi : findIn K (.ref C) "__init__" = some (some (.ref fI))) (hf : isFn K (.ref fI) = true)
    (h : ∀ x dx s', At D (Cell x (instObj C dx) :: Fs) (DRes dx (fun _ => none) [] :: R) s' →
      codeAny (model prog w) (A.under (.builtin "type.__call__" ⟨.ref C :: rest, []⟩)) (.call (.ref fI) ⟨.ref x :: rest, []⟩) (Ret fun v s'' => v = .none ∧ Q (.ref x) s'') s') :
    codeAny (model prog w) A (.call (.ref C) ⟨rest, []⟩) (Ret Q) s := by
  have X := At.kin W H
  obtain ⟨hh, g, d, t, os⟩ := s
  refine make_core (makes_of X hm) (looks_findIn X hi) (fun self => bind_fn X self (beq_iff_eq.mp hf)) (.inl rfl) ?_
  have e1 : Ext hh (hh.push emptyDict) := Ext.push _ _
  have H1 := H.own (r := DRes hh.objs.size (fun _ => none) []) (h' := hh.push emptyDict) (gens' := g) (tk := t) e1 H.gens ⟨Heap.Ns1.of_empty (Heap.Ns.new hh (.type "dict")), Within.nil⟩ (nd1 _) fun b hb => by rw [List.mem_singleton.mp hb]; exact Nat.le_refl _
  have H2 := H1.alloc (o := instObj C hh.objs.size) rfl (tk := t)
  have sz : (hh.push emptyDict).objs.size = hh.objs.size + 1 := Heap.size_push ..
  simp only [sz] at H2
  refine codeAny_mono (h _ _ _ H2) fun r s' q => ?_
  cases r with
  | error e => exact q.elim
  | ok f => cases f <;> first | exact q.elim | exact q

/-- self.name = v while __init__ runs -/
theorem r_setattr {name : Str} {dx : Addr} {ns : List Str} {Q : Unit → Shared → Prop} (W : Wd K D) (H : At D Fs R s) (hx : Cell y (instObj C dx) ∈ Fs) (hp : Rp (DRes dx m ns) (DRes dx (fun z => if z = name then some v else m z) (name :: ns)) R R')
    (hs : findIn K (.ref C) "__setattr__" = some (some (.builtin "object.__setattr__"))) (ho : plainOver K C = true) (ht : takerIn K C name = some none) (hh : hasDictIn K C = true) (hz : ns.length ≤ 100)
    (h : ∀ s', At D Fs R' s' → Q () s') : wpAny (model prog w) A (setAttr (.ref y) name v) Q E s := by
  obtain ⟨h0, g0, d0, t0, os0⟩ := s
  have X := At.kin W H
  have ex := H.fact hx
  obtain ⟨hn1, hw⟩ := H.res _ hp.mem
  have hn := hn1.ns
  obtain ⟨od, hod, hlk⟩ := lookIn_ns hn
  have I : InstAt h0 y (instObj C dx) C (some od) := ⟨ex, rfl, rfl, hod⟩
  refine set_plain X I hs (osa_open (s := ⟨h0, g0, d0, t0 + 1, os0⟩) X I ho ht fun b => ?_)
  obtain ⟨cd, hc, hd⟩ := any_some hh
  have LC := looks_clsIn (M := model prog w) X hc
  refine wpAny_bind (wpAny_pure (wpAny_bind (wpAny_bind (wpAny_loadPart ex (wpAny_bind (LC.at ?_))))))
  rw [hd]
  refine wpAny_pure (a := some dx) (wpAny_bind (wpAny_pure (wpAny_bind (wpAny_nsSet1 hn1 fun h' hn' hs' => ?_))))
  obtain ⟨o', es', ep', ho', hd', hsz⟩ := hn'.count (hw.cons name v)
  refine wpAny_bind (wpAny_lookBehind ho' (by rw [hd']; refine pastItsLine_dict ?_; simp only [List.length_cons] at hsz; rw [sizeLine_eq]; omega) ?_)
  exact wpAny_pure (h _ (H.upd hp rfl (fun b o nb e => hs'.extBut b o (fun q => nb (List.mem_singleton.mpr q)) e) ⟨hn', hw.cons name v⟩ H.gens))
end
end Mine

namespace Mine

/-- the locals that we know of -/
def Vars (L : Addr) (l : List (Str × Value)) : Res :=
  ⟨[L], fun h => ∃ m, h.Ns L m ∧ ∀ x v, l.lookup x = some v → m x = some v, fun k ⟨m, n, e⟩ => ⟨m, n.at' fun o e => k L (.head _) o e, e⟩, fun ⟨_, n, _⟩ b hb => by rw [List.mem_singleton.mp hb]; exact n.lt⟩
def CellR (c : Addr) (ov : Option Value) : Res :=
  ⟨[c], fun h => h.IsCell c ov, fun k ⟨o, e, r⟩ => ⟨o, k c (.head _) o e, r⟩, fun ⟨_, e, _⟩ b hb => by rw [List.mem_singleton.mp hb]; exact Heap.lt_size e⟩

inductive SetV (x : Str) (v : Value) : List (Str × Value) → List (Str × Value) → Prop
  | nil : SetV x v [] [(x, v)]
  | head {u l} : SetV x v ((x, u) :: l) ((x, v) :: l)
  | tail {y u l l'} : (x == y) = false → SetV x v l l' → SetV x v ((y, u) :: l) ((y, u) :: l')
theorem SetV.lookup {x : Str} {v : Value} {l l' : List (Str × Value)} (h : SetV x v l l') (z : Str) : l'.lookup z = if z = x then some v else l.lookup z := by
  induction h with
  | nil => by_cases e : z = x
           · simp [List.lookup_cons, e]
           · have : (z == x) = false := by simpa using e
             simp [List.lookup_cons, e, this]
  | @head u l => by_cases e : z = x
                 · simp [List.lookup_cons, e]
                 · have : (z == x) = false := by simpa using e
                   simp [List.lookup_cons, e, this]
  | @tail y u l l' hne _ ih =>
    by_cases e : z = x
    · subst e; simp only [List.lookup_cons, hne]; rw [ih]; simp
    · simp only [List.lookup_cons]; rw [ih]; simp [e]

/-- every binding of l' is one of l -/
def SubV (l l' : List (Str × Value)) : Prop := ∀ x v, l'.lookup x = some v → l.lookup x = some v
theorem SubV.nil {l : List (Str × Value)} : SubV l [] := fun _ _ e => by cases e
theorem SubV.cons {l l' : List (Str × Value)} {x : Str} {v : Value} (h : l.lookup x = some v) (k : SubV l l') : SubV l ((x, v) :: l') := fun z u e => by
  rw [List.lookup_cons] at e
  by_cases q : z = x
  · subst q; simp at e; subst e; exact h
  · have : (z == x) = false := by simpa using q
    rw [this] at e; exact k z u e
theorem SubV.refl {l : List (Str × Value)} : SubV l l := fun _ _ e => e

theorem mem_hd {α : Type _} {a : α} {l : List α} : a ∈ a :: l := .head _
theorem mem_tl {α : Type _} {a b : α} {l : List α} (h : a ∈ l) : a ∈ b :: l := .tail _ h
theorem subf_refl {Fs : List Fact} : ∀ F ∈ Fs, F ∈ Fs := fun _ h => h
theorem subf_nil {Fs : List Fact} : ∀ F ∈ ([] : List Fact), F ∈ Fs := fun _ h => absurd h List.not_mem_nil
theorem subf_cons {F : Fact} {Fs' Fs : List Fact} (h : F ∈ Fs) (k : ∀ G ∈ Fs', G ∈ Fs) : ∀ G ∈ F :: Fs', G ∈ Fs := fun G hG => by
  rcases List.mem_cons.mp hG with rfl | hG
  · exact h
  · exact k G hG
theorem subf_drop {F : Fact} {Fs' Fs : List Fact} (k : ∀ G ∈ Fs', G ∈ Fs) : ∀ G ∈ Fs', G ∈ F :: Fs := fun G hG => .tail _ (k G hG)
theorem allB_nil {m : Str → Option Value} : ∀ p ∈ ([] : List (Str × Value)), m p.1 = some p.2 := fun _ h => absurd h List.not_mem_nil
theorem allB_cons {m : Str → Option Value} {x : Str} {v : Value} {l : List (Str × Value)} (h : m x = some v) (k : ∀ p ∈ l, m p.1 = some p.2) : ∀ p ∈ (x, v) :: l, m p.1 = some p.2 := fun p hp => by
  rcases List.mem_cons.mp hp with rfl | hp
  · exact h
  · exact k p hp
theorem locals_envOf {name : Str} {scope : Scope} {L a : Addr} {cd : Value} : (envOf name scope L a cd).locals = L := rfl
theorem locals_envOfC {name : Str} {scope : Scope} {L a : Addr} {cd : Value} : (envOfC name scope L a cd).locals = L := rfl
theorem locals_compEnvC {scope : Scope} {cl : List (Str × Addr)} {C : Addr} {env : Env} : (compEnvC scope cl C env).locals = C := rfl

/-- r says no less than r', over the same addresses -/
structure Imp (r r' : Res) : Prop where
  fp : r.fp = r'.fp
  holds : ∀ h, r.holds h → r'.holds h
theorem Imp.refl {r : Res} : Imp r r := ⟨rfl, fun _ h => h⟩
theorem Imp.vars {L : Addr} {l l' : List (Str × Value)} (h : SubV l l') : Imp (Vars L l) (Vars L l') := ⟨rfl, fun _ ⟨m, n, e⟩ => ⟨m, n, fun x v q => e x v (h x v q)⟩⟩
inductive Sub : List Res → List Res → Prop
  | nil {R} : Sub R []
  | cons {r r' R R₁ R'} : Imp r r' → Rm r R R₁ → Sub R₁ R' → Sub R (r' :: R')
theorem Rm.perm {r : Res} {R R' : List Res} (h : Rm r R R') : R.Perm (r :: R') := by
  induction h with
  | head => exact .refl _
  | tail _ ih => exact (List.Perm.cons _ ih).trans (List.Perm.swap ..)
theorem Sub.fps {R R' : List Res} (h : Sub R R') : ∃ X, (fps R).Perm (fps R' ++ X) := by
  induction h with
  | @nil R => exact ⟨Mine.fps R, by simp [Mine.fps]⟩
  | @cons r r' R R₁ R' i rm _ ih =>
    obtain ⟨X, hX⟩ := ih
    refine ⟨X, ((List.Perm.flatMap_right _ rm.perm).trans ?_)⟩
    simp only [Mine.fps, List.flatMap_cons, i.fp, List.append_assoc] at hX ⊢
    exact List.Perm.append_left _ hX
theorem Sub.holds {R R' : List Res} (h : Sub R R') {hp : Heap} (k : ∀ r ∈ R, r.holds hp) : ∀ r ∈ R', r.holds hp := by
  induction h with
  | nil => intro r hr; cases hr
  | @cons r r' R R₁ R' i rm _ ih =>
    intro x hx
    rcases List.mem_cons.mp hx with rfl | hx
    · exact i.holds _ (k _ (rm.perm.mem_iff.mpr (.head _)))
    · exact ih (fun y hy => k y (rm.perm.mem_iff.mpr (.tail _ hy))) x hx

section
variable {D : Dat} {Fs Fs' : List Fact} {R R' : List Res} {s : Shared} {r r' : Res}
theorem At.to (H : At D Fs R s) (h : Sub R R') : At D Fs R' s := by
  obtain ⟨X, hX⟩ := h.fps
  have hv : Ext (seen D R s.heap) (seen D R' s.heap) := Ext.hide_mono (fun _ _ _ e => e) fun b hb hn => by
    refine absurd ?_ hn
    rcases List.mem_append.mp hb with h | h
    · exact List.mem_append_left _ h
    · exact List.mem_append_right _ (hX.mem_iff.mpr (List.mem_append_left _ h))
  refine ⟨H.os, H.gens, H.tab, fun t ht => let ⟨o, ho⟩ := H.cs t ht; ⟨o, hv _ _ ho⟩, ?_, h.holds H.res, H.base.trans hv, fun F hF => F.mono hv (H.facts F hF)⟩
  have nd := ((List.Perm.append_left D.Ps hX).nodup_iff).mp H.nodup
  rw [← List.append_assoc] at nd
  exact (List.nodup_append.mp nd).1
theorem At.to' (H : At D Fs R s) (h : Sub R R') (hs : ∀ F ∈ Fs', F ∈ Fs) : At D Fs' R' s := (H.to h).sub hs

/-- many new resources at once -/
theorem At.ownL {Rn : List Res} {h' : Heap} {gens' : Array GenState} {tk : Nat} (H : At D Fs R s) (hx : Ext s.heap h') (hg : GOk D gens') (hr : ∀ r ∈ Rn, r.holds h') (hn : (fps Rn).Nodup) (hnew : ∀ b ∈ fps Rn, s.heap.objs.size ≤ b) :
    At D Fs (Rn ++ R) { s with heap := h', gens := gens', toks := tk } := by
  have efp : fps (Rn ++ R) = fps Rn ++ fps R := List.flatMap_append
  have old : ∀ b o, b ∉ D.Ps ++ fps R → s.heap.get? b = some o → b ∉ D.Ps ++ fps (Rn ++ R) := fun b o nb e m => by
    rcases List.mem_append.mp m with m | m
    · exact nb (List.mem_append_left _ m)
    · rw [efp] at m
      rcases List.mem_append.mp m with m | m
      · exact absurd (Heap.lt_size e) (Nat.not_lt.mpr (hnew b m))
      · exact nb (List.mem_append_right _ m)
  have hv : Ext (seen D R s.heap) (seen D (Rn ++ R) h') := fun b o e => hideAll_get _ (hx b o (of_hideAll _ e)) (old b o (hide_not_mem e) (of_hideAll _ e))
  refine ⟨H.os, hg, fun t ht => (H.tab t ht).keep (fun o e => hx _ o e) (fun o e => hx _ o e), fun t ht => let ⟨o, ho⟩ := H.cs t ht; ⟨o, hv _ _ ho⟩, ?_, ?_, H.base.trans hv, fun F hF => F.mono hv (H.facts F hF)⟩
  · have h0 := H.nodup
    rw [List.nodup_append] at h0 ⊢
    obtain ⟨n1, n2, n3⟩ := h0
    refine ⟨n1, ?_, fun a ha b hb => ?_⟩
    · rw [efp, List.nodup_append]
      refine ⟨hn, n2, fun a ha b hb e => ?_⟩
      subst e
      exact absurd (H.lt a (List.mem_append_right _ hb)) (Nat.not_lt.mpr (hnew a ha))
    · rw [efp] at hb
      rcases List.mem_append.mp hb with hb | hb
      · rintro rfl
        exact absurd (H.lt a (List.mem_append_left _ ha)) (Nat.not_lt.mpr (hnew a hb))
      · exact n3 a ha b hb
  · intro r' hr'
    rcases List.mem_append.mp hr' with hr' | hr'
    · exact hr r' hr'
    · exact r'.loc (fun b _ o e => hx b o e) (H.res r' hr')

/-- a resource is turned and let go -/
theorem At.updDrop {h' : Heap} {gens' : Array GenState} {tk : Nat} (H : At D Fs R s) (hp : Rm r R R') (hx : ∀ b o, b ∉ r.fp → s.heap.get? b = some o → h'.get? b = some o)
    (hg : GOk D gens') : At D Fs R' { s with heap := h', gens := gens', toks := tk } := by
  have H1 := H.front hp
  have nd := H1.nodup
  rw [List.nodup_append] at nd
  have efp : fps (r :: R') = r.fp ++ fps R' := rfl
  have hv : Ext (seen D (r :: R') s.heap) (seen D R' h') := fun b o e => by
    have nb := hide_not_mem e
    refine hideAll_get _ (hx b o (fun m => nb (List.mem_append_right _ (by rw [efp]; exact List.mem_append_left _ m))) (of_hideAll _ e)) fun m => ?_
    rcases List.mem_append.mp m with m | m
    · exact nb (List.mem_append_left _ m)
    · exact nb (List.mem_append_right _ (by rw [efp]; exact List.mem_append_right _ m))
  have n2 := nd.2.1
  rw [efp, List.nodup_append] at n2
  refine ⟨H.os, hg, fun t ht => ?_, fun t ht => let ⟨o, ho⟩ := H1.cs t ht; ⟨o, hv _ _ ho⟩, ?_, fun x hx' => ?_, H1.base.trans hv, fun F hF => F.mono hv (H1.facts F hF)⟩
  · obtain ⟨oc, hoc⟩ := H1.cs t ht
    have nc := hide_not_mem hoc
    refine (H.tab t ht).keep (fun o e => hx _ o (fun m => nc (List.mem_append_right _ (by rw [efp]; exact List.mem_append_left _ m))) e) fun o e => hx _ o (fun m => ?_) e
    exact nd.2.2 _ (List.mem_map.mpr ⟨t, ht, rfl⟩) _ (by rw [efp]; exact List.mem_append_left _ m) rfl
  · rw [List.nodup_append]
    exact ⟨nd.1, n2.2.1, fun a ha b hb => nd.2.2 a ha b (by rw [efp]; exact List.mem_append_right _ hb)⟩
  · exact x.loc (fun b hb o e => hx b o (fun m => n2.2.2 b m b (List.mem_flatMap.mpr ⟨x, hx', hb⟩) rfl) e) (H1.res x (.tail _ hx'))
/-- the resource is let go and its word is a fact from now on -/
theorem At.fz (H : At D Fs R s) (h : Rm r R R') : At D (r.fact :: Fs) R' s := (H.front h).freeze
theorem At.fzL {l : Addr} {vs : List Value} (H : At D Fs R s) (h : Rm (Lst l vs) R R') : At D (ListF l vs :: Fs) R' s :=
  ((H.fz h).learn (G := ListF l vs) (.head _) fun _ x => x).sub fun F hF => by
    rcases List.mem_cons.mp hF with rfl | hF
    · exact .head _
    · exact .tail _ (.tail _ hF)
theorem At.fzC {c : Addr} {v : Value} (H : At D Fs R s) (h : Rm (CellR c (some v)) R R') : At D (CellF c v :: Fs) R' s :=
  ((H.fz h).learn (G := CellF c v) (.head _) fun _ x => x).sub fun F hF => by
    rcases List.mem_cons.mp hF with rfl | hF
    · exact .head _
    · exact .tail _ (.tail _ hF)
end

theorem mem_lookup {l : List (Str × Value)} {x : Str} {v : Value} (h : l.lookup x = some v) : (x, v) ∈ l := by
  induction l with
  | nil => cases h
  | cons p l ih =>
    obtain ⟨y, u⟩ := p
    rw [List.lookup_cons] at h
    by_cases e : x = y
    · subst e; simp at h; subst h; exact .head _
    · have : (x == y) = false := by simpa using e
      rw [this] at h; exact .tail _ (ih h)

section
variable {prog : Program} {w : World} {M : Model} {A : Around} {E : Value → Shared → Prop} {D : Dat} {Fs : List Fact} {R R' : List Res} {s : Shared} {env : Env} {K : Frag} {n : Nat}
variable {L : Addr} {l l' : List (Str × Value)} {x : Str} {pos : Pos} {v : Value} {a b : Int} {t u : Tok} {Q : Value → Shared → Prop}

theorem v_ld (hL : env.locals = L) (H : At D Fs R s) (hm : Vars L l ∈ R) (hv : l.lookup x = some v) (h : Q v s) (hk : env.scope.kind = .function) (hl : env.kindOf x = some .local) (hd : (x == ("__debug__" : Str)) = false) :
    wpAny M A (eval (.Name x pos) env) Q E s := by
  obtain ⟨m, n, e⟩ := H.res _ hm
  exact wpAny_Name (wpAny_loadName_local hk hl (hL ▸ n) (e _ _ hv) h) hd
theorem v_ldn (hL : env.locals = L) (H : At D Fs R s) (hm : Vars L l ∈ R) (hv : l.lookup x = some v) (h : Q v s) (hk : env.scope.kind = .function) (hl : env.kindOf x = some .local) :
    wpAny M A (loadName env x) Q E s := by
  obtain ⟨m, n, e⟩ := H.res _ hm
  exact wpAny_loadName_local hk hl (hL ▸ n) (e _ _ hv) h
theorem v_st {Q : Unit → Shared → Prop} (hL : env.locals = L) (H : At D Fs R s) (hp : Rp (Vars L l) (Vars L l') R R') (hs : SetV x v l l') (h : ∀ s', At D Fs R' s' → Q () s')
    (hk : env.scope.kind = .function) (hl : env.kindOf x = some .local) : wpAny M A (storeName env x v) Q E s := by
  obtain ⟨m, n, e⟩ := H.res _ hp.mem
  subst hL
  refine wpAny_storeName_local hl n (fun h' hn hs' => h _ (H.upd hp rfl (fun b o nb e => hs'.extBut b o (fun q => nb (List.mem_singleton.mpr q)) e) ⟨_, hn, fun y u q => ?_⟩ H.gens)) (by rw [hk]; rfl)
  rw [hs.lookup] at q
  by_cases c : y = x
  · simpa [c] using q
  · simp [c] at q ⊢; exact e _ _ q

theorem Sub.refl : ∀ R : List Res, Sub R R
  | [] => .nil
  | _ :: R => .cons .refl .head (Sub.refl R)

theorem Sub.drop {r : Res} {R R' : List Res} (h : Sub R R') : Sub (r :: R) R' := by
  induction h with
  | nil => exact .nil
  | cons i rm _ ih => exact .cons i (.tail rm) ‹_›
theorem fin_int {k j : Int} {Fs' : List Fact} (h : ∀ t s', At D Fs R s' → Q (.int k t) s') (H : At D Fs' R' s) (hs : Sub R' R) (hf : ∀ F ∈ Fs, F ∈ Fs') (e : k = j) : Q (.int j t) s := e ▸ h _ _ (H.to' hs hf)
theorem fin_ref {a : Addr} {Fs' Fn : List Fact} (h : ∀ s', At D (Fn ++ Fs) R s' → Q (.ref a) s') (H : At D Fs' R' s) (hs : Sub R' R) (hf : ∀ F ∈ Fn ++ Fs, F ∈ Fs') : Q (.ref a) s := h _ (H.to' hs hf)

/-- a plain def is called -/
theorem v_call {name qual : Str} {params : Arguments} {body : List Stmt} {scope : Scope} {dV kV doc pm cdv ct oc : Value} {an od : Option Addr} {osl : Array (Option Value)} {f : Addr} {vals : List Value} {binds : List (Str × Value)}
    (l : List (Str × Value))
    (W : Wd K D) (H : At D Fs R s) (hA : Ok A (n + 1)) (ho : K.lookup f = some ⟨oc, od, .func (fnOf name qual params body scope dV kV doc pm an cdv ct), osl⟩) (hcd : codeIn K cdv qual = true)
    (hbind : bindArgs (fnOf name qual params body scope dV kV doc pm an cdv ct) ⟨vals, []⟩ = pure binds) (hloc : ∀ y ∈ binds, scope.names.lookup y.1 = some .local)
    (hm : binds.reverse = l)
    (h : ∀ L s', Ok (A.deeper (envOf qual scope L f cdv)) n → At D Fs (Vars L l :: R) s' → wpAny (model prog w) (A.deeper (envOf qual scope L f cdv)) (execs body (envOf qual scope L f cdv)) (fun fl s' => Q (match fl with | .ret v => v | _ => .none) s') (fun _ _ => False) s')
    (hcell : ∀ x ∈ scope.names, x.2 ≠ .cell) (hco : scope.isCoroutine = false) (hgen : scope.isGenerator = false) (hk : scope.kind = .function) : codeAny (model prog w) A (.call (.ref f) ⟨vals, []⟩) (Ret Q) s := by
  refine r_call (m := fun y => binds.reverse.lookup y) W H hA ho hcd hbind hloc rfl (fun L s' H' => h L s' (hA.deeper _) ?_) hcell hco hgen hk
  exact H'.to (Sub.cons (r := Loc L fun y => binds.reverse.lookup y) (r' := Vars L l) ⟨rfl, fun h₁ x => ⟨_, x, fun y u q => hm ▸ q⟩⟩ .head (Sub.refl _))
/-- a def with cells is called: the bound cells are facts, the unbound ones resources -/
theorem v_callc {name qual : Str} {params : Arguments} {body : List Stmt} {scope : Scope} {dV kV doc pm cdv ct oc : Value} {an od : Option Addr} {osl : Array (Option Value)} {f : Addr} {vals : List Value} {binds : List (Str × Value)}
    (l : List (Str × Value)) (cm : Addr → List (Addr × Value)) (um : Addr → List Addr)
    (W : Wd K D) (H : At D Fs R s) (hA : Ok A (n + 1)) (ho : K.lookup f = some ⟨oc, od, .func (fnOf name qual params body scope dV kV doc pm an cdv ct), osl⟩) (hcd : codeIn K cdv qual = true)
    (hbind : bindArgs (fnOf name qual params body scope dV kV doc pm an cdv ct) ⟨vals, []⟩ = pure binds)
    (hkind : (binds.all fun y => scope.names.lookup y.1 == some .local || scope.names.lookup y.1 == some .cell) = true)
    (hm : ∀ L, ∀ p ∈ l, bindL (envOfC qual scope L f cdv).kindOf binds (fun _ => none) p.1 = some p.2)
    (hcm : ∀ L, cm L = (cellsFrom (L + 1) scope.names []).filterMap fun p => (bindC (envOfC qual scope L f cdv).kindOf binds (fun _ => none) p.1).map fun v => (p.2, v))
    (hum : ∀ L, um L = (cellsFrom (L + 1) scope.names []).filterMap fun p => if (bindC (envOfC qual scope L f cdv).kindOf binds (fun _ => none) p.1).isNone then some p.2 else none)
    (hnd : ((cellsFrom 0 scope.names []).map (·.1)).Nodup) (hud : ∀ L, (um L).Nodup)
    (h : ∀ L s', Ok (A.deeper (envOfC qual scope L f cdv)) n → At D ((cm L).map (fun p => CellF p.1 p.2) ++ Fs) (Vars L l :: ((um L).map fun c => CellR c none) ++ R) s' →
      wpAny (model prog w) (A.deeper (envOfC qual scope L f cdv)) (execs body (envOfC qual scope L f cdv)) (fun fl s' => Q (match fl with | .ret v => v | _ => .none) s') (fun _ _ => False) s')
    (hco : scope.isCoroutine = false) (hgen : scope.isGenerator = false) (hk : scope.kind = .function) : codeAny (model prog w) A (.call (.ref f) ⟨vals, []⟩) (Ret Q) s := by
  refine (codeAny_call_cells (R := Ret Q) (fd := fnOf name qual params body scope dV kV doc pm an cdv ct) (body := body) (binds := binds) hA.room ((At.kin W H) _ _ ho) rfl (H.lim W) (codeRec_of (At.kin W H) hcd) rfl hbind rfl (kindsX hkind _) (fun s₁ x => ?_) hco hgen hk)
  obtain ⟨h₁, tk, rfl, hk₁⟩ := x.done
  have above : ∀ p ∈ cellsFrom (s.heap.objs.size + 1) scope.names [], s.heap.objs.size < p.2 := fun p hp => x.above p.1 p.2 hp
  have cellAt : ∀ q ∈ cellsFrom (s.heap.objs.size + 1) scope.names [], h₁.IsCell q.2 (bindC (envOfC qual scope s.heap.objs.size f cdv).kindOf binds (fun _ => none) q.1) := fun q hq =>
    x.cell q.1 q.2 (lookup_of_mem_nodup (cellsFrom_names scope.names 0 (s.heap.objs.size + 1) [] [] rfl ▸ hnd) hq)
  have um_lt : ∀ b ∈ um s.heap.objs.size, ∃ q ∈ cellsFrom (s.heap.objs.size + 1) scope.names [], q.2 = b ∧ bindC (envOfC qual scope s.heap.objs.size f cdv).kindOf binds (fun _ => none) q.1 = none := fun b hb => by
    rw [hum] at hb
    obtain ⟨q, hq, e⟩ := List.mem_filterMap.mp hb
    by_cases c : (bindC (envOfC qual scope s.heap.objs.size f cdv).kindOf binds (fun _ => none) q.1).isNone
    · simp only [c, if_true] at e
      exact ⟨q, hq, by simpa using e, by simpa using c⟩
    · simp [c] at e
  have fpE : fps (Vars s.heap.objs.size l :: (um s.heap.objs.size).map fun c => CellR c none) = s.heap.objs.size :: um s.heap.objs.size := by
    show [s.heap.objs.size] ++ List.flatMap _ _ = _
    rw [List.flatMap_map]
    show s.heap.objs.size :: List.flatMap (fun a => [a]) _ = _
    rw [show List.flatMap (fun a => [a]) (um s.heap.objs.size) = um s.heap.objs.size from by induction um s.heap.objs.size with
      | nil => rfl
      | cons a r ih => simp [List.flatMap_cons]]
  have Hn : At D Fs ((Vars s.heap.objs.size l :: (um s.heap.objs.size).map fun c => CellR c none) ++ R) { s with heap := h₁, toks := tk } := by
    refine H.ownL (gens' := s.gens) (tk := tk) hk₁ H.gens (fun r hr => ?_) ?_ ?_
    · rcases List.mem_cons.mp hr with rfl | hr
      · exact ⟨_, x.toInCall.ns, fun y u q => hm _ _ (mem_lookup q)⟩
      · obtain ⟨c, hc, rfl⟩ := List.mem_map.mp hr
        obtain ⟨q, hq, rfl, e⟩ := um_lt c hc
        have := cellAt q hq
        rw [e] at this
        exact this
    · rw [fpE, List.nodup_cons]
      exact ⟨fun m => by obtain ⟨q, hq, e, _⟩ := um_lt _ m; have := above q hq; rw [e] at this; exact Nat.lt_irrefl _ this, hud _⟩
    · rw [fpE]
      intro b hb
      rcases List.mem_cons.mp hb with rfl | hb
      · exact Nat.le_refl _
      · obtain ⟨q, hq, rfl, _⟩ := um_lt b hb
        exact Nat.le_of_lt (above q hq)
  refine wpAny_mono (h s.heap.objs.size _ (hA.deeper _) (Hn.grow (h' := h₁) (gens' := s.gens) (tk := tk) (Ext.refl _) H.gens fun F hF => ?_)) (fun _ _ q => q) fun _ _ f => f.elim
  rcases List.mem_append.mp hF with hF | hF
  · obtain ⟨p, hp, rfl⟩ := List.mem_map.mp hF
    rw [hcm] at hp
    obtain ⟨q, hq, e⟩ := List.mem_filterMap.mp hp
    obtain ⟨v, hv, rfl⟩ := Option.map_eq_some_iff.mp e
    right
    have hc := cellAt q hq
    rw [hv] at hc
    obtain ⟨o, ho, hd⟩ := hc
    refine ⟨o, hideAll_get _ ho fun hmem => ?_, hd⟩
    have hlt := above q hq
    rcases List.mem_append.mp hmem with hmem | hmem
    · exact absurd (H.lt _ (List.mem_append_left _ hmem)) (Nat.not_lt.mpr (Nat.le_of_lt hlt))
    · rw [show fps ((Vars s.heap.objs.size l :: (um s.heap.objs.size).map fun c => CellR c none) ++ R) = (s.heap.objs.size :: um s.heap.objs.size) ++ fps R from by rw [← fpE]; exact List.flatMap_append] at hmem
      rcases List.mem_append.mp hmem with hmem | hmem
      · rcases List.mem_cons.mp hmem with hmem | hmem
        · exact absurd hmem (Nat.ne_of_gt hlt)
        · obtain ⟨q', hq', e', n'⟩ := um_lt _ hmem
          have c1 := cellAt q' hq'
          rw [n', e'] at c1
          obtain ⟨o1, h1, d1⟩ := c1
          rw [ho] at h1
          cases h1
          rw [hd] at d1
          simp at d1
      · exact absurd (H.lt _ (List.mem_append_right _ hmem)) (Nat.not_lt.mpr (Nat.le_of_lt hlt))
  · exact .inl hF

/-- a store into a cell variable -/
theorem v_stc {c : Addr} {ov : Option Value} {Q : Unit → Shared → Prop} (H : At D Fs R s) (hc : env.cells.lookup x = some c) (hp : Rp (CellR c ov) (CellR c (some v)) R R') (h : ∀ s', At D Fs R' s' → Q () s')
    (hk : env.scope.kind = .function) (hl : env.kindOf x = some .cell) : wpAny M A (storeName env x v) Q E s := by
  refine wpAny_storeName_cell hk hl hc (H.res _ hp.mem) fun h' hv hs => ?_
  exact h _ (H.upd (gens' := s.gens) (tk := s.toks) hp rfl (fun b o nb e => hs.extBut b o (fun q => nb (List.mem_singleton.mpr q)) e) hv H.gens)
end
end Mine

namespace Mine

/-- stops the walk -/
structure Hold (P : Prop) : Prop where
  out : P
def Tru : Fact := ⟨fun _ => True, fun _ _ => trivial⟩
def TgtOk : Bool → Expr → Prop
  | true, e => ∃ elts k pos, e = .Tuple elts k pos
  | false, e => ∃ x pos, e = .Name x pos

/-- an iterator: St i says where it stands, N what it leans on -/
structure Nexts (prog : Program) (w : World) (D : Dat) (pair : Bool) (it : Addr) (n : Nat) (St : Nat → Res) (N : Fact) (V : Nat → Value → Fact → Prop) : Prop where
  item : ∀ {target A E Fs R R' s i} {Q : Value → Shared → Prop}, TgtOk pair target → A.handled = none → i < n → At D Fs R s → N ∈ Fs → Rp (St i) (St (i + 1)) R R' →
    (∀ v F s', V i v F → At D (F :: Fs) R' s' → Q v s') →
    wpAny (model prog w) A (pyNext (.ref it)) (fun r s1 => ∃ v, r = some v ∧ wpAny (model prog w) A (letOwnedTupleGo target (.ref it) v) (fun _ s2 => Q v s2) E s1) E s
  done : ∀ {A E Fs R R' s} {Q : Option Value → Shared → Prop}, A.handled = none → At D Fs R s → N ∈ Fs → Rm (St n) R R' → (∀ s', At D Fs R' s' → Q none s') → wpAny (model prog w) A (pyNext (.ref it)) Q E s
  self : ∀ {A E Fs R s i} {Q : Value → Shared → Prop}, A.handled = none → At D Fs R s → N ∈ Fs → St i ∈ R → Q (.ref it) s → wpAny (model prog w) A (pyIter (.ref it)) Q E s

section
variable {prog : Program} {w : World} {D : Dat}

theorem letGo_name {x : Str} {pos : Pos} (it v : Value) : letOwnedTupleGo (.Name x pos) it v = pure () := rfl

/-- from the library's walk; `still`: a tuple target leaves the iterator as it is -/
theorem Nexts.ofWalks {pair : Bool} {I : Addr} {fp wr : List Addr} {n : Nat} {P : Nat → Value → Prop} {St₀ : Nat → Heap → Prop} {St : Nat → Res} {N : Fact}
    (W : ∀ A : Around, A.handled = none → Walks prog w A I fp wr n P St₀) (hSt : ∀ i, (St i).fp = wr)
    (join : ∀ i h, (St i).holds h → N.holds h → St₀ i h) (part : ∀ i h, St₀ i h → (St i).holds h)
    (still : ∀ i h, St₀ i h → ∃ o T, h.get? I = some o ∧ o.cls = .type T ∧ (["enumerate", "zip", "dict_itemiterator", "dict_reverseitemiterator", "odict_iterator", "itertools.zip_longest", "itertools.pairwise"].contains T) = false) :
    Nexts prog w D pair I n St N (fun i v F => P i v ∧ F = Tru) where
  item := by
    intro target A E Fs R R' s i Q ht hh hi H hN hp h
    refine (W A hh).item i s _ E hi (join _ _ (H.res _ hp.mem) (H.fact hN)) fun v h' tk hP hst hk => ⟨v, rfl, ?_⟩
    have H1 := H.upd (h' := h') (gens' := s.gens) (tk := tk) hp ((hSt _).trans (hSt _).symm) (fun b o nb e => hk b o (hSt i ▸ nb) e) (part _ _ hst) H.gens
    have H2 : At D (Tru :: Fs) R' { s with heap := h', toks := tk } := ⟨H1.os, H1.gens, H1.tab, H1.cs, H1.nodup, H1.res, H1.base, fun F hF => by
      rcases List.mem_cons.mp hF with rfl | hF
      · trivial
      · exact H1.facts F hF⟩
    have goal := h v Tru _ ⟨hP, rfl⟩ H2
    cases pair with
    | false => obtain ⟨x, pos, rfl⟩ := ht; exact wpAny_pure goal
    | true =>
      obtain ⟨elts, k, pos, rfl⟩ := ht
      obtain ⟨o, T, ho, hc, hT⟩ := still _ _ hst
      cases v with
      | ref a =>
        unfold letOwnedTupleGo
        refine wpAny_bind (wpAny_load ho ?_)
        rw [hc]
        split
        · rename_i n' vs e1 e2
          cases e1
          split
          · rename_i hh'
            rw [hT, Bool.false_and] at hh'; cases hh'
          · exact wpAny_pure goal
        · exact wpAny_pure goal
      | _ => exact wpAny_pure goal
  done := by
    intro A E Fs R R' s Q hh H hN hp h
    refine (W A hh).done s _ E (join _ _ (H.res _ (hp.perm.mem_iff.mpr (.head _))) (H.fact hN)) fun h' tk hk => ?_
    exact h _ (H.updDrop (h' := h') (gens' := s.gens) (tk := tk) hp (fun b o nb e => hk b o (hSt n ▸ nb) e) H.gens)
  self := by
    intro A E Fs R s i Q hh H hN hm h
    exact (W A hh).self i s Q E (join _ _ (H.res _ hm) (H.fact hN)) h

/-- from the library's walk over pairs -/
theorem Nexts.ofWalksT {I : Addr} {fp wr : List Addr} {n : Nat} {Pt : Nat → Array Value → Prop} {St₀ : Nat → Heap → Prop} {Mid : Nat → Addr → Heap → Prop} {St : Nat → Res} {N : Fact}
    (W : ∀ A : Around, A.handled = none → WalksT prog w A I fp wr n Pt St₀ Mid) (hSt : ∀ i, (St i).fp = wr)
    (join : ∀ i h, (St i).holds h → N.holds h → St₀ i h) (part : ∀ i h, St₀ i h → (St i).holds h) :
    Nexts prog w D true I n St N (fun i v F => ∃ T vals, v = .ref T ∧ Pt i vals ∧ F = TupF T vals.toList) where
  item := by
    rintro target A E Fs R R' s i Q ⟨elts, k, pos, rfl⟩ hh hi H hN hp h
    refine (W A hh).item i s _ E hi (join _ _ (H.res _ hp.mem) (H.fact hN)) fun T vals h' tk hP hge hT hmid hk => ⟨_, rfl, ?_⟩
    have hap := (W A hh).apart _ _ _ hmid
    refine (W A hh).go elts k pos i T _ _ E hmid fun h'' hst hk' => ?_
    have H1 := H.upd (h' := h'') (gens' := s.gens) (tk := tk) hp ((hSt _).trans (hSt _).symm) (fun b o nb e => hk' b o (hSt i ▸ nb) (hk b o (hSt i ▸ nb) e)) (part _ _ hst) H.gens
    refine h _ (TupF T vals.toList) _ ⟨T, vals, rfl, hP, rfl⟩ ⟨H1.os, H1.gens, H1.tab, H1.cs, H1.nodup, H1.res, H1.base, fun F hF => ?_⟩
    rcases List.mem_cons.mp hF with rfl | hF
    · obtain ⟨o, ho, r⟩ := hT
      refine ⟨o, hideAll_get _ (hk' _ _ hap ho) fun hm => ?_, by simpa using r⟩
      have := H.lt T (by
        have efp := hp.fps_eq ((hSt (i + 1)).trans (hSt i).symm)
        rw [efp] at hm; exact hm)
      exact absurd this (Nat.not_lt.mpr hge)
    · exact H1.facts F hF
  done := by
    intro A E Fs R R' s Q hh H hN hp h
    refine (W A hh).done s _ E (join _ _ (H.res _ (hp.perm.mem_iff.mpr (.head _))) (H.fact hN)) fun h' tk hk => ?_
    exact h _ (H.updDrop (h' := h') (gens' := s.gens) (tk := tk) hp (fun b o nb e => hk b o (hSt n ▸ nb) e) H.gens)
  self := by
    intro A E Fs R s i Q hh H hN hm h
    exact (W A hh).self i s Q E (join _ _ (H.res _ hm) (H.fact hN)) h
end

def LItR (I l : Addr) (i : Nat) : Res := ⟨[I], fun h => h.IsListIter I l i, fun k x => x.at fun o e => k I (.head _) o e, fun ⟨_, e, _⟩ b hb => by rw [List.mem_singleton.mp hb]; exact Heap.lt_size e⟩
def TItR (I l : Addr) (i : Nat) : Res := ⟨[I], fun h => h.IsTupleIter I l i, fun k x => x.at fun o e => k I (.head _) o e, fun ⟨_, e, _⟩ b hb => by rw [List.mem_singleton.mp hb]; exact Heap.lt_size e⟩
def RItR (I : Addr) (a c : Int) (n : Nat) (i : Nat) : Res := ⟨[I], fun h => IsRangeIter h I (a + (i : Nat) * c) ((n : Int) - (i : Nat)) c, fun k x => k I (.head _) _ x, fun x b hb => by rw [List.mem_singleton.mp hb]; exact Heap.lt_size x⟩

section
variable {prog : Program} {w : World} {M : Model} {A : Around} {E : Value → Shared → Prop} {D : Dat} {Fs : List Fact} {R R' : List Res} {s : Shared} {env : Env} {K : Frag} {n : Nat}
variable {x : Str} {pos : Pos} {v : Value} {t u : Tok} {Q : Value → Shared → Prop}

theorem nexts_list {pair : Bool} {I l : Addr} {vs : List Value} (hne : l ≠ I) : Nexts prog w D pair I vs.length (LItR I l) (ListF l vs) (fun i v F => vs[i]? = some v ∧ F = Tru) := by
  have e := Nexts.ofWalks (pair := pair) (D := D) (fun (A : Around) (hh : A.handled = none) => Walks.list (prog := prog) (w := w) hh I l hne vs.toArray) (St := LItR I l) (N := ListF l vs) (fun _ => rfl) (fun _ _ a b => ⟨a, Heap.PlainList.isList b⟩) (fun _ _ a => a.1)
    (fun _ _ a => let ⟨o, h, c, _⟩ := a.1; ⟨o, _, h, c, by decide⟩)
  simpa using e
theorem nexts_tuple {pair : Bool} {I l : Addr} {vs : List Value} (hne : l ≠ I) : Nexts prog w D pair I vs.length (TItR I l) (TupF l vs) (fun i v F => vs[i]? = some v ∧ F = Tru) := by
  have e := Nexts.ofWalks (pair := pair) (D := D) (fun (A : Around) (hh : A.handled = none) => Walks.tuple (prog := prog) (w := w) hh I l hne vs.toArray) (St := TItR I l) (N := TupF l vs) (fun _ => rfl) (fun _ _ a b => ⟨a, b⟩) (fun _ _ a => a.1)
    (fun _ _ a => let ⟨o, h, c, _⟩ := a.1; ⟨o, _, h, c, by decide⟩)
  simpa using e
theorem nexts_range {pair : Bool} {I : Addr} {a c : Int} {n : Nat} : Nexts prog w D pair I n (RItR I a c n) Tru (fun i v F => (∃ t, v = .int (a + i * c) t) ∧ F = Tru) :=
  Nexts.ofWalks (fun (A : Around) (hh : A.handled = none) => Walks.range hh I a c n) (fun _ => rfl) (fun _ _ a _ => a) (fun _ _ a => a) (fun _ _ a => ⟨_, _, a, rfl, by decide⟩)

theorem not_fps {F : Fact} (H : At D Fs R s) (hF : F ∈ Fs) {a : Addr} (hl : ∀ h, F.holds h → ∃ o, h.get? a = some o) : a ∉ D.Ps ++ fps R := by
  obtain ⟨o, ho⟩ := hl _ (H.facts F hF)
  exact hide_not_mem ho

/-- iter(list) -/
theorem r_iterL {l : Addr} {vs : List Value} (H : At D Fs R s) (hm : ListF l vs ∈ Fs)
    (h : ∀ I s', (∀ pair ng, Nexts prog w (D.withNg ng) pair I vs.length (LItR I l) (ListF l vs) (fun i v F => vs[i]? = some v ∧ F = Tru)) → At D Fs (LItR I l 0 :: R) s' → Q (.ref I) s') : wpAny (model prog w) A (pyIter (.ref l)) Q E s := by
  have hl := H.fact hm
  have hlt : l < s.heap.objs.size := by obtain ⟨_, e⟩ := hl; exact Heap.lt_size e
  refine wpAny_pyIter_list (Heap.PlainList.isList hl) (h _ _ (fun _ _ => nexts_list (Nat.ne_of_lt hlt)) ?_)
  exact H.own (r := LItR _ l 0) (gens' := s.gens) (tk := s.toks) (Ext.push _ _) H.gens ⟨_, Heap.get?_push_size _ rfl, rfl, rfl⟩ (nd1 _) fun b hb => by rw [List.mem_singleton.mp hb]; exact Nat.le_refl _
theorem r_iterLR {l : Addr} {vs : List Value} (H : At D Fs R s) (hm : Rm (Lst l vs) R R')
    (h : ∀ I s', (∀ pair ng, Nexts prog w (D.withNg ng) pair I vs.length (LItR I l) (ListF l vs) (fun i v F => vs[i]? = some v ∧ F = Tru)) → At D (ListF l vs :: Fs) (LItR I l 0 :: R') s' → Q (.ref I) s') : wpAny (model prog w) A (pyIter (.ref l)) Q E s :=
  r_iterL (H.fzL hm) (.head _) h
theorem r_iterT {l : Addr} {vs : List Value} (H : At D Fs R s) (hm : TupF l vs ∈ Fs)
    (h : ∀ I s', (∀ pair ng, Nexts prog w (D.withNg ng) pair I vs.length (TItR I l) (TupF l vs) (fun i v F => vs[i]? = some v ∧ F = Tru)) → At D Fs (TItR I l 0 :: R) s' → Q (.ref I) s') : wpAny (model prog w) A (pyIter (.ref l)) Q E s := by
  have hl := H.fact hm
  have hlt : l < s.heap.objs.size := by obtain ⟨_, e, _⟩ := hl; exact Heap.lt_size e
  refine wpAny_pyIter_tuple (isTuple hl) (h _ _ (fun _ _ => nexts_tuple (Nat.ne_of_lt hlt)) ?_)
  exact H.own (r := TItR _ l 0) (gens' := s.gens) (tk := s.toks) (Ext.push _ _) H.gens ⟨_, Heap.get?_push_size _ rfl, rfl, rfl⟩ (nd1 _) fun b hb => by rw [List.mem_singleton.mp hb]; exact Nat.le_refl _

def RangeF (r : Addr) (a b c : Int) : Fact := ⟨fun h => ∃ t u v, IsRange h r a b c t u v, fun k ⟨t, u, v, e⟩ => ⟨t, u, v, k _ _ e⟩⟩
theorem r_iterU {r : Addr} {a b : Int} (H : At D Fs R s) (hm : RangeF r a b 1 ∈ Fs) (hs : -(2 ^ 62) ≤ a ∧ a < 2 ^ 62 ∧ -(2 ^ 62) ≤ b ∧ b < 2 ^ 62)
    (h : ∀ I s', (∀ pair ng, Nexts prog w (D.withNg ng) pair I (b - a).toNat (RItR I a 1 (b - a).toNat) Tru (fun i v F => (∃ t, v = .int (a + i * 1) t) ∧ F = Tru)) →
      At D (Tru :: Fs) (RItR I a 1 (b - a).toNat 0 :: R) s' → Q (.ref I) s') : wpAny (model prog w) A (pyIter (.ref r)) Q E s := by
  obtain ⟨t, u, v, hr⟩ := H.fact hm
  have hsz : (Builtin.Range.rangeSize a b 1).toNat = (b - a).toNat := by rw [rangeSize_one]; split <;> omega
  have h0 : 0 ≤ Builtin.Range.rangeSize a b 1 := by rw [rangeSize_one]; split <;> omega
  refine wpAny_pyIter_range hr (small_one hs.1 hs.2.1 hs.2.2.1 hs.2.2.2) (h _ _ (fun _ _ => nexts_range) ?_)
  have H1 := H.own (r := RItR s.heap.objs.size a 1 (b - a).toNat 0) (h' := s.heap.push { cls := .type "range_iterator", data := .fields #[rawInt a, rawInt (Builtin.Range.rangeSize a b 1), rawInt 1] }) (gens' := s.gens) (tk := s.toks) (Ext.push _ _) H.gens (by
    have e1 : a + ((0 : Nat) : Int) * 1 = a := by simp
    have e2 : (((b - a).toNat : Nat) : Int) - ((0 : Nat) : Int) = Builtin.Range.rangeSize a b 1 := by rw [← hsz]; omega
    show IsRangeIter _ _ _ _ _
    rw [e1, e2]; exact Heap.get?_push_size _ rfl) (nd1 _) fun b hb => by rw [List.mem_singleton.mp hb]; exact Nat.le_refl _
  exact ⟨H1.os, H1.gens, H1.tab, H1.cs, H1.nodup, H1.res, H1.base, fun F hF => by
    rcases List.mem_cons.mp hF with rfl | hF
    · trivial
    · exact H1.facts F hF⟩
/-- range down -/
theorem r_iterD {r : Addr} {a b : Int} (H : At D Fs R s) (hm : RangeF r a b (-1) ∈ Fs) (hs : -(2 ^ 61) ≤ a ∧ a < 2 ^ 61 ∧ -(2 ^ 61) ≤ b ∧ b < 2 ^ 61)
    (h : ∀ I s', (∀ pair ng, Nexts prog w (D.withNg ng) pair I (a - b).toNat (RItR I a (-1) (a - b).toNat) Tru (fun i v F => (∃ t, v = .int (a + i * -1) t) ∧ F = Tru)) →
      At D (Tru :: Fs) (RItR I a (-1) (a - b).toNat 0 :: R) s' → Q (.ref I) s') : wpAny (model prog w) A (pyIter (.ref r)) Q E s := by
  obtain ⟨t, u, v, hr⟩ := H.fact hm
  have e0 : Builtin.Range.rangeSize a b (-1) = if b < a then a - b else 0 := by
    unfold Builtin.Range.rangeSize
    simp only [show ¬ (-1 : Int) > 0 by decide, if_false]
    split
    · simp <;> omega
    · rfl
  have hsz : (Builtin.Range.rangeSize a b (-1)).toNat = (a - b).toNat := by rw [e0]; split <;> omega
  have h0 : 0 ≤ Builtin.Range.rangeSize a b (-1) := by rw [e0]; split <;> omega
  have hsm : Builtin.Range.small a b (-1) = true := by
    unfold Builtin.Range.small
    rw [e0]
    simp only [Builtin.Range.rangeFitsLong, Bool.and_eq_true, Bool.or_eq_true, decide_eq_true_eq, beq_iff_eq, show ¬ (-1 : Int) > 0 by decide, if_false]
    split <;> omega
  refine wpAny_pyIter_range hr hsm (h _ _ (fun _ _ => nexts_range) ?_)
  have H1 := H.own (r := RItR s.heap.objs.size a (-1) (a - b).toNat 0) (h' := s.heap.push { cls := .type "range_iterator", data := .fields #[rawInt a, rawInt (Builtin.Range.rangeSize a b (-1)), rawInt (-1)] }) (gens' := s.gens) (tk := s.toks) (Ext.push _ _) H.gens (by
    have e1 : a + ((0 : Nat) : Int) * (-1) = a := by simp
    have e2 : (((a - b).toNat : Nat) : Int) - ((0 : Nat) : Int) = Builtin.Range.rangeSize a b (-1) := by rw [← hsz]; omega
    show IsRangeIter _ _ _ _ _
    rw [e1, e2]; exact Heap.get?_push_size _ rfl) (nd1 _) fun b hb => by rw [List.mem_singleton.mp hb]; exact Nat.le_refl _
  exact ⟨H1.os, H1.gens, H1.tab, H1.cs, H1.nodup, H1.res, H1.base, fun F hF => by
    rcases List.mem_cons.mp hF with rfl | hF
    · trivial
    · exact H1.facts F hF⟩
theorem r_iterR {r : Addr} {a b c : Int} (H : At D Fs R s) (hm : RangeF r a b c ∈ Fs) (hs : Builtin.Range.small a b c = true) (h0 : 0 ≤ Builtin.Range.rangeSize a b c)
    (h : ∀ I s', (∀ pair ng, Nexts prog w (D.withNg ng) pair I (Builtin.Range.rangeSize a b c).toNat (RItR I a c (Builtin.Range.rangeSize a b c).toNat) Tru (fun i v F => (∃ t, v = .int (a + i * c) t) ∧ F = Tru)) →
      At D (Tru :: Fs) (RItR I a c (Builtin.Range.rangeSize a b c).toNat 0 :: R) s' → Q (.ref I) s') : wpAny (model prog w) A (pyIter (.ref r)) Q E s := by
  obtain ⟨t, u, v, hr⟩ := H.fact hm
  refine wpAny_pyIter_range hr hs (h _ _ (fun _ _ => nexts_range) ?_)
  have H1 := H.own (r := RItR s.heap.objs.size a c (Builtin.Range.rangeSize a b c).toNat 0) (h' := s.heap.push { cls := .type "range_iterator", data := .fields #[rawInt a, rawInt (Builtin.Range.rangeSize a b c), rawInt c] }) (gens' := s.gens) (tk := s.toks) (Ext.push _ _) H.gens (by
    have e1 : a + ((0 : Nat) : Int) * c = a := by simp
    have e2 : (((Builtin.Range.rangeSize a b c).toNat : Nat) : Int) - ((0 : Nat) : Int) = Builtin.Range.rangeSize a b c := by omega
    show IsRangeIter _ _ _ _ _
    rw [e1, e2]; exact Heap.get?_push_size _ rfl) (nd1 _) fun b hb => by rw [List.mem_singleton.mp hb]; exact Nat.le_refl _
  exact ⟨H1.os, H1.gens, H1.tab, H1.cs, H1.nodup, H1.res, H1.base, fun F hF => by
    rcases List.mem_cons.mp hF with rfl | hF
    · trivial
    · exact H1.facts F hF⟩
theorem At.new {o : Obj} {F : Fact} (H : At D Fs R s) (hf : o.isFreed = false) {tk : Nat} (hF : ∀ h, h.get? s.heap.objs.size = some o → F.holds h) : At D (F :: Fs) R { s with heap := s.heap.push o, toks := tk } :=
  ((H.alloc hf (tk := tk)).learn (.head _) hF).sub fun G hG => by
    rcases List.mem_cons.mp hG with rfl | hG
    · exact .head _
    · exact .tail _ (.tail _ hG)
theorem r_range1 {b : Int} (H : At D Fs R s) (h : ∀ r s', At D (RangeF r 0 b 1 :: Fs) R s' → Q (.ref r) s') : wpAny (model prog w) A (call (.type "range") [.int b u]) Q E s :=
  call_range_1 (h _ _ (H.new rfl fun _ e => ⟨_, _, _, e⟩))
theorem r_range2 {a b : Int} (H : At D Fs R s) (h : ∀ r s', At D (RangeF r a b 1 :: Fs) R s' → Q (.ref r) s') : wpAny (model prog w) A (call (.type "range") [.int a t, .int b u]) Q E s :=
  call_range_2 (h _ _ (H.new rfl fun _ e => ⟨_, _, _, e⟩))
theorem r_range3 {a b c : Int} {t2 : Tok} (W : Wd K D) (H : At D Fs R s) (hc : c ≠ 0) (hp : Builtin.divisionGoesByPylong (b - a) c = false) (h : ∀ r s', At D (RangeF r a b c :: Fs) R s' → Q (.ref r) s') : wpAny (model prog w) A (call (.type "range") [.int a t, .int b u, .int c t2]) Q E s :=
  call_range_3 hc (h _ _ (H.new rfl fun _ e => ⟨_, _, _, e⟩)) (.inl hp)

theorem r_newL {vs : List Value} {tk : Nat} (H : At D Fs R s) (hz : vs.length ≤ 1000000) (h : ∀ l s', At D Fs (Lst l vs :: R) s' → Q (.ref l) s') :
    vs.length ≤ sizeLine ∧ Q (.ref s.heap.objs.size) { s with heap := s.heap.push { cls := .type "list", data := .seq vs.toArray }, toks := tk } :=
  ⟨by rw [sizeLine_eq]; omega, h _ _ (H.own (r := Lst _ vs) (gens' := s.gens) (Ext.push _ _) H.gens ⟨0, Heap.get?_push_size _ rfl⟩ (nd1 _) fun b hb => by rw [List.mem_singleton.mp hb]; exact Nat.le_refl _)⟩
theorem At.pushL {vs : List Value} {tk : Nat} (H : At D Fs R s) : At D Fs (Lst s.heap.objs.size vs :: R) { s with heap := s.heap.push { cls := .type "list", data := .seq vs.toArray }, toks := tk } :=
  H.own (r := Lst _ vs) (gens' := s.gens) (Ext.push _ _) H.gens ⟨0, Heap.get?_push_size _ rfl⟩ (nd1 _) fun b hb => by rw [List.mem_singleton.mp hb]; exact Nat.le_refl _
theorem r_newT {vs : List Value} {tk : Nat} (H : At D Fs R s) (hz : vs.length ≤ 1000000) (h : ∀ l s', At D (TupF l vs :: Cell l ⟨.type "tuple", none, .seq vs.toArray 0, #[]⟩ :: Fs) R s' → Q (.ref l) s') :
    vs.length ≤ sizeLine ∧ Q (.ref s.heap.objs.size) { s with heap := s.heap.push { cls := .type "tuple", data := .seq vs.toArray }, toks := tk } :=
  ⟨by rw [sizeLine_eq]; omega, h _ _ ((H.alloc (tk := tk) rfl).learn (.head _) fun _ e => ⟨_, e, rfl, 0, rfl⟩)⟩
theorem r_nl {vs : List Value} (H : At D Fs R s) (hz : vs.length ≤ 1000000) (h : ∀ l s', At D Fs (Lst l vs :: R) s' → Q (.ref l) s') : wpAny M A (newList vs) Q E s :=
  wpAny_newList (r_newL (tk := s.toks) H hz h).2 (by rw [sizeLine_eq]; omega)
theorem r_nt {vs : List Value} (H : At D Fs R s) (hz : vs.length ≤ 1000000) (h : ∀ l s', At D (TupF l vs :: Cell l ⟨.type "tuple", none, .seq vs.toArray 0, #[]⟩ :: Fs) R s' → Q (.ref l) s') : wpAny M A (newTuple vs) Q E s :=
  wpAny_newTuple (r_newT (tk := s.toks) H hz h).2 (by rw [sizeLine_eq]; omega)
theorem At.pl {l : Addr} {vs : List Value} (H : At D Fs R s) (hm : Lst l vs ∈ R) : s.heap.PlainList l vs.toArray := H.res _ hm
theorem At.plF {l : Addr} {vs : List Value} (H : At D Fs R s) (hm : ListF l vs ∈ Fs) : s.heap.PlainList l vs.toArray := H.fact hm

theorem ints_idx {vs : List Value} {ns : List Int} (h : IntsAre vs ns) {k : Int} (h0 : 0 ≤ k) (h1 : k < ns.length) : ∃ t, vs[k.toNat]? = some (.int (ns.getD k.toNat 0) t) := by
  have q' : k.toNat < ns.length := by omega
  exact h.get k.toNat (ns.getD k.toNat 0) (by simp [List.getD, List.getElem?_eq_getElem q'])
theorem ints_set {vs : List Value} {ns : List Int} (h : IntsAre vs ns) (k : Nat) (a : Int) (t : Tok) : IntsAre (vs.set k (.int a t)) (ns.set k a) := by
  induction h generalizing k with
  | nil => exact .nil
  | cons n u h ih => cases k with
    | zero => exact .cons _ _ h
    | succ k => exact .cons _ _ (ih k)
theorem ints_rep (k : Nat) (a : Int) (t : Tok) : IntsAre (List.replicate k (.int a t)) (List.replicate k a) := by
  induction k with
  | zero => exact .nil
  | succ k ih => exact .cons _ _ ih
theorem r_itemLI {value slice : Expr} {l : Addr} {vs : List Value} {ns : List Int} {k : Int} (H : At D Fs R s) (hl : s.heap.PlainList l vs.toArray) (hi : IntsAre vs ns) (h0 : 0 ≤ k) (h1 : k < ns.length) (h2 : k < 2 ^ 60) (h : ∀ t, Q (.int (ns.getD k.toNat 0) t) s)
    (hs : subscripted slice false (.ref l) (.int k u) = operate [.ref l, .int k u] (getItem (.ref l) (.int k u))) : wpAny (model prog w) A (subscriptTail value slice (.ref l) (.int k u)) Q E s := by
  obtain ⟨t, e⟩ := ints_idx hi h0 h1
  have hL := Heap.PlainList.isList hl
  exact tail_any (Heap.IsList.typeIs hL) slot_list_getitem.lookup (wpAny_getItem_list hL h0 (by omega) (by simpa using e) (h t)) hs
theorem r_giLI {l : Addr} {vs : List Value} {ns : List Int} {k : Int} (H : At D Fs R s) (hl : s.heap.PlainList l vs.toArray) (hi : IntsAre vs ns) (h0 : 0 ≤ k) (h1 : k < ns.length) (h2 : k < 2 ^ 60) (h : ∀ t, Q (.int (ns.getD k.toNat 0) t) s) :
    wpAny (model prog w) A (getItem (.ref l) (.int k u)) Q E s := by
  obtain ⟨t, e⟩ := ints_idx hi h0 h1
  exact wpAny_getItem_list (Heap.PlainList.isList hl) h0 (by omega) (by simpa using e) (h t)
theorem r_itemTI {value slice : Expr} {l : Addr} {vs : List Value} {ns : List Int} {k : Int} (H : At D Fs R s) (hm : TupF l vs ∈ Fs) (hi : IntsAre vs ns) (h0 : 0 ≤ k) (h1 : k < ns.length) (h2 : k < 2 ^ 60) (h : ∀ t, Q (.int (ns.getD k.toNat 0) t) s)
    (hs : subscripted slice false (.ref l) (.int k u) = operate [.ref l, .int k u] (getItem (.ref l) (.int k u))) : wpAny (model prog w) A (subscriptTail value slice (.ref l) (.int k u)) Q E s := by
  obtain ⟨t, e⟩ := ints_idx hi h0 h1
  exact r_itemT H hm h0 h2 e (h t) hs
theorem eraseIdx_last (vs : List Value) (y : Value) : (vs ++ [y]).eraseIdx vs.length = vs := by induction vs <;> simp_all
theorem foldl_one (k : Nat) (v : Value) (acc : Array Value) : List.foldl (fun x1 x2 => x1 ++ x2) acc (List.replicate k #[v]) = acc ++ (List.replicate k v).toArray := by
  induction k generalizing acc with
  | zero => simp
  | succ k ih => rw [List.replicate_succ, List.foldl_cons, ih, List.replicate_succ]; apply Array.ext'; simp
/-- [v] * k -/
theorem r_mulL {l : Addr} {k : Int} (H : At D Fs R s) (hl : s.heap.PlainList l #[v]) (hk : k ≤ 1000000) (hk0 : -1000000 ≤ k) (h : ∀ l' s', At D Fs (Lst l' (List.replicate k.toNat v) :: R) s' → Q (.ref l') s') :
    wpAny (model prog w) A (binaryOp .Mult (.ref l) (.int k u)) Q E s := by
  obtain ⟨n, hl⟩ := hl
  refine wpAny_binaryOp_repeat_ref (T := "list") (U := "int") (by decide) ⟨_, hl, rfl⟩ (fun s' => typeIs_int s' k u) noFill_list_mul F.fills_int_mul F.slot_int_rmul repeat_list F.slot_int_index.lookup
    (call_meets F.slot_int_rmul (typeIs_int s k u) F.entry_int_rmul (F.args_int_rmul_2 _ _) (int___rmul___int_list k u l #[v] n)
      ⟨hl, rfl, ⟨_, hl, rfl⟩, call_meets F.slot_list_mul ⟨_, hl, rfl⟩ F.entry_list_mul (F.args_list_mul_2 _ _)
        (AutoListH.list___mul___list_int_3 l #[v] n k u (by simp [Builtin.List.listFitsIndex]; omega) (by simp; omega) (by simp [Builtin.List.listTooLong, sizeLine]; omega))
        ⟨hl, ?_⟩⟩)
  have e : List.foldl (fun x1 x2 => x1 ++ x2) #[] (List.replicate (if (#[v] : Array Value).isEmpty = true then 0 else k.toNat) #[v]) = (List.replicate k.toNat v).toArray := by
    rw [if_neg (by simp), foldl_one]; simp
  rw [e]
  exact h _ _ H.pushL
theorem r_addL {l b : Addr} {vs ws : List Value} (H : At D Fs R s) (hl : s.heap.PlainList l vs.toArray) (hb : s.heap.PlainList b ws.toArray) (hz : vs.length + ws.length ≤ 1000000) (h : ∀ l' s', At D Fs (Lst l' (vs ++ ws) :: R) s' → Q (.ref l') s') :
    wpAny (model prog w) A (binaryOp .Add (.ref l) (.ref b)) Q E s := by
  obtain ⟨n, hl⟩ := hl; obtain ⟨n2, hb⟩ := hb
  refine P.add_list hl hb ?_ (by simp only [List.size_toArray]; rw [sizeLine_eq]; omega)
  have e : vs.toArray ++ ws.toArray = (vs ++ ws).toArray := by simp
  rw [e]
  exact h _ _ H.pushL
/-- del of the last -/
theorem r_pop {l : Addr} {vs : List Value} {y : Value} (H : At D Fs R s) (hp : Rp (Lst l (vs ++ [y])) (Lst l vs) R R') (hz : vs.length ≤ 1000000) (h : ∀ s', At D Fs R' s' → Q y s') :
    wpAny (model prog w) A (callWith pos (.builtin "list.pop") [.ref l] [] []) Q E s := by
  obtain ⟨n, hl⟩ := H.res _ hp.mem
  refine P.pop_list hl (y := y) (by simp) (h _ (H.upd (gens' := s.gens) (tk := s.toks) hp rfl (fun b o nb e => (Heap.get?_update_other _ _ (Ne.symm fun q => nb (List.mem_singleton.mpr q))).trans e) ?_ H.gens)) (by simp only [List.size_toArray, List.length_append, List.length_singleton]; rw [sizeLine_eq]; omega)
  have e := IsL.update hl (fun xs => xs.eraseIdxIfInBounds ((vs ++ [y]).toArray.size - 1))
  have e2 : (vs ++ [y]).toArray.eraseIdxIfInBounds ((vs ++ [y]).toArray.size - 1) = vs.toArray := by simp [eraseIdx_last]
  simp only [e2] at e
  exact ⟨_, e⟩

/-- l[k] = v -/
theorem r_setL {l : Addr} {vs : List Value} {k : Int} {Q : Unit → Shared → Prop} (H : At D Fs R s) (hp : Rp (Lst l vs) (Lst l (vs.set k.toNat v)) R R') (h0 : 0 ≤ k) (h1 : k < 2 ^ 60) (hk : k.toNat < vs.length) (h : ∀ s', At D Fs R' s' → Q () s') :
    wpAny (model prog w) A (setItem (.ref l) (.int k u) v) Q E s := by
  obtain ⟨n, hl⟩ := H.res _ hp.mem
  have hT : s.TypeIs (.ref l) "list" := ⟨_, hl, rfl⟩
  have fin : ∀ h', h' = s.heap.update l (Obj.mapSeq (·.setIfInBounds k.toNat v)) → Q () { s with heap := h' } := by
    rintro h' rfl
    have e := IsL.update hl (fun xs => xs.setIfInBounds k.toNat v)
    have e2 : vs.toArray.setIfInBounds k.toNat v = (vs.set k.toNat v).toArray := by simp
    simp only [e2] at e
    exact h _ (H.upd (gens' := s.gens) (tk := s.toks) hp rfl (fun b o nb e => (Heap.get?_update_other _ _ (Ne.symm fun q => nb (List.mem_singleton.mpr q))).trans e) ⟨_, e⟩ H.gens)
  unfold setItem
  try with_reducible refine wpAny_holding ?_
  first | refine wpAny_bind (wpAny_pure ?_) | skip
  refine wpAny_bind (wpAny_sequenceKey hT (by decide) ?_)
  refine wpAny_bind (wpAny_callSpecial?_slot (name := Str.ofString "__setitem__") hT slot_list_setitem
    (wpAny_call_entry slot_list_setitem hT entry_list_setitem ?_ (args_list_setitem _ _ _)))
  show wpAny _ _ (Builtin.List.listSubscript? (.int k u) >>= _) _ _ s
  refine wpAny_bind (wpAny_listSubscript_int (fitsIndex_of h0 (by omega)) ?_)
  clear h1 h hp
  obtain ⟨j, rfl⟩ := Int.eq_ofNat_of_zero_le h0
  have hx : vs.toArray[j]? = some (vs[j]'(by simpa using hk)) := by simp
  show wpAny _ _ ((seqItemAt l j >>= fun r => pure (r.map (j, ·))) >>= _) _ _ s
  refine wpAny_bind (wpAny_bind (wpAny_seqItemAt hl rfl (wpAny_pure ?_)))
  rw [hx]
  show wpAny _ _ (setSeqItemAt l j v >>= _) _ _ s
  refine wpAny_bind (wpAny_setSeqItemAt hl rfl ?_)
  exact wpAny_pure ⟨.none, rfl, wpAny_pure (fin _ rfl)⟩
theorem fm_range (xs : List Value) : (List.range xs.length).filterMap (xs[·]?) = xs := by
  induction xs with
  | nil => rfl
  | cons x xs ih => rw [List.length_cons, List.range_succ_eq_map, List.filterMap_cons]; simp [List.filterMap_map]; exact ih
theorem slicePick_rev (vs : List Value) : slicePick vs.toArray none none (some (-1)) = vs.reverse.toArray := by
  unfold slicePick
  congr 1
  have e : sliceRange (sliceBounds none none (some (-1)) vs.toArray.size).1 (sliceBounds none none (some (-1)) vs.toArray.size).2.1 (sliceBounds none none (some (-1)) vs.toArray.size).2.2 = (List.range vs.length).reverse := by
    apply List.ext_getElem
    · simp [sliceRange, sliceBounds]; omega
    · intro i h1 h2
      simp [sliceRange, sliceBounds] at h1 h2 ⊢
      omega
  rw [e, List.filterMap_reverse]
  congr 1
  simpa using fm_range vs
theorem r_slice {value slice : Expr} {l : Addr} {vs res : List Value} {vl vu vk : Value} {lo hi st : Option Int} {ops : List Value} {tk : Nat} (H : At D Fs R s) (hl : s.heap.PlainList l vs.toArray) (pl : IsPart vl lo) (pu : IsPart vu hi) (pk : IsPart vk st) (h0 : st ≠ some 0)
    (hres : slicePick vs.toArray lo hi st = res.toArray) (hz : vs.length ≤ 1000000) (h : ∀ l' s', At D Fs (Lst l' res :: R) s' → Q (.ref l') s')
    (hs : subscripted slice false (.ref l) (.ref s.heap.objs.size) = operate ops (getItem (.ref l) (.ref s.heap.objs.size)) := by with_unfolding_all rfl)
    (ht : ∀ r, letTemporaryGo value (.ref l) r = pure () := by intro _; with_unfolding_all rfl) :
    wpAny (model prog w) A (subscriptTail value slice (.ref l) (.ref s.heap.objs.size)) Q E { s with heap := s.heap.push { cls := .type "slice", data := .fields #[vl, vu, vk] }, toks := tk } := by
  have hl' := Heap.PlainList.isList hl
  have H1 : At D Fs R { s with heap := s.heap.push { cls := .type "slice", data := .fields #[vl, vu, vk] }, toks := tk } := H.keeps (Ext.push _ _)
  refine subscriptTail_ops (Heap.IsList.typeIs (s := { s with heap := s.heap.push { cls := .type "slice", data := .fields #[vl, vu, vk] }, toks := tk }) (hl'.push _)) list_getitem_lookup
    (wpAny_getItem_list_slice (hl'.push _) (Heap.IsSliceOf.new ..) pl pu pk h0 ?_ (by simp only [List.size_toArray]; rw [sizeLine_eq]; omega)) hs ht
  rw [hres]
  exact h _ _ H1.pushL
/-- tuple(list), tuple(tuple), list(seq) -/
theorem r_tupL {l : Addr} {vs : List Value} (H : At D Fs R s) (hl : s.heap.PlainList l vs.toArray) (hz : vs.length ≤ 1000000) (h : ∀ l' s', At D (TupF l' vs :: Fs) R s' → Q (.ref l') s') : wpAny (model prog w) A (call (.type "tuple") [.ref l]) Q E s :=
  call_tuple_list (Heap.PlainList.isList hl) (fun h' hk => by
    have H1 : At D Fs R { s with heap := h' } := H.keeps (tk := s.toks) hk
    exact h _ _ (H1.new (tk := s.toks) rfl fun _ e => ⟨_, e, rfl, 0, rfl⟩)) (by simp only [List.size_toArray]; rw [sizeLine_eq]; omega)
theorem r_tupT {l : Addr} {vs : List Value} (H : At D Fs R s) (hm : TupF l vs ∈ Fs) (h : Q (.ref l) s) : wpAny (model prog w) A (call (.type "tuple") [.ref l]) Q E s :=
  call_tuple_same (H.fact hm) h
theorem r_listL {l : Addr} {vs : List Value} (H : At D Fs R s) (hl : s.heap.PlainList l vs.toArray) (hz : vs.length ≤ 1000000) (h : ∀ l' s', At D Fs (Lst l' vs :: R) s' → Q (.ref l') s') : wpAny (model prog w) A (call (.type "list") [.ref l]) Q E s := by
  obtain ⟨n, hl⟩ := hl
  refine call_list_seq l (.inl rfl) hl rfl rfl (fun h' c' hk hn => h _ _ ?_) (by simp only [List.size_toArray]; rw [sizeLine_eq]; omega)
  exact H.own (r := Lst _ vs) (gens' := s.gens) (tk := s.toks) hk H.gens ⟨_, hn⟩ (nd1 _) fun b hb => by rw [List.mem_singleton.mp hb]; exact Nat.le_refl _
theorem r_listT {l : Addr} {vs : List Value} (H : At D Fs R s) (hm : TupF l vs ∈ Fs) (hz : vs.length ≤ 1000000) (h : ∀ l' s', At D Fs (Lst l' vs :: R) s' → Q (.ref l') s') : wpAny (model prog w) A (call (.type "list") [.ref l]) Q E s := by
  obtain ⟨o, ho, hc, n, hd⟩ := isTuple (H.fact hm)
  refine call_list_seq l (.inr rfl) ho hc hd (fun h' c' hk hn => h _ _ ?_) (by simp only [List.size_toArray]; rw [sizeLine_eq]; omega)
  exact H.own (r := Lst _ vs) (gens' := s.gens) (tk := s.toks) hk H.gens ⟨_, hn⟩ (nd1 _) fun b hb => by rw [List.mem_singleton.mp hb]; exact Nat.le_refl _
theorem r_append {l : Addr} {vs : List Value} (H : At D Fs R s) (hp : Rp (Lst l vs) (Lst l (vs ++ [v])) R R') (hz : vs.length ≤ 1000000) (h : ∀ s', At D Fs R' s' → Q .none s') :
    wpAny (model prog w) A (call (.builtin "list.append") [.ref l, v]) Q E s := by
  have hl := H.res _ hp.mem
  refine wpAny_list_append_plain hl (fun h' hl' hs => h _ (H.upd (gens' := s.gens) (tk := s.toks) hp rfl (fun b o nb e => hs.extBut b o (fun q => nb (List.mem_singleton.mpr q)) e) ?_ H.gens)) (by simp only [List.size_toArray]; rw [sizeLine_eq]; omega)
  have e2 : vs.toArray.push v = (vs ++ [v]).toArray := by simp
  rw [e2] at hl'; exact hl'

/-- for -/
theorem r_for {pair : Bool} {target : Expr} {body : List Stmt} {I : Addr} {n : Nat} {St : Nat → Res} {N : Fact} {V : Nat → Value → Fact → Prop} {Rk : Result → Shared → Prop} (J : Nat → Shared → Prop)
    (hN : Nexts prog w D pair I n St N V) (ht : TgtOk pair target) (hh : A.handled = none) (h0 : J 0 s)
    (step : ∀ i s, i < n → J i s → ∃ Fs R R', At D Fs R s ∧ N ∈ Fs ∧ Rp (St i) (St (i + 1)) R R' ∧ ∀ v F s', V i v F → At D (F :: Fs) R' s' →
      wpAny (model prog w) A (assign target env v) (fun _ s2 => wpAny (model prog w) A (execs body env) (fun f s3 => match f with
        | .next | .cont => Hold (J (i + 1) s3)
        | .brk => Rk (.ok .next) s3
        | .ret v => Rk (.ok (.ret v)) s3) (fun _ _ => False) s2) (fun _ _ => False) s')
    (done : ∀ s, J n s → ∃ Fs R R', At D Fs R s ∧ N ∈ Fs ∧ Rm (St n) R R' ∧ ∀ s', At D Fs R' s' → Rk (.ok .next) s') :
    codeAny (model prog w) A (.forLoop target (.ref I) body [] env) Rk s := by
  refine codeAny_forLoop_any (fun k s => ∃ i, k = n + 1 - i ∧ i ≤ n ∧ J i s) ?_ (n + 1) ⟨0, rfl, Nat.zero_le _, h0⟩
  rintro k s ⟨i, rfl, hi, hJ⟩
  rcases Nat.lt_or_eq_of_le hi with hi | rfl
  · obtain ⟨Fs, R, R', H, hm, hp, go⟩ := step i s hi hJ
    refine wpAny_mono (hN.item (Q := fun v s2 => wpAny (model prog w) A (assign target env v) (fun _ s2 => wpAny (model prog w) A (execs body env) (fun f s3 => match f with
        | .next | .cont => Hold (J (i + 1) s3)
        | .brk => Rk (.ok .next) s3
        | .ret v => Rk (.ok (.ret v)) s3) (fun _ _ => False) s2) (fun _ _ => False) s2) (E := fun _ _ => False) ht hh hi H hm hp go) (fun r s1 h1 => ?_) fun _ _ f => f.elim
    obtain ⟨v, rfl, h1⟩ := h1
    refine wpAny_mono h1 (fun _ s2 h2 => wpAny_mono h2 (fun _ s3 h3 => wpAny_mono h3 (fun f s4 h4 => ?_) fun _ _ f => f.elim) fun _ _ f => f.elim) fun _ _ f => f.elim
    cases f with
    | next => exact ⟨n + 1 - (i + 1), by omega, i + 1, rfl, hi, h4.out⟩
    | cont => exact ⟨n + 1 - (i + 1), by omega, i + 1, rfl, hi, h4.out⟩
    | brk => exact h4
    | ret v => exact h4
  · obtain ⟨Fs, R, R', H, hm, hp, go⟩ := done s hJ
    exact hN.done hh H hm hp fun s' H' => wpAny_execs_nil (go s' H')

/-- while -/
theorem r_while {test : Expr} {body : List Stmt} {Rk : Result → Shared → Prop} (J : Nat → Shared → Prop)
    (turn : ∀ k s, J k s → wpAny (model prog w) A (isTrue test env (eval test env)) (fun b s2 =>
      if b then wpAny (model prog w) A (execs body env) (fun f s3 => match f with
        | .next | .cont => Hold (∃ m, m < k ∧ J m s3)
        | .brk => Rk (.ok .next) s3
        | .ret v => Rk (.ok (.ret v)) s3) (fun _ _ => False) s2
      else Rk (.ok .next) s2) (fun _ _ => False) s) (k : Nat) (h0 : J k s) :
    codeAny (model prog w) A (.whileLoop test body [] env) Rk s := by
  refine codeAny_whileLoop J (fun k s hJ => wpAny_mono (turn k s hJ) (fun b s2 h2 => ?_) fun _ _ f => f.elim) k h0
  cases b with
  | false =>
    simp only [Bool.false_eq_true, if_false] at h2 ⊢
    exact wpAny_execs_nil h2
  | true =>
    simp only [if_true] at h2 ⊢
    exact wpAny_mono h2 (fun f s3 h3 => by cases f <;> first | exact h3.out | exact h3) fun _ _ f => f.elim

/-- the rest of a list comprehension once its first iterator stands -/
def CompK (prog : Program) (w : World) (A : Around) (E : Value → Shared → Prop) (env : Env) (elt target iter : Expr) (ifs : List Expr) (scope : Scope) (pos : Pos) (cl : List (Str × Addr)) (use : Option (Value → Sem Unit)) (Q : Value → Shared → Prop) (it : Value) (s : Shared) : Prop :=
  wpAny (model prog w) A (newList []) (fun acc s₃ => wpAny (model prog w) A (newFunctionEnv scope env.globals cl [] env.qual none .none (some env)) (fun cenv s₄ =>
      codeAny (model prog w) A (.compStart (.ListComp elt [⟨target, iter, ifs, 0⟩] scope pos) 0 it acc { cenv with scope := relabel scope env }) (compPost (model prog w) A E use Q acc cenv.locals) s₄) E s₃) E s

theorem r_ListComp {elt target iter : Expr} {ifs : List Expr} {scope : Scope} {cl : List (Str × Addr)} (hclos : closureFor scope env = pure cl) (hkind : scope.kind = .function)
    (hnames : ∀ y ∈ scope.names, y.2 = .local → scope.names.lookup y.1 = some .local) (hs : ∀ x, foldedSetIterable iter env x = pure x)
    (h : wpAny (model prog w) A (eval iter env) (fun xv s₁ => wpAny (model prog w) A (pyIter xv) (fun it s₂ => CompK prog w A E env elt target iter ifs scope pos cl none Q it s₂) E s₁) E s) :
    wpAny (model prog w) A (eval (.ListComp elt [⟨target, iter, ifs, 0⟩] scope pos) env) Q E s := by
  rw [eval_ListComp]
  exact wpAny_comprehension_free (use := none) rfl hs hclos hkind hnames h
theorem r_AssignListComp {elt target iter : Expr} {ifs : List Expr} {scope : Scope} {cl : List (Str × Addr)} {y : Str} {py spos : Pos} {Q : Flow → Shared → Prop}
    (hsw : swapsWith (.ListComp elt [⟨target, iter, ifs, 0⟩] scope pos) (some (.Name y py)) spos.line env = pure true) (hclos : closureFor scope env = pure cl) (hkind : scope.kind = .function)
    (hnames : ∀ y ∈ scope.names, y.2 = .local → scope.names.lookup y.1 = some .local) (hs : ∀ x, foldedSetIterable iter env x = pure x)
    (h : wpAny (model prog w) A (eval iter env) (fun xv s₁ => wpAny (model prog w) A (pyIter xv) (fun it s₂ => CompK prog w A E env elt target iter ifs scope pos cl (some (assign (.Name y py) env)) (fun _ s' => Q .next s') it s₂) E s₁) E s) :
    wpAny (model prog w) A (exec (.Assign [.Name y py] (.ListComp elt [⟨target, iter, ifs, 0⟩] scope pos) spos) env) Q E s := by
  rw [exec_Assign_Name_used _ _ _ _ hsw]
  refine wpAny_bind (wpAny_standAt (wpAny_bind ?_))
  show wpAny _ A (do let _ ← comprehension (.ListComp elt [⟨target, iter, ifs, 0⟩] scope pos) scope env _ (newList []) false (eval iter env) (some (assign (.Name y py) env))) _ _ s
  exact wpAny_bind (wpAny_mono (wpAny_comprehension_free (use := some (assign (.Name y py) env)) (Q := fun _ s' => Q .next s') rfl hs hclos hkind hnames h) (fun _ s' hq => wpAny_pure (wpAny_pure hq)) fun _ _ e => e)

theorem At.setV {L : Addr} {l : List (Str × Value)} {h' : Heap} (H : At D Fs R s) (hp : Rp (Vars L l) (Vars L []) R R') {m : Str → Option Value} (hn : h'.Ns L m) (hs : Heap.SameBut L s.heap h') : At D Fs R' { s with heap := h' } :=
  H.upd (gens' := s.gens) (tk := s.toks) hp rfl (fun b o nb e => hs.extBut b o (fun q => nb (List.mem_singleton.mpr q)) e) ⟨m, hn, fun _ _ e => by cases e⟩ H.gens

/-- a map over an iterator: G tells what i items gave -/
theorem r_mapK {pair : Bool} {elt target iter : Expr} {ifs : List Expr} {scope : Scope} {cl : List (Str × Addr)} {use : Option (Value → Sem Unit)} {I : Addr} {n : Nat} {St : Nat → Res} {N : Fact} {V : Nat → Value → Fact → Prop}
    (G : Nat → List Value → List Fact → Prop) (hN : Nexts prog w D pair I n St N V) (ht : TgtOk pair target) (hh : A.handled = none) (H : At D Fs (St 0 :: R) s) (hm : N ∈ Fs)
    (hcell : ∀ x ∈ scope.names, x.2 ≠ .cell) (hkind : scope.kind = .function)
    (h0 : G 0 [] []) (hlen : ∀ i ys Gs, G i ys Gs → ys.length ≤ 1000000)
    (step : ∀ C acc i ys Gs v F s, i < n → G i ys Gs → V i v F → At D (F :: (Gs ++ Fs)) (Vars C [] :: Lst acc ys :: St (i + 1) :: R) s →
      wpAny (model prog w) A (assign target (compEnvC scope cl C env) v) (fun _ s2 => wpAny (model prog w) A (forIn ifs true fun c r => if r = true then do let ok ← isTrue c (compEnvC scope cl C env) (eval c (compEnvC scope cl C env)); pure (ForInStep.yield ok) else pure (ForInStep.yield r)) (fun ok s3 =>
        if ok = true then wpAny (model prog w) A (eval elt (compEnvC scope cl C env)) (fun x s4 => Hold (∃ F' l', G (i + 1) (ys ++ [x]) F' ∧ At D (F' ++ Fs) (Vars C l' :: Lst acc ys :: St (i + 1) :: R) s4)) (fun _ _ => False) s3
        else Hold (∃ F' l', G (i + 1) ys F' ∧ At D (F' ++ Fs) (Vars C l' :: Lst acc ys :: St (i + 1) :: R) s3)) (fun _ _ => False) s2) (fun _ _ => False) s)
    (done : ∀ C acc ys Gs s, G n ys Gs → At D (Gs ++ Fs) (Vars C [] :: Lst acc ys :: R) s → (match use with
      | none => ∀ s', At D (Gs ++ Fs) (Lst acc ys :: R) s' → Q (.ref acc) s'
      | some u => wpAny (model prog w) A (u (.ref acc)) (fun _ s1 => Hold (∃ Fs' R' R'' l, At D Fs' R' s1 ∧ Rm (Vars C l) R' R'' ∧ ∀ s2, At D Fs' R'' s2 → Q .none s2)) (fun _ _ => False) s)) :
    CompK prog w A E env elt target iter ifs scope pos cl use Q (.ref I) s := by
  unfold CompK
  refine wpAny_newObj_type ?_
  have H1 : At D Fs (Lst s.heap.objs.size [] :: St 0 :: R) { s with heap := s.heap.push { cls := .type "list", data := .seq ([] : List Value).toArray } } := H.pushL (vs := []) (tk := s.toks)
  generalize s.heap.objs.size = acc at H1
  generalize hs1 : ({ s with heap := s.heap.push { cls := .type "list", data := .seq ([] : List Value).toArray } } : Shared) = s1 at H1 ⊢
  refine wpAny_newFunctionEnv hcell (by intro y hy; simp at hy) (fun h₁ hns₁ hsb₁ => ?_) hkind
  have H2 : At D Fs (Vars s1.heap.objs.size [] :: Lst acc [] :: St 0 :: R) { s1 with heap := h₁, toks := s1.toks + ([] : List (Str × Value)).length } := by
    refine H1.own (r := Vars s1.heap.objs.size []) (gens' := s1.gens) ?_ H1.gens ⟨_, hns₁, fun _ _ e => by cases e⟩ (nd1 _) fun b hb => by rw [List.mem_singleton.mp hb]; exact Nat.le_refl _
    intro b o e
    exact hsb₁.extBut b o (Nat.ne_of_lt (Heap.lt_size e)) (Heap.get?_push_of_some _ e)
  generalize s1.heap.objs.size = C at H2 ⊢
  generalize ({ s1 with heap := h₁, toks := s1.toks + ([] : List (Str × Value)).length } : Shared) = s2 at H2 ⊢
  show codeAny _ _ (.compStart (.ListComp elt [⟨target, iter, ifs, 0⟩] scope pos) 0 (.ref I) (.ref acc) (compEnvC scope cl C env)) (compPost (model prog w) A E use Q (.ref acc) C) s2
  have loop : codeAny (model prog w) A (.compLoop (.ListComp elt [⟨target, iter, ifs, 0⟩] scope pos) 0 (.ref I) (.ref acc) (compEnvC scope cl C env)) (compPost (model prog w) A E use Q (.ref acc) C) s2 := by
    refine codeAny_loop rfl (fun k s => ∃ i ys Gs, k = n + 1 - i ∧ i ≤ n ∧ G i ys Gs ∧ At D (Gs ++ Fs) (Vars C [] :: Lst acc ys :: St i :: R) s) ?_ (n + 1) ⟨0, [], [], rfl, Nat.zero_le _, h0, H2⟩
    rintro k s ⟨i, ys, Gs, rfl, hi, hG, H⟩
    show wpAny _ A ((compTurn (.ListComp elt [⟨target, iter, ifs, 0⟩] scope pos) 0 (.ref I) (.ref acc) (compEnvC scope cl C env)).onRaise (fun x => do noteFrame x (compEnvC scope cl C env); theTreesLotGoes x)) _ _ s
    refine wpAny_noted ?_
    rw [compTurn_list]
    have hmN : N ∈ Gs ++ Fs := List.mem_append_right _ hm
    rcases Nat.lt_or_eq_of_le hi with hi | rfl
    · refine wpAny_bind (wpAny_standAt (wpAny_bind (wpAny_mono (hN.item (Q := fun v s => wpAny (model prog w) A (assign target (compEnvC scope cl C env) v) (fun _ s2 => wpAny (model prog w) A (forIn ifs true fun c r => if r = true then do let ok ← isTrue c (compEnvC scope cl C env) (eval c (compEnvC scope cl C env)); pure (ForInStep.yield ok) else pure (ForInStep.yield r)) (fun ok s3 =>
        if ok = true then wpAny (model prog w) A (eval elt (compEnvC scope cl C env)) (fun x s4 => Hold (∃ F' l', G (i + 1) (ys ++ [x]) F' ∧ At D (F' ++ Fs) (Vars C l' :: Lst acc ys :: St (i + 1) :: R) s4)) (fun _ _ => False) s3
        else Hold (∃ F' l', G (i + 1) ys F' ∧ At D (F' ++ Fs) (Vars C l' :: Lst acc ys :: St (i + 1) :: R) s3)) (fun _ _ => False) s2) (fun _ _ => False) s) (E := fun _ _ => False) ht hh hi H hmN (.tail (.tail .head)) fun v F s' hV H' => step C acc i ys Gs v F s' hi hG hV H') (fun r s1 h1 => ?_) fun _ _ f => f.elim)))
      obtain ⟨v, rfl, h1⟩ := h1
      refine wpAny_bind (wpAny_mono h1 (fun _ s1' h1' => wpAny_bind (wpAny_mono h1' (fun _ s2 h2 => wpAny_bind (wpAny_mono h2 (fun ok s3 h3 => ?_) fun _ _ f => f.elim)) fun _ _ f => f.elim)) fun _ _ f => f.elim)
      cases ok with
      | false =>
        simp only [Bool.false_eq_true, if_false] at h3
        obtain ⟨F', l', hG', H'⟩ := h3.out
        exact wpAny_pure ⟨rfl, _, by omega, i + 1, ys, F', rfl, hi, hG', H'.to (.cons (.vars .nil) .head (Sub.refl _))⟩
      | true =>
        simp only [if_true] at h3 ⊢
        refine wpAny_bind (wpAny_bind (wpAny_mono h3 (fun x s4 h4 => ?_) fun _ _ f => f.elim))
        obtain ⟨F', l', hG', H'⟩ := h4.out
        have hl := hlen _ _ _ hG'
        refine wpAny_bind (r_append H' (.tail .head) (by simp at hl; omega) fun s5 H5 => wpAny_pure (wpAny_pure ⟨rfl, _, by omega, i + 1, _, F', rfl, hi, hG', H5.to (.cons (.vars .nil) .head (Sub.refl _))⟩))
    · refine wpAny_bind (wpAny_standAt (wpAny_bind (hN.done hh H hmN (.tail (.tail .head)) fun s' H' => wpAny_pure ?_)))
      have dn := done C acc ys Gs s' hG H'
      cases use with
      | none =>
        obtain ⟨m, hns, _⟩ := H'.res _ (.head _)
        refine ⟨m, hns, fun h' hs' => dn _ (H'.updDrop (gens' := s'.gens) (tk := s'.toks) .head (fun b o nb e => hs'.extBut b o (fun q => nb (List.mem_singleton.mpr q)) e) H'.gens)⟩
      | some u =>
        refine wpAny_mono dn (fun _ s1 h1 => ?_) fun _ _ f => f.elim
        obtain ⟨Fs', R', R'', l, H1, hrm, k⟩ := h1.out
        obtain ⟨m, hns, _⟩ := H1.res _ (hrm.perm.mem_iff.mpr (.head _))
        exact ⟨m, hns, fun h' hs' => k _ (H1.updDrop (gens' := s1.gens) (tk := s1.toks) hrm (fun b o nb e => hs'.extBut b o (fun q => nb (List.mem_singleton.mpr q)) e) H1.gens)⟩
  exact codeAny_compStart_list loop (hN.self hh H2 hm (.tail _ (.tail _ (.head _))) loop)
end
end Mine

namespace Mine

def FQh (C x : Addr) (p n : Int) (h : Heap) : Prop := ∃ m, Inst h x C m ∧ (∃ t, m "n" = some (.int n t)) ∧ (∃ t, m "field_modulus" = some (.int p t)) ∧ ∀ z : Str, z ≠ "n" → z ≠ "field_modulus" → m z = none
theorem Inst.ext {h h' : Heap} {x C : Addr} {m : Str → Option Value} (k : Ext h h') : Inst h x C m → Inst h' x C m := fun ⟨dx, a, b⟩ => ⟨dx, k _ _ a, b.keeps k⟩
theorem FQh.ext {h h' : Heap} {x C : Addr} {p n : Int} (k : Ext h h') : FQh C x p n h → FQh C x p n h' := fun ⟨m, a, b⟩ => ⟨m, a.ext k, b⟩
def FQF (C x : Addr) (p n : Int) : Fact := ⟨FQh C x p n, FQh.ext⟩

/-- the values are field elements -/
inductive FQs (C : Addr) (p : Int) (h : Heap) : List Value → List Int → Prop
  | nil : FQs C p h [] []
  | cons {a n vs ns} : FQh C a p n h → FQs C p h vs ns → FQs C p h (.ref a :: vs) (n :: ns)
theorem FQs.ext {C : Addr} {p : Int} {h h' : Heap} (k : Ext h h') {vs : List Value} {ns : List Int} (x : FQs C p h vs ns) : FQs C p h' vs ns := by
  induction x with
  | nil => exact .nil
  | cons a _ ih => exact .cons (a.ext k) ih
theorem FQs.length {C : Addr} {p : Int} {h : Heap} {vs : List Value} {ns : List Int} (x : FQs C p h vs ns) : vs.length = ns.length := by
  induction x with
  | nil => rfl
  | cons _ _ ih => simp [ih]
theorem FQs.at {C : Addr} {p : Int} {h : Heap} {vs : List Value} {ns : List Int} (x : FQs C p h vs ns) : ∀ (i : Nat) (v : Value), vs[i]? = some v → ∃ a n, v = .ref a ∧ ns[i]? = some n ∧ FQh C a p n h := by
  induction x with
  | nil => intro i v e; simp at e
  | @cons a n vs ns q _ ih =>
    intro i v e
    cases i with
    | zero => simp at e; subst e; exact ⟨a, n, rfl, rfl, q⟩
    | succ i => simpa using ih i v (by simpa using e)
theorem FQs.append {C : Addr} {p : Int} {h : Heap} {vs ws : List Value} {ns ms : List Int} (x : FQs C p h vs ns) (y : FQs C p h ws ms) : FQs C p h (vs ++ ws) (ns ++ ms) := by
  induction x with
  | nil => exact y
  | cons a _ ih => exact .cons a ih
theorem FQs.set {C : Addr} {p : Int} {h : Heap} {vs : List Value} {ns : List Int} (x : FQs C p h vs ns) (k : Nat) {a : Addr} {n : Int} (q : FQh C a p n h) : FQs C p h (vs.set k (.ref a)) (ns.set k n) := by
  induction x generalizing k with
  | nil => exact .nil
  | cons b r ih => cases k with
    | zero => exact .cons q r
    | succ k => exact .cons b (ih k)
theorem FQs.take {C : Addr} {p : Int} {h : Heap} {vs : List Value} {ns : List Int} (x : FQs C p h vs ns) (k : Nat) : FQs C p h (vs.take k) (ns.take k) := by
  induction x generalizing k with
  | nil => simp; exact .nil
  | cons b r ih => cases k with
    | zero => exact .nil
    | succ k => exact .cons b (ih k)
def FQsF (C : Addr) (p : Int) (vs : List Value) (ns : List Int) : Fact := ⟨fun h => FQs C p h vs ns, fun k x => FQs.ext k x⟩

/-- pairs (i, c) of ints, as tuples -/
inductive Prs (h : Heap) : List Value → List (Int × Int) → Prop
  | nil : Prs h [] []
  | cons {T a b t1 t2 vs ps} : h.IsTuple T #[.int a t1, .int b t2] → Prs h vs ps → Prs h (.ref T :: vs) ((a, b) :: ps)
theorem IsTuple.ext {h h' : Heap} {a : Addr} {items : Array Value} (k : Ext h h') : h.IsTuple a items → h'.IsTuple a items := fun ⟨o, e, r⟩ => ⟨o, k _ _ e, r⟩
theorem Prs.ext {h h' : Heap} (k : Ext h h') {vs : List Value} {ps : List (Int × Int)} (x : Prs h vs ps) : Prs h' vs ps := by
  induction x with
  | nil => exact .nil
  | cons a _ ih => exact .cons (IsTuple.ext k a) ih
theorem Prs.length {h : Heap} {vs : List Value} {ps : List (Int × Int)} (x : Prs h vs ps) : vs.length = ps.length := by
  induction x with
  | nil => rfl
  | cons _ _ ih => simp [ih]
theorem Prs.at {h : Heap} {vs : List Value} {ps : List (Int × Int)} (x : Prs h vs ps) : ∀ (i : Nat) (v : Value), vs[i]? = some v → ∃ T a b t1 t2, v = .ref T ∧ ps[i]? = some (a, b) ∧ h.IsTuple T #[.int a t1, .int b t2] := by
  induction x with
  | nil => intro i v e; simp at e
  | @cons T a b t1 t2 vs ps q _ ih =>
    intro i v e
    cases i with
    | zero => simp at e; subst e; exact ⟨T, a, b, t1, t2, rfl, rfl, q⟩
    | succ i => simpa using ih i v (by simpa using e)
theorem Prs.append {h : Heap} {vs ws : List Value} {ps qs : List (Int × Int)} (x : Prs h vs ps) (y : Prs h ws qs) : Prs h (vs ++ ws) (ps ++ qs) := by
  induction x with
  | nil => exact y
  | cons a _ ih => exact .cons a ih
def PrsF (vs : List Value) (ps : List (Int × Int)) : Fact := ⟨fun h => Prs h vs ps, fun k x => Prs.ext k x⟩

/-- an element of the optimized form -/
def mcFrom : Int → List Int → List (Int × Int)
  | _, [] => []
  | i, c :: r => if c ≠ 0 then (i, c) :: mcFrom (i + 1) r else mcFrom (i + 1) r
def Opth (C x : Addr) (p : Int) (ns ms : List Int) (h : Heap) : Prop := ∃ m, Inst h x C m ∧ (∃ t, m "field_modulus" = some (.int p t)) ∧ (∃ tC vs, m "coeffs" = some (.ref tC) ∧ h.IsTuple tC vs.toArray ∧ IntsAre vs ns) ∧
  (∃ tM us, m "modulus_coeffs" = some (.ref tM) ∧ h.IsTuple tM us.toArray ∧ IntsAre us ms) ∧ (∃ t, m "degree" = some (.int ms.length t)) ∧ (∃ l ws, m "mc_tuples" = some (.ref l) ∧ h.PlainList l ws.toArray ∧ Prs h ws (mcFrom 0 ms)) ∧
  ∀ z : Str, z ≠ "field_modulus" → z ≠ "coeffs" → z ≠ "modulus_coeffs" → z ≠ "degree" → z ≠ "mc_tuples" → m z = none
theorem Opth.ext {h h' : Heap} {x C : Addr} {p : Int} {ns ms : List Int} (k : Ext h h') : Opth C x p ns ms h → Opth C x p ns ms h' :=
  fun ⟨m, a, b, ⟨tC, vs, c1, c2, c3⟩, ⟨tM, us, d1, d2, d3⟩, e, ⟨l, ws, f1, f2, f3⟩, g⟩ => ⟨m, a.ext k, b, ⟨tC, vs, c1, IsTuple.ext k c2, c3⟩, ⟨tM, us, d1, IsTuple.ext k d2, d3⟩, e, ⟨l, ws, f1, f2.at fun o q => k _ _ q, f3.ext k⟩, g⟩
def OptF (C x : Addr) (p : Int) (ns ms : List Int) : Fact := ⟨Opth C x p ns ms, Opth.ext⟩
/-- an element of the plain form -/
def Plnh (CQ C x : Addr) (p : Int) (ns ms : List Int) (h : Heap) : Prop := ∃ m, Inst h x C m ∧ (∃ t, m "field_modulus" = some (.int p t)) ∧ (∃ tC vs, m "coeffs" = some (.ref tC) ∧ h.IsTuple tC vs.toArray ∧ FQs CQ p h vs ns) ∧
  (∃ tM us, m "modulus_coeffs" = some (.ref tM) ∧ h.IsTuple tM us.toArray ∧ IntsAre us ms) ∧ (∃ t, m "degree" = some (.int ms.length t)) ∧
  ∀ z : Str, z ≠ "field_modulus" → z ≠ "coeffs" → z ≠ "modulus_coeffs" → z ≠ "degree" → m z = none
theorem Plnh.ext {h h' : Heap} {CQ x C : Addr} {p : Int} {ns ms : List Int} (k : Ext h h') : Plnh CQ C x p ns ms h → Plnh CQ C x p ns ms h' :=
  fun ⟨m, a, b, ⟨tC, vs, c1, c2, c3⟩, ⟨tM, us, d1, d2, d3⟩, e, g⟩ => ⟨m, a.ext k, b, ⟨tC, vs, c1, IsTuple.ext k c2, c3.ext k⟩, ⟨tM, us, d1, IsTuple.ext k d2, d3⟩, e, g⟩
def PlnF (CQ C x : Addr) (p : Int) (ns ms : List Int) : Fact := ⟨Plnh CQ C x p ns ms, Plnh.ext⟩

section
variable {prog : Program} {w : World} {M : Model} {A : Around} {E : Value → Shared → Prop} {D : Dat} {Fs : List Fact} {R R' : List Res} {s : Shared} {env : Env} {K : Frag} {n : Nat}
variable {y C CQ : Addr} {name : Str} {expr : Bool} {attr : Option Value} {p k : Int} {ns ms : List Int} {Q : Value → Shared → Prop}

/-- any object fact holds an own object -/
theorem At.open1 {ι : Sort _} {F : Fact} {G : ι → Fact} (H : At D Fs R s) (hm : F ∈ Fs) (h : ∀ h, F.holds h → ∃ x, (G x).holds h) : ∃ x, At D (G x :: Fs) R s := H.openF hm h
theorem At.add2 {F G : Fact} (H : At D (F :: Fs) R s) (h : ∀ h, F.holds h → G.holds h) : At D (G :: Fs) R s := ((H.learn (.head _) h)).sub fun X hX => by
  rcases List.mem_cons.mp hX with rfl | hX
  · exact .head _
  · exact .tail _ (.tail _ hX)

section
variable (W : Wd K D) (H : At D Fs R s) (hg : plainGet K C name = true) (hh : hasDictIn K C = true) (ha : findIn K (.ref C) name = some attr) (hn : noGet K attr = true)
include W H hg hh ha hn
theorem r_fqn (hm : FQF C y p k ∈ Fs) (e : name = "n") (h : ∀ t s', At D Fs R s' → Q (.int k t) s') : wpAny (model prog w) A (getAttr (.ref y) name expr) Q E s := by
  obtain ⟨m, I, ⟨t, e1⟩, _⟩ := H.fact hm
  obtain ⟨ox, od, I, hlk⟩ := I.at
  exact get_value (At.kin W H) I (plainGet_of hg).1 (findObj_own hh ha hn ((hlk name).trans (by rw [e, e1]))) rfl (h _ _ (H.toks _))
theorem r_fqp (hm : FQF C y p k ∈ Fs) (e : name = "field_modulus") (h : ∀ t s', At D Fs R s' → Q (.int p t) s') : wpAny (model prog w) A (getAttr (.ref y) name expr) Q E s := by
  obtain ⟨m, I, _, ⟨t, e1⟩, _⟩ := H.fact hm
  obtain ⟨ox, od, I, hlk⟩ := I.at
  exact get_value (At.kin W H) I (plainGet_of hg).1 (findObj_own hh ha hn ((hlk name).trans (by rw [e, e1]))) rfl (h _ _ (H.toks _))
theorem r_op (hm : OptF C y p ns ms ∈ Fs) (e : name = "field_modulus") (h : ∀ t s', At D Fs R s' → Q (.int p t) s') : wpAny (model prog w) A (getAttr (.ref y) name expr) Q E s := by
  obtain ⟨m, I, ⟨t, e1⟩, _⟩ := H.fact hm
  obtain ⟨ox, od, I, hlk⟩ := I.at
  exact get_value (At.kin W H) I (plainGet_of hg).1 (findObj_own hh ha hn ((hlk name).trans (by rw [e, e1]))) rfl (h _ _ (H.toks _))
theorem r_od (hm : OptF C y p ns ms ∈ Fs) (e : name = "degree") (h : ∀ t s', At D Fs R s' → Q (.int ms.length t) s') : wpAny (model prog w) A (getAttr (.ref y) name expr) Q E s := by
  obtain ⟨m, I, _, _, _, ⟨t, e1⟩, _⟩ := H.fact hm
  obtain ⟨ox, od, I, hlk⟩ := I.at
  exact get_value (At.kin W H) I (plainGet_of hg).1 (findObj_own hh ha hn ((hlk name).trans (by rw [e, e1]))) rfl (h _ _ (H.toks _))
theorem r_oc (hm : OptF C y p ns ms ∈ Fs) (e : name = "coeffs") (h : ∀ tC vs s', IntsAre vs ns → At D (TupF tC vs :: Fs) R s' → Q (.ref tC) s') : wpAny (model prog w) A (getAttr (.ref y) name expr) Q E s := by
  obtain ⟨⟨m, tC, vs⟩, H1⟩ := H.openF (ι := (Str → Option Value) × Addr × List Value) (G := fun x => ⟨fun h => Inst h y C x.1 ∧ x.1 "coeffs" = some (.ref x.2.1) ∧ h.IsTuple x.2.1 x.2.2.toArray ∧ IntsAre x.2.2 ns, fun k ⟨a, b, c, d⟩ => ⟨a.ext k, b, IsTuple.ext k c, d⟩⟩) hm
    fun h ⟨m, I, _, ⟨tC, vs, c1, c2, c3⟩, _⟩ => ⟨(m, tC, vs), I, c1, c2, c3⟩
  obtain ⟨I, e1, _, i⟩ := H1.fact (.head _)
  obtain ⟨ox, od, I, hlk⟩ := I.at
  exact get_value (At.kin W H) I (plainGet_of hg).1 (findObj_own hh ha hn ((hlk name).trans (by rw [e]; exact congrArg some e1))) rfl (h _ _ _ i ((H1.add2 fun _ x => x.2.2.1).toks _))
theorem r_om (hm : OptF C y p ns ms ∈ Fs) (e : name = "modulus_coeffs") (h : ∀ tC vs s', IntsAre vs ms → At D (TupF tC vs :: Fs) R s' → Q (.ref tC) s') : wpAny (model prog w) A (getAttr (.ref y) name expr) Q E s := by
  obtain ⟨⟨m, tC, vs⟩, H1⟩ := H.openF (ι := (Str → Option Value) × Addr × List Value) (G := fun x => ⟨fun h => Inst h y C x.1 ∧ x.1 "modulus_coeffs" = some (.ref x.2.1) ∧ h.IsTuple x.2.1 x.2.2.toArray ∧ IntsAre x.2.2 ms, fun k ⟨a, b, c, d⟩ => ⟨a.ext k, b, IsTuple.ext k c, d⟩⟩) hm
    fun h ⟨m, I, _, _, ⟨tC, vs, c1, c2, c3⟩, _⟩ => ⟨(m, tC, vs), I, c1, c2, c3⟩
  obtain ⟨I, e1, _, i⟩ := H1.fact (.head _)
  obtain ⟨ox, od, I, hlk⟩ := I.at
  exact get_value (At.kin W H) I (plainGet_of hg).1 (findObj_own hh ha hn ((hlk name).trans (by rw [e]; exact congrArg some e1))) rfl (h _ _ _ i ((H1.add2 fun _ x => x.2.2.1).toks _))
theorem r_ot (hm : OptF C y p ns ms ∈ Fs) (e : name = "mc_tuples") (h : ∀ l ws s', At D (ListF l ws :: PrsF ws (mcFrom 0 ms) :: Fs) R s' → Q (.ref l) s') : wpAny (model prog w) A (getAttr (.ref y) name expr) Q E s := by
  obtain ⟨⟨m, l, ws⟩, H1⟩ := H.openF (ι := (Str → Option Value) × Addr × List Value) (G := fun x => ⟨fun h => Inst h y C x.1 ∧ x.1 "mc_tuples" = some (.ref x.2.1) ∧ h.PlainList x.2.1 x.2.2.toArray ∧ Prs h x.2.2 (mcFrom 0 ms), fun k ⟨a, b, c, d⟩ => ⟨a.ext k, b, c.at fun o q => k _ _ q, d.ext k⟩⟩) hm
    fun h ⟨m, I, _, _, _, _, ⟨l, ws, c1, c2, c3⟩, _⟩ => ⟨(m, l, ws), I, c1, c2, c3⟩
  obtain ⟨I, e1, _, i⟩ := H1.fact (.head _)
  obtain ⟨ox, od, I, hlk⟩ := I.at
  have H2 : At D (ListF l ws :: PrsF ws (mcFrom 0 ms) :: Fs) R s := ⟨H1.os, H1.gens, H1.tab, H1.cs, H1.nodup, H1.res, H1.base, fun F hF => by
    have q := H1.facts _ (.head _)
    rcases List.mem_cons.mp hF with rfl | hF
    · exact q.2.2.1
    · rcases List.mem_cons.mp hF with rfl | hF
      · exact q.2.2.2
      · exact H1.facts F (.tail _ hF)⟩
  exact get_value (At.kin W H) I (plainGet_of hg).1 (findObj_own hh ha hn ((hlk name).trans (by rw [e]; exact congrArg some e1))) rfl (h _ _ _ (H2.toks _))
theorem r_pp (hm : PlnF CQ C y p ns ms ∈ Fs) (e : name = "field_modulus") (h : ∀ t s', At D Fs R s' → Q (.int p t) s') : wpAny (model prog w) A (getAttr (.ref y) name expr) Q E s := by
  obtain ⟨m, I, ⟨t, e1⟩, _⟩ := H.fact hm
  obtain ⟨ox, od, I, hlk⟩ := I.at
  exact get_value (At.kin W H) I (plainGet_of hg).1 (findObj_own hh ha hn ((hlk name).trans (by rw [e, e1]))) rfl (h _ _ (H.toks _))
theorem r_pd (hm : PlnF CQ C y p ns ms ∈ Fs) (e : name = "degree") (h : ∀ t s', At D Fs R s' → Q (.int ms.length t) s') : wpAny (model prog w) A (getAttr (.ref y) name expr) Q E s := by
  obtain ⟨m, I, _, _, _, ⟨t, e1⟩, _⟩ := H.fact hm
  obtain ⟨ox, od, I, hlk⟩ := I.at
  exact get_value (At.kin W H) I (plainGet_of hg).1 (findObj_own hh ha hn ((hlk name).trans (by rw [e, e1]))) rfl (h _ _ (H.toks _))
theorem r_pc (hm : PlnF CQ C y p ns ms ∈ Fs) (e : name = "coeffs") (h : ∀ tC vs s', vs.length = ns.length → At D (TupF tC vs :: FQsF CQ p vs ns :: Fs) R s' → Q (.ref tC) s') : wpAny (model prog w) A (getAttr (.ref y) name expr) Q E s := by
  obtain ⟨⟨m, l, ws⟩, H1⟩ := H.openF (ι := (Str → Option Value) × Addr × List Value) (G := fun x => ⟨fun h => Inst h y C x.1 ∧ x.1 "coeffs" = some (.ref x.2.1) ∧ h.IsTuple x.2.1 x.2.2.toArray ∧ FQs CQ p h x.2.2 ns, fun k ⟨a, b, c, d⟩ => ⟨a.ext k, b, IsTuple.ext k c, d.ext k⟩⟩) hm
    fun h ⟨m, I, _, ⟨l, ws, c1, c2, c3⟩, _⟩ => ⟨(m, l, ws), I, c1, c2, c3⟩
  obtain ⟨I, e1, _, i⟩ := H1.fact (.head _)
  obtain ⟨ox, od, I, hlk⟩ := I.at
  have H2 : At D (TupF l ws :: FQsF CQ p ws ns :: Fs) R s := ⟨H1.os, H1.gens, H1.tab, H1.cs, H1.nodup, H1.res, H1.base, fun F hF => by
    have q := H1.facts _ (.head _)
    rcases List.mem_cons.mp hF with rfl | hF
    · exact q.2.2.1
    · rcases List.mem_cons.mp hF with rfl | hF
      · exact q.2.2.2
      · exact H1.facts F (.tail _ hF)⟩
  exact get_value (At.kin W H) I (plainGet_of hg).1 (findObj_own hh ha hn ((hlk name).trans (by rw [e]; exact congrArg some e1))) rfl (h _ _ _ i.length (H2.toks _))
theorem r_pm (hm : PlnF CQ C y p ns ms ∈ Fs) (e : name = "modulus_coeffs") (h : ∀ tC vs s', IntsAre vs ms → At D (TupF tC vs :: Fs) R s' → Q (.ref tC) s') : wpAny (model prog w) A (getAttr (.ref y) name expr) Q E s := by
  obtain ⟨⟨m, tC, vs⟩, H1⟩ := H.openF (ι := (Str → Option Value) × Addr × List Value) (G := fun x => ⟨fun h => Inst h y C x.1 ∧ x.1 "modulus_coeffs" = some (.ref x.2.1) ∧ h.IsTuple x.2.1 x.2.2.toArray ∧ IntsAre x.2.2 ms, fun k ⟨a, b, c, d⟩ => ⟨a.ext k, b, IsTuple.ext k c, d⟩⟩) hm
    fun h ⟨m, I, _, _, ⟨tC, vs, c1, c2, c3⟩, _⟩ => ⟨(m, tC, vs), I, c1, c2, c3⟩
  obtain ⟨I, e1, _, i⟩ := H1.fact (.head _)
  obtain ⟨ox, od, I, hlk⟩ := I.at
  exact get_value (At.kin W H) I (plainGet_of hg).1 (findObj_own hh ha hn ((hlk name).trans (by rw [e]; exact congrArg some e1))) rfl (h _ _ _ i ((H1.add2 fun _ x => x.2.2.1).toks _))
end

theorem At.fzD {dx x : Addr} {m : Str → Option Value} {nm : List Str} (H : At D Fs R s) (hx : Cell x (instObj C dx) ∈ Fs) (hr : Rm (DRes dx m nm) R R') : At D (InstF x C m :: Fs) R' s := by
  have H1 := H.fz hr
  refine ⟨H1.os, H1.gens, H1.tab, H1.cs, H1.nodup, H1.res, H1.base, fun F hF => ?_⟩
  rcases List.mem_cons.mp hF with rfl | hF
  · exact ⟨dx, H1.facts _ (.tail _ hx), (H1.facts _ (.head _) : Heap.Ns1 _ dx m ∧ _).1.ns⟩
  · exact H1.facts F (.tail _ hF)
theorem At.mkFQ {dx x : Addr} {m : Str → Option Value} {nm : List Str} (H : At D Fs R s) (hx : Cell x (instObj C dx) ∈ Fs) (hr : Rm (DRes dx m nm) R R')
    (h1 : ∃ t, m "n" = some (.int k t)) (h2 : ∃ t, m "field_modulus" = some (.int p t)) (h3 : ∀ z : Str, z ≠ "n" → z ≠ "field_modulus" → m z = none) : At D (FQF C x p k :: Fs) R' s :=
  (H.fzD hx hr).add2 fun _ I => ⟨m, I, h1, h2, h3⟩
theorem ty_weight {C : Addr} {rest : List Value} : (Code.builtin "type.__call__" ⟨.ref C :: rest, []⟩).weight = 1 := by first | rfl | kernel_rfl | decide
theorem ty_units {C : Addr} {rest : List Value} : (Code.builtin "type.__call__" ⟨.ref C :: rest, []⟩).cUnits = 1 := by first | rfl | kernel_rfl
theorem Ok.ty {A : Around} {n : Nat} {C : Addr} {rest : List Value} (h : Ok A (n + 1)) : Ok (A.under (.builtin "type.__call__" ⟨.ref C :: rest, []⟩)) n := by
  have h1 := h.depth
  have h2 := h.units
  refine ⟨h.handled, ?_, ?_⟩
  · show A.depth + Code.weight _ + n ≤ 900
    rw [ty_weight]; omega
  · show A.units + Code.cUnits _ + 16 * n ≤ 4000
    rw [ty_units]; omega
theorem At.inst1 (H : At D Fs R s) (hm : FQF C y p k ∈ Fs) : ∃ m, Inst s.heap y C m ∧ ∀ z : Str, z ≠ "n" → z ≠ "field_modulus" → m z = none := let ⟨m, I, _, _, a⟩ := H.fact hm; ⟨m, I, a⟩
theorem At.inst2 (H : At D Fs R s) (hm : OptF C y p ns ms ∈ Fs) : ∃ m, Inst s.heap y C m ∧ ∀ z : Str, z ≠ "field_modulus" → z ≠ "coeffs" → z ≠ "modulus_coeffs" → z ≠ "degree" → z ≠ "mc_tuples" → m z = none := let ⟨m, I, _, _, _, _, _, a⟩ := H.fact hm; ⟨m, I, a⟩
theorem At.inst3 (H : At D Fs R s) (hm : PlnF CQ C y p ns ms ∈ Fs) : ∃ m, Inst s.heap y C m ∧ ∀ z : Str, z ≠ "field_modulus" → z ≠ "coeffs" → z ≠ "modulus_coeffs" → z ≠ "degree" → m z = none := let ⟨m, I, _, _, _, _, a⟩ := H.fact hm; ⟨m, I, a⟩
/-- what the fact says at least: an own object of C -/
inductive IsObj : Addr → Addr → Fact → Prop
  | fq {C y : Addr} {p k : Int} : IsObj C y (FQF C y p k)
  | opt {C y : Addr} {p : Int} {ns ms : List Int} : IsObj C y (OptF C y p ns ms)
  | pln {CQ C y : Addr} {p : Int} {ns ms : List Int} : IsObj C y (PlnF CQ C y p ns ms)
theorem IsObj.inst {F : Fact} (o : IsObj C y F) (H : At D Fs R s) (hm : F ∈ Fs) : ∃ m, Inst s.heap y C m ∧ ∀ z : Str, z ≠ "n" → z ≠ "field_modulus" → z ≠ "coeffs" → z ≠ "modulus_coeffs" → z ≠ "degree" → z ≠ "mc_tuples" → m z = none := by
  cases o with
  | fq => obtain ⟨m, I, a⟩ := H.inst1 hm; exact ⟨m, I, fun z h1 h2 _ _ _ _ => a z h1 h2⟩
  | opt => obtain ⟨m, I, a⟩ := H.inst2 hm; exact ⟨m, I, fun z _ h2 h3 h4 h5 h6 => a z h2 h3 h4 h5 h6⟩
  | pln => obtain ⟨m, I, a⟩ := H.inst3 hm; exact ⟨m, I, fun z _ h2 h3 h4 h5 _ => a z h2 h3 h4 h5⟩
def plainName (z : Str) : Bool := z != "n" && z != "field_modulus" && z != "coeffs" && z != "modulus_coeffs" && z != "degree" && z != "mc_tuples"
theorem plainName_of {z : Str} {m : Str → Option Value} (h : plainName z = true) (a : z ≠ "n" → z ≠ "field_modulus" → z ≠ "coeffs" → z ≠ "modulus_coeffs" → z ≠ "degree" → z ≠ "mc_tuples" → m z = none) : m z = none := by
  simp only [plainName, Bool.and_eq_true, bne_iff_ne] at h
  obtain ⟨⟨⟨⟨⟨h1, h2⟩, h3⟩, h4⟩, h5⟩, h6⟩ := h
  exact a h1 h2 h3 h4 h5 h6
theorem o_meth {F : Fact} {pl : Sem Bool} {f : Addr} {Q : Value × List Value → Shared → Prop} (W : Wd K D) (H : At D Fs R s) (hm : F ∈ Fs) (ho : IsObj C y F) (hg : plainGet K C name = true) (hf : findIn K (.ref C) name = some (some (.ref f))) (ht : isFn K (.ref f) = true)
    (hl : plainName name = true) (h : Q (.ref f, [.ref y]) s) : wpAny (model prog w) A (getMethod (.ref y) name pl) Q E s := by
  obtain ⟨m, I, a⟩ := ho.inst H hm
  obtain ⟨ox, od, I, hlk⟩ := I.at
  exact method_fn (At.kin W H) I (plainGet_of hg).1 (plainGet_of hg).2 hf (beq_iff_eq.mp ht) (by show (lookIn name od).map _ = _; rw [hlk, plainName_of hl (a name)]; rfl) h
theorem o_isi {F : Fact} {c : Value} {r : Bool} (W : Wd K D) (H : At D Fs R s) (hm : F ∈ Fs) (hob : IsObj C y F) (e : kitOne K (.ref C) c = some r) (hg : plainGet K C "__class__" = true) (hdct : hasDictIn K C = true) (ha : findIn K (.ref C) "__class__" = some (some (.builtin "object.__class__")))
    (hn : specialIn K (.builtin "object.__class__") "__get__" = some (some (.builtin "getset_descriptor.__get__"))) (htk : takesIn K (.builtin "object.__class__") = some true) (hmr : mroIn K C (.type "object") = some true)
    (h : ∀ s', At D Fs R s' → Q (.bool r) s') : wpAny (model prog w) A (call (.builtin "isinstance") [.ref y, c]) Q E s := by
  obtain ⟨m, I, a⟩ := hob.inst H hm
  obtain ⟨ox, od, I, hlk⟩ := I.at
  exact kia_one (kitx_own (ox := ox) hg hdct ha hn htk hmr) (At.kin W H) I e (by intro q; cases q) fun _ => h _ (H.toks _)
theorem o_isiT {F : Fact} {tp : Addr} {its : List Value} {r : Bool} {nn : Nat} (W : Wd K D) (H : At D Fs R s) (hm : F ∈ Fs) (hob : IsObj C y F) (ht : Cell tp ⟨.type "tuple", none, .seq its.toArray nn, #[]⟩ ∈ Fs) (e : kitAny K (.ref C) its = some r) (hg : plainGet K C "__class__" = true) (hdct : hasDictIn K C = true) (ha : findIn K (.ref C) "__class__" = some (some (.builtin "object.__class__")))
    (hn : specialIn K (.builtin "object.__class__") "__get__" = some (some (.builtin "getset_descriptor.__get__"))) (htk : takesIn K (.builtin "object.__class__") = some true) (hmr : mroIn K C (.type "object") = some true)
    (h : ∀ s', At D Fs R s' → Q (.bool r) s') : wpAny (model prog w) A (call (.builtin "isinstance") [.ref y, .ref tp]) Q E s := by
  obtain ⟨m, I, a⟩ := hob.inst H hm
  obtain ⟨ox, od, I, hlk⟩ := I.at
  exact kia_tup (kitx_own (ox := ox) hg hdct ha hn htk hmr) (At.kin W H) I (H.fact ht) e (by intro q; cases q) fun _ => h _ (H.toks _)
end
end Mine

set_option maxRecDepth 100000
set_option maxHeartbeats 1000000
namespace Mine
section
variable {prog : Program} {w : World} {M : Model} {A : Around} {E : Value → Shared → Prop} {D : Dat} {Fs : List Fact} {R R' : List Res} {s : Shared} {env : Env} {K : Frag} {n : Nat}
variable {y C : Addr} {name : Str} {nm : String} {Q : Value → Shared → Prop} {a b ta tb : Value}

/-- the left operand's own method answers; both operands of one type -/
theorem bin1_same {Q : Option Value → Shared → Prop} (la : Looks (model prog w) s.heap (typeOf a) ta) (lb : Looks (model prog w) s.heap (typeOf b) ta) (lf : Looks (model prog w) s.heap (fillsNumberSlot ta nm) true)
    (one : wpAny (model prog w) A (tryMethod a (PySem.dunder nm) b) (fun r s' => ∃ v, r = some v ∧ Q (some v) s') E s) : wpAny (model prog w) A (binaryOp1 nm a b) Q E s := by
  obtain ⟨hh, g, d, tt, os⟩ := s
  replace la : Looks (model prog w) hh (typeOf a) ta := la
  replace lb : Looks (model prog w) hh (typeOf b) ta := lb
  replace lf : Looks (model prog w) hh (fillsNumberSlot ta nm) true := lf
  unfold binaryOp1
  refine wpAny_bind (la.at (wpAny_bind (lb.at (wpAny_bind (lf.at ?_)))))
  simp only [beq_self_eq_true, if_true]
  ksp_lk
  refine wpAny_mono one (fun r s' hr' => ?_) fun _ _ e => e
  obtain ⟨v, rfl, hq⟩ := hr'
  ksp_lk
  exact hq
/-- the left operand's own method answers; operands of two types -/
theorem bin1_left {Q : Option Value → Shared → Prop} {right lp rp : Bool} {ro : Option Value} (la : Looks (model prog w) s.heap (typeOf a) ta) (lb : Looks (model prog w) s.heap (typeOf b) tb) (hne : (ta == tb) = false) (lf : Looks (model prog w) s.heap (fillsNumberSlot ta nm) true)
    (rf : Looks (model prog w) s.heap (fillsNumberSlot tb nm) right) (ls : Looks (model prog w) s.heap (isSubtype tb ta) false) (l1 : Looks (model prog w) s.heap (numberSlotInPython ta nm) lp) (l2 : Looks (model prog w) s.heap (numberSlotInPython tb nm) rp)
    (l3 : Looks (model prog w) s.heap (typeLookup tb (dunderR nm)) ro)
    (one : wpAny (model prog w) A (tryMethod a (PySem.dunder nm) b) (fun r s' => ∃ v, r = some v ∧ Q (some v) s') E s) : wpAny (model prog w) A (binaryOp1 nm a b) Q E s := by
  obtain ⟨hh, g, d, tt, os⟩ := s
  replace la : Looks (model prog w) hh (typeOf a) ta := la
  replace lb : Looks (model prog w) hh (typeOf b) tb := lb
  replace lf : Looks (model prog w) hh (fillsNumberSlot ta nm) true := lf
  replace rf : Looks (model prog w) hh (fillsNumberSlot tb nm) right := rf
  replace ls : Looks (model prog w) hh (isSubtype tb ta) false := ls
  replace l1 : Looks (model prog w) hh (numberSlotInPython ta nm) lp := l1
  replace l2 : Looks (model prog w) hh (numberSlotInPython tb nm) rp := l2
  replace l3 : Looks (model prog w) hh (typeLookup tb (dunderR nm)) ro := l3
  unfold binaryOp1
  refine wpAny_bind (la.at (wpAny_bind (lb.at (wpAny_bind (lf.at ?_)))))
  simp only [hne, Bool.false_eq_true, if_false]
  have fin : ∀ r s', (∃ v, r = some v ∧ Q (some v) s') → r ≠ none := by rintro r s' ⟨v, rfl, _⟩ h; cases h
  cases right <;> cases lp <;> cases rp <;>
  · ksp_lk
    refine wpAny_mono one (fun r s' hr' => ?_) fun _ _ e => e
    obtain ⟨v, rfl, hq⟩ := hr'
    ksp_lk
    exact hq
theorem try_fn {Q : Option Value → Shared → Prop} {x C f : Addr} {ox : Obj} {od : Option Obj} {b : Value} (X : K.In s.heap) (I : InstAt s.heap x ox C od) (hs : findIn K (.ref C) name = some (some (.ref f))) (hf : isFn K (.ref f) = true)
    (h : wpAny (model prog w) A (call (.ref f) [.ref x, b]) (W.CmpBack fun v => Q (some v)) E s) : wpAny (model prog w) A (tryMethod (.ref x) name b) (fun r s' => ∃ v, r = some v ∧ Q (some v) s') E s := ksp_try X I hs hf h
/-- no in-place method -/
theorem noInpl {add : Bool} {h : Heap} {cd : ClassData} (X : K.In h) (hcd : clsIn K C = some cd) (hm : cd.mro = [.ref C, .type "object"]) (h1 : findIn K (.ref C) (dunderI nm) = some none) (h2 : findIn K (.type "object") (dunderI nm) = some none) : Looks M h (fillsInplaceSlot (.ref C) nm add) false := by
  intro A Q E s k q
  have Lm : Looks M h (mroOf (.ref C)) cd.mro := (looks_clsIn X hcd).andThen (f := fun cd => pure cd.mro) .now
  have Lm' := Lm.keeps k
  obtain ⟨hh, g, d, tt, os⟩ := s
  have X' : K.In hh := X.keeps k
  have L1 : Looks M hh (typeLookup (.ref C) (dunderI nm)) none := looks_findIn X' h1
  have L2 : Looks M hh (typeLookup (.type "object") (dunderI nm)) none := looks_findIn X' h2
  unfold fillsInplaceSlot
  refine wpAny_bind (Lm'.at ?_)
  rw [hm, List.anyM_cons]
  refine wpAny_bind ?_
  repeat lk
  exact q
theorem cls_self (hc : selfFirst K C = true) : ∃ cd rest, clsIn K C = some cd ∧ cd.mro = .ref C :: rest := ksp_first hc

theorem bin_of1 {op : Operator} (one : wpAny (model prog w) A (binaryOp1 op.info.2 a b) (fun r s' => ∃ v, r = some v ∧ Q v s') E s) : wpAny (model prog w) A (binaryOp op a b) Q E s := by
  rcases hi : op.info with ⟨sym, nm'⟩
  rw [hi] at one
  dsimp only at one
  simp only [binaryOp, hi]
  refine wpAny_holding (wpAny_bind ?_)
  refine wpAny_mono one (fun r s' q => ?_) fun _ _ e => e
  obtain ⟨v, rfl, hq⟩ := q
  ksp_lk
  exact hq
theorem inpl_of1 {op : Operator} (la : Looks (model prog w) s.heap (typeOf a) ta) (li : Looks (model prog w) s.heap (fillsInplaceSlot ta op.info.2 (op == .Add)) false) (one : wpAny (model prog w) A (binaryOp1 op.info.2 a b) (fun r s' => ∃ v, r = some v ∧ Q v s') E s) : wpAny (model prog w) A (inplaceOp op a b) Q E s := by
  unfold inplaceOp
  refine wpAny_holding ?_
  refine wpAny_bind ?_
  refine la.here ?_
  refine wpAny_bind ?_
  refine li.here ?_
  rw [if_neg Bool.false_ne_true]
  refine wpAny_bind ?_
  refine wpAny_mono one (fun r s' q => ?_) fun _ _ e => e
  obtain ⟨v, rfl, hq⟩ := q
  exact wpAny_pure hq
theorem cmpBack_some {v : Value} {Q : Value → Shared → Prop} (h : PySem.W.CmpBack Q v s) : PySem.W.CmpBack (fun v s' => ∃ v', some v = some v' ∧ Q v' s') v s := by
  cases v <;> first | exact h | exact ⟨_, rfl, h⟩

section
variable {F : Fact} {x : Addr} {f : Addr} {op : Operator} (W : Wd K D) (H : At D Fs R s) (hm : F ∈ Fs) (ho : IsObj C x F) (hc : selfFirst K C = true)
  (hs : findIn K (.ref C) (PySem.dunder op.info.2) = some (some (.ref f))) (hf : isFn K (.ref f) = true)
include W H hm ho hc hs hf
theorem o_bin1 {F2 : Fact} (hm2 : F2 ∈ Fs) (ho2 : IsObj C y F2) (h : wpAny (model prog w) A (call (.ref f) [.ref x, .ref y]) (PySem.W.CmpBack Q) E s) :
    wpAny (model prog w) A (binaryOp1 op.info.2 (.ref x) (.ref y)) (fun r s' => ∃ v, r = some v ∧ Q v s') E s := by
  obtain ⟨m, I, _⟩ := ho.inst H hm
  obtain ⟨ox, od, I, _⟩ := I.at
  obtain ⟨m2, I2, _⟩ := ho2.inst H hm2
  obtain ⟨ox2, od2, I2, _⟩ := I2.at
  obtain ⟨cd, rest, hcd, hmr⟩ := cls_self hc
  exact bin1_same I.type I2.type (fills_K (At.kin W H) hcd hmr hs) (try_fn (Q := fun r s' => ∃ v', r = some v' ∧ Q v' s') (At.kin W H) I hs hf (wpAny_mono h (fun v s' q => cmpBack_some q) fun _ _ e => e))
theorem o_bin {F2 : Fact} (hm2 : F2 ∈ Fs) (ho2 : IsObj C y F2) (h : wpAny (model prog w) A (call (.ref f) [.ref x, .ref y]) (PySem.W.CmpBack Q) E s) :
    wpAny (model prog w) A (binaryOp op (.ref x) (.ref y)) Q E s := bin_of1 (o_bin1 W H hm ho hc hs hf hm2 ho2 h)
theorem o_inpl {F2 : Fact} {cd : ClassData} (hm2 : F2 ∈ Fs) (ho2 : IsObj C y F2) (hcd : clsIn K C = some cd) (hcm : cd.mro = [.ref C, .type "object"]) (h1 : findIn K (.ref C) (dunderI op.info.2) = some none) (h2 : findIn K (.type "object") (dunderI op.info.2) = some none)
    (h : wpAny (model prog w) A (call (.ref f) [.ref x, .ref y]) (PySem.W.CmpBack Q) E s) :
    wpAny (model prog w) A (inplaceOp op (.ref x) (.ref y)) Q E s := by
  obtain ⟨m, I, _⟩ := ho.inst H hm
  obtain ⟨ox, od, I, _⟩ := I.at
  exact inpl_of1 I.type (noInpl (At.kin W H) hcd hcm h1 h2) (o_bin1 W H hm ho hc hs hf hm2 ho2 h)
/-- the right operand is of a built-in type -/
theorem o_bin1T {T : String} {fo ro rc : Option Value} (hb : typeOf b = pure (.type T)) (hr : findIn K (.ref C) (dunderR op.info.2) = some rc) (hp : rc = none ∨ ∃ g : Addr, rc = some (.ref g))
    (h1 : findIn K (.type T) (PySem.dunder op.info.2) = some fo) (h2 : findIn K (.type T) (dunderR op.info.2) = some ro) (hsub : subIn K (.type T) (.ref C) = some false)
    (h : wpAny (model prog w) A (call (.ref f) [.ref x, b]) (PySem.W.CmpBack Q) E s) : wpAny (model prog w) A (binaryOp1 op.info.2 (.ref x) b) (fun r s' => ∃ v, r = some v ∧ Q v s') E s := by
  obtain ⟨m, I, _⟩ := ho.inst H hm
  obtain ⟨ox, od, I, _⟩ := I.at
  obtain ⟨cd, rest, hcd, hmr⟩ := cls_self hc
  have X := At.kin W H
  refine bin1_left I.type (Looks.of_pure hb) ?_ (fills_K X hcd hmr hs) (ksp_fillsT X h1 h2) (looks_subIn X hsub) (ksp_inPy X hs hr hp) (Looks.of_pure (r := false) rfl) (looks_findIn X h2) (try_fn (Q := fun r s' => ∃ v', r = some v' ∧ Q v' s') X I hs hf (wpAny_mono h (fun v s' q => cmpBack_some q) fun _ _ e => e))
  exact Bool.eq_false_iff.mpr fun q => by cases beq_iff_eq.mp q
theorem o_binT {T : String} {fo ro rc : Option Value} (hb : typeOf b = pure (.type T)) (hr : findIn K (.ref C) (dunderR op.info.2) = some rc) (hp : rc = none ∨ ∃ g : Addr, rc = some (.ref g))
    (h1 : findIn K (.type T) (PySem.dunder op.info.2) = some fo) (h2 : findIn K (.type T) (dunderR op.info.2) = some ro) (hsub : subIn K (.type T) (.ref C) = some false)
    (h : wpAny (model prog w) A (call (.ref f) [.ref x, b]) (PySem.W.CmpBack Q) E s) : wpAny (model prog w) A (binaryOp op (.ref x) b) Q E s := bin_of1 (o_bin1T W H hm ho hc hs hf hb hr hp h1 h2 hsub h)
end
theorem o_neg {F : Fact} {x : Addr} {f : Addr} (W : Wd K D) (H : At D Fs R s) (hm : F ∈ Fs) (ho : IsObj C x F) (hs : findIn K (.ref C) "__neg__" = some (some (.ref f))) (hf : isFn K (.ref f) = true)
    (h : wpAny (model prog w) A (call (.ref f) [.ref x]) Q E s) : wpAny (model prog w) A (unaryOp .USub (.ref x)) Q E s := by
  obtain ⟨m, I, _⟩ := ho.inst H hm
  obtain ⟨ox, od, I, _⟩ := I.at
  unfold unaryOp
  exact wpAny_holding (wpAny_bind (special_fn (At.kin W H) I hs (beq_iff_eq.mp hf) (wpAny_mono h (fun _ _ z => wpAny_pure z) fun _ _ z => z)))
end
end Mine

set_option maxRecDepth 100000
namespace Mine

theorem tab_inj {l : List Tab} (h : (l.map (·.P)).Nodup) : ∀ {t t' : Tab}, t ∈ l → t' ∈ l → t.P = t'.P → t = t' := by
  induction l with
  | nil => intro t t' ht; cases ht
  | cons x l ih =>
    intro t t' ht ht' e
    rw [List.map_cons, List.nodup_cons] at h
    rcases List.mem_cons.mp ht with q | q <;> rcases List.mem_cons.mp ht' with q' | q'
    · rw [q, q']
    · exact absurd (List.mem_map.mpr ⟨t', q', by rw [← e, q]⟩) h.1
    · exact absurd (List.mem_map.mpr ⟨t, q, by rw [e, q']⟩) h.1
    · exact ih h.2 q q' e

section
variable {D : Dat} {Fs Fs' : List Fact} {R R' : List Res} {s : Shared} {K : Frag} {n : Nat}
theorem At.withNg (H : At D Fs R s) (hn : n ≤ s.gens.size) : At (D.withNg n) Fs R s := ⟨H.os, ⟨H.gens.1, hn⟩, H.tab, H.cs, H.nodup, H.res, H.base, H.facts⟩
theorem At.ofNg (H : At (D.withNg n) Fs R s) (hn : D.ng ≤ n) : At D Fs R s := ⟨H.os, ⟨H.gens.1, Nat.le_trans hn H.gens.2⟩, H.tab, H.cs, H.nodup, H.res, H.base, H.facts⟩
theorem Wd.ng (W : Wd K D) : Wd K (D.withNg n) := ⟨W.K, W.names, W.lim, W.bmod⟩
theorem At.setGen {g : Nat} {x : GenState} (H : At D Fs R s) (hx : x.bare = true) : At D Fs R (s.setGen g x) :=
  ⟨H.os, ⟨fun y hy => by
      rcases Array.mem_or_eq_of_mem_setIfInBounds hy with h | h
      · exact H.gens.1 y h
      · exact h ▸ hx, by show D.ng ≤ (s.gens.setIfInBounds g x).size; rw [Array.size_setIfInBounds]; exact H.gens.2⟩, H.tab, H.cs, H.nodup, H.res, H.base, H.facts⟩
theorem At.pushGen {x : GenState} (H : At D Fs R s) (hx : x.bare = true) {h' : Heap} {tk : Nat} (hk : Ext s.heap h') : At (D.withNg (s.gens.size + 1)) Fs R { s with heap := h', gens := s.gens.push x, toks := tk } := by
  have H1 : At D Fs R { s with heap := h', gens := s.gens.push x, toks := tk } := H.grow hk ⟨fun y hy => by
    rcases Array.mem_push.mp hy with h | h
    · exact H.gens.1 y h
    · exact h ▸ hx, by rw [Array.size_push]; have := H.gens.2; omega⟩ fun F h => .inl h
  exact H1.withNg (by show _ ≤ (s.gens.push x).size; rw [Array.size_push]; exact Nat.le_refl _)

/-- one code table grows -/
theorem At.tabGrow {t : Tab} {h' : Heap} {tk : Nat} (H : At D Fs R s) (ht : t ∈ D.tabs) (hx : Heap.ExtBut t.P s.heap h') (hn : TabNow t h') : At D Fs R { s with heap := h', toks := tk } := by
  have hP : t.P ∈ D.Ps := List.mem_map.mpr ⟨t, ht, rfl⟩
  have hv : Ext (seen D R s.heap) (seen D R h') := Ext.hide_mono (fun b o nb e => hx b o (fun q => nb (List.mem_append_left _ (q ▸ hP))) e) fun b hb hn => absurd hb hn
  have nd := List.nodup_append.mp H.nodup
  refine ⟨H.os, H.gens, fun t' ht' => ?_, fun t ht => let ⟨o, ho⟩ := H.cs t ht; ⟨o, hv _ _ ho⟩, H.nodup, fun r hr => ?_, H.base.trans hv, fun F hF => F.mono hv (H.facts F hF)⟩
  · by_cases e : t'.P = t.P
    · rw [tab_inj nd.1 ht' ht e]; exact hn
    · obtain ⟨oc, hoc⟩ := H.cs t' ht'
      have nc := hide_not_mem hoc
      exact (H.tab t' ht').keep (fun o q => hx _ o (fun q2 => nc (List.mem_append_left _ (q2 ▸ hP))) q) fun o q => hx _ o e q
  · exact r.loc (fun b hb o e => hx b o (fun q => nd.2.2 _ hP _ (List.mem_flatMap.mpr ⟨r, hr, hb⟩) q.symm) e) (H.res r hr)
end

section
variable {prog : Program} {w : World} {M : Model} {A : Around} {E : Value → Shared → Prop} {D : Dat} {Fs : List Fact} {R R' : List Res} {s : Shared} {env : Env} {K : Frag} {n : Nat}
variable {Q : Value → Shared → Prop}

theorem r_gcode {t : Tab} {pos : Pos} {qual : Str} {scope : Scope} (H : At D Fs R s) (ht : t ∈ D.tabs) (hc : env.code = .ref t.c) (h : ∀ cd h' tk, At D Fs R { s with heap := h', toks := tk } → Q cd { s with heap := h', toks := tk }) :
    wpAny M A (genexprCode env pos qual scope) Q E s := by
  obtain ⟨more, hok, htab⟩ := H.tab t ht
  cases hnf : codeAmong pos (t.ps ++ more).toList with
  | some c' => exact wpAny_genexprCode_hit hc hok hnf (h _ s.heap s.toks H)
  | none =>
    refine wpAny_genexprCodeX hc hok htab hnf fun c' h' tk hE _ _ hok' _ htab' _ => h _ _ _ (H.tabGrow ht hE ⟨more ++ #[rawInt pos.line, rawInt pos.col, .ref c'], ?_, ?_⟩)
    · rw [← Array.append_assoc]; exact hok'
    · rw [← Array.append_assoc]; exact htab'

def GenF (a : Addr) (g : Nat) : Fact := ⟨fun h => h.IsGen a g, fun k x => x.keeps k⟩
/-- the rest of a generator expression once its first iterator stands -/
def GenK (prog : Program) (w : World) (A : Around) (E : Value → Shared → Prop) (env : Env) (elt target iter : Expr) (ifs : List Expr) (scope : Scope) (pos : Pos) (cl : List (Str × Addr)) (Q : Value → Shared → Prop) (it : Value) (s₂ : Shared) : Prop :=
  s₂.heap.NoLimit ∧ wpAny (model prog w) A (genexprCode env pos (env.qual ++ "<genexpr>") scope) (fun code s₃ => wpAny (model prog w) A (builtinsFor env.globals env.builtins) (fun bi s₄ =>
        ∀ h', h'.Ns s₄.heap.objs.size (fun y => if y = ".0" then some it else none) → Heap.SameBut s₄.heap.objs.size (s₄.heap.push { cls := .type "frame", data := .dict #[] }) h' →
          Q (.ref h'.objs.size) { s₄ with
            gens := s₄.gens.push (.fresh (.compStart (.GeneratorExp elt [⟨target, iter, ifs, 0⟩] scope pos) 0 it .none (genEnv scope cl s₄.heap.objs.size code bi env))),
            toks := s₄.toks + 1 + 1 + 1,
            heap := h'.push { cls := .type "generator", data := .fields #[.int s₄.gens.size 0, .str "<genexpr>" (s₄.toks + 1), .str (env.qual ++ "<genexpr>") (s₄.toks + 1 + 1)] } }) E s₃) E s₂
theorem r_GenExp {elt target iter : Expr} {ifs : List Expr} {scope : Scope} {cl : List (Str × Addr)} {pos : Pos} (hco : scope.isCoroutine = false) (hclos : closureFor scope env = pure cl) (hcell : ∀ y ∈ scope.names, y.2 ≠ .cell) (h0 : scope.names.lookup (".0" : Str) = some NameKind.local) (hkind : scope.kind = .function)
    (hA : Ok A n) (hs : ∀ x, genFold iter env x = pure x)
    (h : wpAny (model prog w) A (eval iter env) (fun xv s₁ => wpAny (model prog w) A (pyIter xv) (fun it s₂ => GenK prog w A E env elt target iter ifs scope pos cl Q it s₂) E s₁) E s) :
    wpAny (model prog w) A (eval (.GeneratorExp elt [⟨target, iter, ifs, 0⟩] scope pos) env) Q E s :=
  wpAny_GeneratorExp_make hco hclos hcell h0 hkind hA.room h hs
theorem r_GenK {elt target iter : Expr} {ifs : List Expr} {scope : Scope} {cl : List (Str × Addr)} {pos : Pos} {I : Addr} {t : Tab} (W : Wd K D) (H : At D Fs R s) (ht : t ∈ D.tabs) (hc : env.code = .ref t.c)
    (hg : env.globals = mainGlobals)
    (h : ∀ a g C code s', D.ng ≤ g → At (D.withNg (g + 1)) (GenF a g :: Fs) (Vars C [(".0", .ref I)] :: R) s' →
      s'.gens[g]? = some (.fresh (.compStart (.GeneratorExp elt [⟨target, iter, ifs, 0⟩] scope pos) 0 (.ref I) .none (genEnv scope cl C code builtinsNs env))) → Q (.ref a) s') :
    GenK prog w A E env elt target iter ifs scope pos cl Q (.ref I) s := by
  refine ⟨H.lim W, r_gcode H ht hc fun cd h1' tk1 H1 => ?_⟩
  obtain ⟨mg, bm, ob, gn, hb, hne, ho, h1, h2, h3⟩ := W.bmod
  refine wpAny_builtinsFor (m := mg) (by rw [hg]; exact gn.keeps H1.ofBase) hb hne (H1.ofBase _ _ ho) h1 h2 h3 ?_
  intro h' hn' hs'
  have hgr : s.gens.size + 1 = s.gens.size + 1 := rfl
  dsimp only at hn' hs' ⊢
  have ext1 : Ext h1' h' := fun b o e => hs'.extBut b o (Nat.ne_of_lt (Heap.lt_size e)) (Heap.get?_push_of_some _ e)
  refine h h'.objs.size s.gens.size h1'.objs.size cd _ H.gens.2 ?_ (by simp)
  have H2 := H1.own (r := Vars h1'.objs.size [(".0", .ref I)]) (h' := h') (gens' := s.gens) (tk := tk1) ext1 H1.gens ⟨_, hn', fun x v e => by
    rw [List.lookup_cons] at e
    by_cases q : x = ".0"
    · subst q; simp at e ⊢; exact e
    · have : (x == (".0" : Str)) = false := by simpa using q
      rw [this] at e; cases e⟩ (nd1 _) fun b hb => by rw [List.mem_singleton.mp hb]; exact Nat.le_refl _
  have H3 := At.new (o := { cls := .type "generator", data := .fields #[.int s.gens.size 0, .str "<genexpr>" (tk1 + 1), .str (env.qual ++ "<genexpr>") (tk1 + 1 + 1)] }) (F := GenF h'.objs.size s.gens.size) H2 rfl (tk := tk1 + 1 + 1 + 1) (fun _ e => ⟨_, _, _, e, rfl, rfl, rfl⟩)
  exact H3.pushGen (h' := h'.push _) rfl (Ext.refl _)
end
end Mine

set_option maxRecDepth 100000
namespace Mine

section
variable {prog : Program} {w : World} {D : Dat} {Fs : List Fact} {R : List Res}

def OkS (D : Dat) (Fs : List Fact) (R : List Res) (St : Nat → Res) (G : Nat → List Value → List Fact → Prop) (C S : Addr) (i : Nat) (s : Shared) : Prop :=
  ∃ acc Gs, G i acc Gs ∧ At D (Gs ++ Fs) (Vars C [] :: St i :: Lst S acc :: R) s
def genY (D : Dat) (Fs : List Fact) (R : List Res) (St : Nat → Res) (G : Nat → List Value → List Fact → Prop) (C S : Addr) (n : Nat) : Protocol := fun m _ v s kap =>
  ∃ i acc Gs, n - (i + 1) = m ∧ i < n ∧ G (i + 1) (acc ++ [v]) Gs ∧ At D (Gs ++ Fs) (Vars C [] :: St (i + 1) :: Lst S acc :: R) s ∧
    ∀ s'', OkS' D Fs R St G C S (i + 1) s'' → kap (.send .none) s''
where OkS' := OkS
def genR (D : Dat) (Fs : List Fact) (R : List Res) (G : Nat → List Value → List Fact → Prop) (C S : Addr) (n : Nat) : GenEnd := fun k _ r s =>
  r = .ok .next ∧ (k = 0 ∧ ∃ acc Gs, G n acc Gs ∧ At D (Gs ++ Fs) (Vars C [] :: Lst S acc :: R) s)

/-- the element of one turn: v the value drawn, x what is given -/
def Turn (prog : Program) (w : World) (D : Dat) (Fs : List Fact) (R : List Res) (St : Nat → Res) (V : Nat → Value → Fact → Prop) (G : Nat → List Value → List Fact → Prop) (C S : Addr) (n k : Nat) (target elt : Expr) (cenv : Env) : Prop :=
  ∀ A i acc Gs v F s, Ok A k → i < n → G i acc Gs → V i v F → At D (F :: (Gs ++ Fs)) (Vars C [] :: St (i + 1) :: Lst S acc :: R) s →
    wpAny (model prog w) A (assign target cenv v) (fun _ s2 => wpAny (model prog w) A (eval elt cenv) (fun x s4 => Hold (∃ F' l', G (i + 1) (acc ++ [x]) F' ∧ At D (F' ++ Fs) (Vars C l' :: St (i + 1) :: Lst S acc :: R) s4)) (fun _ _ => False) s2) (fun _ _ => False) s

theorem locals_genEnv {scope : Scope} {cl : List (Str × Addr)} {C bi : Addr} {code : Value} {env : Env} : (genEnv scope cl C code bi env).locals = C := rfl
theorem tests_nil {A : Around} {E : Value → Shared → Prop} {s : Shared} {env : Env} {Q : Bool → Shared → Prop} (h : Q true s) :
    wpAny (model prog w) A (forIn ([] : List Expr) true fun c r => if r = true then do let ok ← isTrue c env (eval c env); pure (ForInStep.yield ok) else pure (ForInStep.yield r)) Q E s := wpAny_pure h

section
variable {A : Around} {St : Nat → Res} {N : Fact} {V : Nat → Value → Fact → Prop} {G : Nat → List Value → List Fact → Prop} {C S I : Addr} {n k k' : Nat} {x : Str} {px pos : Pos} {elt iter : Expr} {scope : Scope} {cenv : Env}

theorem seg_loop (hN : Nexts prog w D false I n St N V) (hm : N ∈ Fs) (hco : cenv.scope.isCoroutine = false) (hA : Ok (A.over (.compLoop (.GeneratorExp elt [⟨.Name x px, iter, [], 0⟩] scope pos) 0 (.ref I) .none cenv) []) k)
    (turn : Turn prog w D Fs R St V G C S n k (.Name x px) elt cenv) :
    ∀ (j i : Nat) (s₀ s : Shared), n - i = j → i ≤ n → OkS D Fs R St G C S i s →
      Seg (model prog w) A (genR D Fs R G C S n) (genY D Fs R St G C S n) (n - i) s₀
        (.compLoop (.GeneratorExp elt [⟨.Name x px, iter, [], 0⟩] scope pos) 0 (.ref I) .none cenv)
        ((model prog w).den (.compLoop (.GeneratorExp elt [⟨.Name x px, iter, [], 0⟩] scope pos) 0 (.ref I) .none cenv)) [] s := by
  intro j
  induction j with
  | zero =>
    rintro i s₀ s hj hi ⟨acc, Gs, hG, H⟩
    have hin : i = n := by omega
    subst hin
    show Seg _ A _ _ _ s₀ _ ((compTurn (.GeneratorExp elt [⟨.Name x px, iter, [], 0⟩] scope pos) 0 (.ref I) .none cenv).onRaise (leaving cenv)) [] s
    rw [compTurn_gen, Sem.onRaise_eq_wrap]
    refine seg_bind_wrap (wpAny_standAt ?_)
    refine seg_bind_wrap (wpAny_mono (hN.done (Q := fun r s' => r = none ∧ At D (Gs ++ Fs) (Vars C [] :: Lst S acc :: R) s') (E := fun _ _ => False) hA.handled H (List.mem_append_right _ hm) (.tail .head) fun s' H' => ⟨rfl, H'⟩) (fun r s' q => ?_) fun _ _ f => f.elim)
    obtain ⟨rfl, H'⟩ := q
    exact seg_end (.ok .next) ⟨rfl, Nat.sub_self _, acc, Gs, hG, H'⟩
  | succ j ih =>
    rintro i s₀ s hj hi ⟨acc, Gs, hG, H⟩
    have hlt : i < n := by omega
    have hni : n - i = (n - (i + 1)) + 1 := by omega
    show Seg _ A _ _ _ s₀ _ ((compTurn (.GeneratorExp elt [⟨.Name x px, iter, [], 0⟩] scope pos) 0 (.ref I) .none cenv).onRaise (leaving cenv)) [] s
    rw [compTurn_gen, Sem.onRaise_eq_wrap]
    refine seg_bind_wrap (wpAny_standAt ?_)
    refine seg_bind_wrap (wpAny_mono (hN.item (target := .Name x px) (E := fun _ _ => False) ⟨_, _, rfl⟩ hA.handled hlt H (List.mem_append_right _ hm) (.tail .head) fun v F s' hV H' => turn _ i acc Gs v F s' hA hlt hG hV H') (fun r s1 q => ?_) fun _ _ f => f.elim)
    obtain ⟨v, rfl, q⟩ := q
    refine seg_bind_wrap (wpAny_mono q (fun _ s2 q => ?_) fun _ _ f => f.elim)
    refine seg_bind_wrap (wpAny_mono q (fun _ s3 q => ?_) fun _ _ f => f.elim)
    refine seg_bind_wrap (tests_nil ?_)
    simp only [if_true]
    have hy : ∀ v, yieldOut cenv v = yieldValue v := fun v => by simp only [yieldOut, hco, Bool.false_eq_true, if_false]
    simp only [hy]
    rw [Sem.bind_eq_wrap', Sem.bind_eq_wrap', Sem.wrap_wrap, Sem.wrap_wrap]
    refine seg_wrap (wpAny_mono q (fun y s4 q => ?_) fun _ _ f => f.elim)
    obtain ⟨F', l', hG', H4⟩ := q.out
    rw [hni]
    refine seg_at (seg_yield rfl rfl rfl ⟨i, acc, F', rfl, hlt, hG', H4.to (.cons (.vars .nil) .head (Sub.refl _)), fun s'' hok => ?_⟩)
    exact seg_again rfl (ih (i + 1) s'' s'' (by omega) hlt hok)

theorem seg_start (hN : Nexts prog w D false I n St N V) (hm : N ∈ Fs) (hco : cenv.scope.isCoroutine = false) (hh : A.handled = none) (hA : Ok (A.over (.compLoop (.GeneratorExp elt [⟨.Name x px, iter, [], 0⟩] scope pos) 0 (.ref I) .none cenv) []) k)
    (turn : Turn prog w D Fs R St V G C S n k (.Name x px) elt cenv) (s₀ s : Shared) (hok : OkS D Fs R St G C S 0 s) :
      Seg (model prog w) A (genR D Fs R G C S n) (genY D Fs R St G C S n) n s₀
        (.compStart (.GeneratorExp elt [⟨.Name x px, iter, [], 0⟩] scope pos) 0 (.ref I) .none cenv)
        ((model prog w).den (.compStart (.GeneratorExp elt [⟨.Name x px, iter, [], 0⟩] scope pos) 0 (.ref I) .none cenv)) [] s := by
  have loop := seg_loop (px := px) (scope := scope) (pos := pos) hN hm hco hA turn n 0 s₀ s (Nat.sub_zero _) (Nat.zero_le _) hok
  obtain ⟨acc, Gs, hG, H⟩ := hok
  rw [Nat.sub_zero] at loop
  show Seg _ A _ _ _ s₀ _ ((compStart (.GeneratorExp elt [⟨.Name x px, iter, [], 0⟩] scope pos) 0 (.ref I) .none cenv).onRaise (leaving cenv)) [] s
  unfold compStart
  rw [Sem.onRaise_eq_wrap]
  show Seg _ A _ _ _ s₀ _ ((ask >>= _).wrap _ _ _ _) [] s
  have slf : wpAny (model prog w) (A.over (.compStart (.GeneratorExp elt [⟨.Name x px, iter, [], 0⟩] scope pos) 0 (.ref I) .none cenv) []) (pyIter (.ref I)) (fun v s' => v = .ref I ∧ s' = s) (fun _ _ => False) s :=
    hN.self hh H (List.mem_append_right _ hm) (.tail _ (.head _)) ⟨rfl, rfl⟩
  refine seg_bind_wrap (wpAny_askSetting ?_)
  split
  · exact seg_again rfl loop
  · refine seg_bind_wrap (wpAny_rule ?_)
    show Seg _ A _ _ _ s₀ _ ((standAt iter.pos >>= _).wrap _ _ _ _) [] s
    refine seg_bind_wrap (wpAny_standAt (seg_bind_wrap (wpAny_mono slf (fun v s' q => ?_) fun _ _ f => f.elim)))
    obtain ⟨rfl, rfl⟩ := q
    exact seg_again rfl loop

theorem over_frames {it acc : Value} {c : List Comprehension} {e : Expr} {d : Nat} : (Code.compLoop (.GeneratorExp e c scope pos) d it acc cenv).frames ≤ 1 := by
  show (if _ = true then 1 else 0) ≤ 1
  split <;> omega
theorem over_weight {it acc : Value} {c : List Comprehension} {e : Expr} {d : Nat} : (Code.compLoop (.GeneratorExp e c scope pos) d it acc cenv).weight ≤ 1 := by
  have h := over_frames (it := it) (acc := acc) (c := c) (e := e) (d := d) (scope := scope) (pos := pos) (cenv := cenv)
  show (Code.compLoop (.GeneratorExp e c scope pos) d it acc cenv).frames + 0 + 0 + 0 ≤ 1
  omega
theorem over_units {it acc : Value} {c : List Comprehension} {e : Expr} {d : Nat} : (Code.compLoop (.GeneratorExp e c scope pos) d it acc cenv).cUnits ≤ 3 := by
  have h := over_frames (it := it) (acc := acc) (c := c) (e := e) (d := d) (scope := scope) (pos := pos) (cenv := cenv)
  show 3 * (Code.compLoop (.GeneratorExp e c scope pos) d it acc cenv).frames ≤ 3
  omega
theorem Ok.over {it acc : Value} {c : List Comprehension} {e : Expr} {d : Nat} (h : Ok A (k + 1)) : Ok (A.over (.compLoop (.GeneratorExp e c scope pos) d it acc cenv) []) k := by
  have h1 := h.depth
  have h2 := h.units
  refine ⟨h.handled, ?_, ?_⟩
  · have := over_weight (it := it) (acc := acc) (c := c) (e := e) (d := d) (scope := scope) (pos := pos) (cenv := cenv)
    show A.depth + 0 + Code.weight _ + k ≤ 900
    omega
  · have := over_units (it := it) (acc := acc) (c := c) (e := e) (d := d) (scope := scope) (pos := pos) (cenv := cenv)
    show A.units + 0 + Code.cUnits _ + 16 * k ≤ 4000
    omega

/-- where the generator stands between two turns -/
def GenSt (prog : Program) (w : World) (A : Around) (D : Dat) (Fs : List Fact) (R : List Res) (St : Nat → Res) (G : Nat → List Value → List Fact → Prop) (C S : Addr) (n g i : Nat) (s : Shared) : Prop :=
  OkS D Fs R St G C S i s ∧ ∃ gs, s.gens[g]? = some gs ∧ ∀ s'', OkS D Fs R St G C S i s'' → gs.Goes (model prog w) A (genR D Fs R G C S n) (genY D Fs R St G C S n) (n - i) (.send .none) s''
theorem OkS.setGen {g i : Nat} {x : GenState} {s : Shared} (h : OkS D Fs R St G C S i s) (hx : x.bare = true) : OkS D Fs R St G C S i (s.setGen g x) := let ⟨acc, Gs, a, b⟩ := h; ⟨acc, Gs, a, b.setGen hx⟩
theorem setGen_get {s : Shared} {g : Nat} {x : GenState} (h : g < s.gens.size) : (s.setGen g x).gens[g]? = some x := by simp [Shared.setGen, h]

variable {E : Value → Shared → Prop} {a : Addr} {g : Nat} {K : Frag}
theorem At.push3 {r1 r2 : Res} {acc : List Value} {v : Value} {Fs' : List Fact} {s' : Shared} (H : At D Fs' (r1 :: r2 :: Lst S acc :: R) s') :
    At D Fs' (r1 :: r2 :: Lst S (acc ++ [v]) :: R) { s' with heap := s'.heap.update S (Obj.mapSeq (·.push v)) } := by
  obtain ⟨c, hS⟩ := H.res (Lst S acc) (.tail _ (.tail _ (.head _)))
  have e2 : acc.toArray.push v = (acc ++ [v]).toArray := by simp
  exact H.upd (r := Lst S acc) (r' := Lst S (acc ++ [v])) (R' := r1 :: r2 :: Lst S (acc ++ [v]) :: R) (h' := s'.heap.update S (Obj.mapSeq (·.push v))) (gens' := s'.gens) (tk := s'.toks) (.tail (.tail .head)) rfl
      (fun b o nb e => (Heap.get?_update_other _ _ (Ne.symm fun q => nb (List.mem_singleton.mpr q))).trans e) (by
        have := IsL.update hS (·.push v)
        simp only [e2] at this
        exact ⟨_, this⟩) H.gens
theorem gen_item {i : Nat} {s : Shared} {Q : Option Value → Shared → Prop} (W : Wd K D) (hA : Ok A k) (hgF : GenF a g ∈ Fs) (hng : g + 1 ≤ D.ng) (hi : i < n) (h : GenSt prog w A.in1 D Fs R St G C S n g i s)
    (hQ : ∀ v acc Gs s', G (i + 1) (acc ++ [v]) Gs → At D (Gs ++ Fs) (Vars C [] :: St (i + 1) :: Lst S acc :: R) s' →
      (∃ gs, s'.gens[g]? = some gs ∧ ∀ s'', OkS D Fs R St G C S (i + 1) s'' → gs.Goes (model prog w) A.in1 (genR D Fs R G C S n) (genY D Fs R St G C S n) (n - (i + 1)) (.send .none) s'') → Q (some v) s') :
    wpAny (model prog w) A (pyNext (.ref a)) Q E s := by
  obtain ⟨hok, gs, hgs, hgo⟩ := h
  obtain ⟨acc, Gs, hG, H⟩ := id hok
  have hni : n - i = (n - (i + 1)) + 1 := by omega
  rw [hni] at hgo
  refine wpAny_pyNext_genexpQ (P := fun k s₀ s₁ => k = 0 ∧ ∃ acc Gs, G n acc Gs ∧ At D (Gs ++ Fs) (Vars C [] :: Lst S acc :: R) s₁) hA.handled (H.lim W) hA.room (H.fact (List.mem_append_right _ hgF)) hgs (hgo _ (hok.setGen rfl)) (fun v s₁ gs' hb hv => ?_) (fun s₁ hp => absurd hp.1 (Nat.succ_ne_zero _))
  obtain ⟨i', acc', Gs', e1, e2, hG', H', hk⟩ := hv
  have hii : i' = i := by omega
  subst hii
  have hsz : g < s₁.gens.size := by have := H'.gens.2; omega
  exact hQ v acc' Gs' _ hG' (H'.setGen hb) ⟨gs', setGen_get hsz, fun s'' hok'' => hk s'' hok''⟩
theorem gen_done {s : Shared} {Q : Option Value → Shared → Prop} (W : Wd K D) (hA : Ok A k) (hgF : GenF a g ∈ Fs) (h : GenSt prog w A.in1 D Fs R St G C S n g n s)
    (hQ : ∀ acc Gs s', G n acc Gs → At D (Gs ++ Fs) (Vars C [] :: Lst S acc :: R) s' → Q none s') :
    wpAny (model prog w) A (pyNext (.ref a)) Q E s := by
  obtain ⟨hok, gs, hgs, hgo⟩ := h
  obtain ⟨acc, Gs, hG, H⟩ := id hok
  rw [Nat.sub_self] at hgo
  refine wpAny_pyNext_genexpQ (P := fun k s₀ s₁ => k = 0 ∧ ∃ acc Gs, G n acc Gs ∧ At D (Gs ++ Fs) (Vars C [] :: Lst S acc :: R) s₁) hA.handled (H.lim W) hA.room (H.fact (List.mem_append_right _ hgF)) hgs (hgo _ (hok.setGen rfl)) (fun v s₁ gs' hb hv => ?_) (fun s₁ hp h' hk => ?_)
  · obtain ⟨i', acc', Gs', e1, e2, hG', H', hk⟩ := hv
    exact (hk _ ⟨_, _, hG', H'.push3⟩ : False).elim
  · obtain ⟨_, acc', Gs', hG', H'⟩ := hp
    exact hQ acc' Gs' _ hG' ((H'.setGen (g := g) (x := .finished) rfl).keeps (tk := s₁.toks) hk)

theorem extend_loop {s : Shared} {Rk : Result → Shared → Prop} {res : Value} (W : Wd K D) (hA : Ok A (k + 1)) (hgF : GenF a g ∈ Fs) (hng : g + 1 ≤ D.ng) (hlen : ∀ i ys Gs, G i ys Gs → ys.length ≤ 1000000)
    (hR : ∀ acc Gs s', G n acc Gs → At D (Gs ++ Fs) (Vars C [] :: Lst S acc :: R) s' → Rk (.ok (.ret res)) s') :
    ∀ (j i : Nat) (s : Shared), n - i = j → i ≤ n → GenSt prog w A.in1.in1 D Fs R St G C S n g i s → codeAny (model prog w) A (.builtin "list.extend.loop" ⟨[.ref S, .ref a, res], []⟩) Rk s := by
  intro j
  induction j with
  | zero =>
    intro i s hj hi h
    have hin : i = n := by omega
    subst hin
    refine codeAny_builtin F.entry_extend_loop ?_
    rw [Around.under_plainId F.plain_extend_loop _]
    show wpAny _ A.in1 (pyNext (.ref a) >>= _) _ _ s
    exact wpAny_bind (gen_done (A := A.in1) W hA.in1 hgF h fun acc Gs s' hG H => wpAny_pure (hR acc Gs s' hG H))
  | succ j ih =>
    intro i s hj hi h
    have hlt : i < n := by omega
    refine codeAny_builtin F.entry_extend_loop ?_
    rw [Around.under_plainId F.plain_extend_loop _]
    show wpAny _ A.in1 (pyNext (.ref a) >>= _) _ _ s
    refine wpAny_bind (gen_item (A := A.in1) W hA.in1 hgF hng hlt h fun v acc Gs s' hG H hgs => ?_)
    have hl := hlen _ _ _ hG
    obtain ⟨c, hS⟩ := H.res (Lst S acc) (.tail _ (.tail _ (.head _)))
    show wpAny _ A.in1 (updateSeq S (·.push v) >>= _) _ _ _
    refine wpAny_bind ?_
    have H2 := H.push3 (v := v)
    refine wpAny_updateSeq hS rfl (wpAny_pure ⟨plainId_quiet F.plain_extend_loop _, ih (i + 1) _ (by omega) hlt ⟨⟨acc ++ [v], Gs, hG, H2⟩, hgs⟩⟩) ?_ ?_
    · simp only [List.size_toArray]; rw [sizeLine_eq]; simp at hl; omega
    · show (acc.toArray.push v).size ≤ sizeLine + 1
      rw [Array.size_push, List.size_toArray, sizeLine_eq]; simp at hl; omega

theorem my_collect {s : Shared} {Q : List Value → Shared → Prop} (W : Wd K D) (hA : Ok A (k + 3)) (hgF : GenF a g ∈ Fs) (hng : g + 1 ≤ D.ng) (hN : Nexts prog w D false I n St N V) (hm : N ∈ Fs) (hco : cenv.scope.isCoroutine = false)
    (hlen : ∀ i ys Gs, G i ys Gs → ys.length ≤ 1000000) (H : At D Fs (Vars C [] :: St 0 :: R) s) (h0 : G 0 [] [])
    (hgs : s.gens[g]? = some (.fresh (.compStart (.GeneratorExp elt [⟨.Name x px, iter, [], 0⟩] scope pos) 0 (.ref I) .none cenv)))
    (turn : ∀ S, Turn prog w D Fs R St V G C S n k (.Name x px) elt cenv)
    (hQ : ∀ acc Gs s', G n acc Gs → At D (Gs ++ Fs) R s' → Q acc s') : wpAny (model prog w) A (collect (.ref a)) Q E s := by
  unfold collect
  refine wpAny_bind (wpAny_runValue (codeAny_builtin F.entry_proto_collect ?_))
  rw [Around.under_plainId F.plain_proto_collect _]
  show wpAny _ A.in1 (newList [] >>= fun l => again (.builtin "list.__iadd__" ⟨[l, .ref a], []⟩)) _ _ s
  refine wpAny_bind (wpAny_newObj_type ?_)
  refine wpAny_pure ⟨plainId_quiet F.plain_list_iadd _, codeAny_builtin F.entry_list_iadd ?_⟩
  rw [Around.under_plainId F.plain_list_iadd _]
  have hg0 := H.fact hgF
  have H1 : At D Fs (Vars C [] :: St 0 :: Lst s.heap.objs.size [] :: R) { s with heap := s.heap.push { cls := .type "list", data := .seq ([] : List Value).toArray } } :=
    (H.pushL (vs := []) (tk := s.toks)).to (.cons .refl (.tail .head) (.cons .refl (.tail .head) (.cons .refl .head (Sub.refl _))))
  have hSI : s.heap.objs.size ≠ a := by obtain ⟨o, _, _, ho, _⟩ := hg0; exact fun e => Nat.lt_irrefl _ (e ▸ Heap.lt_size ho)
  have hg1 : ({ s with heap := s.heap.push { cls := .type "list", data := .seq ([] : List Value).toArray } } : Shared).heap.IsGen a g := H1.fact hgF
  show wpAny _ A.in1 (Builtin.List.listExtendWith (.ref s.heap.objs.size) (.ref a) (.ref s.heap.objs.size)) _ _ _
  unfold Builtin.List.listExtendWith
  refine wpAny_bind (wpAny_typeOf hg1.typeIs ?_)
  have h1 : Builtin.List.listSameRef (.ref s.heap.objs.size) (.ref a) = false := by simp [Builtin.List.listSameRef, hSI]
  have h2 : (Value.type "generator" == Value.type "list") = false := by decide
  have h3 : (Value.type "generator" == Value.type "tuple") = false := by decide
  simp only [h1, h2, h3, Bool.or_false, Bool.false_eq_true, if_false]
  refine wpAny_bind (wpAny_pyIter_gen hg1 ?_)
  refine wpAny_bind (wpAny_holding ?_)
  unfold Builtin.List.listLengthHint
  refine wpAny_bind (wpAny_specialOf hg1.typeIs F.gen_no_len ?_)
  show wpAny _ A.in1 (specialOf (Value.ref a) (Str.ofString "__length_hint__") >>= _) _ _ _
  refine wpAny_bind (wpAny_specialOf hg1.typeIs F.gen_no_hint ?_)
  refine wpAny_pure ?_
  show wpAny _ A.in1 (rule "list.extend.makes-room" >>= fun _ => Builtin.List.listTouch (.ref s.heap.objs.size) >>= fun _ =>
    again (.builtin "list.extend.loop" ⟨[.ref s.heap.objs.size, .ref a, .ref s.heap.objs.size], []⟩)) _ _ _
  refine wpAny_bind (wpAny_rule ?_)
  have hS₁ : (s.heap.push { cls := .type "list", data := .seq ([] : List Value).toArray }).get? s.heap.objs.size = some { cls := .type "list", data := .seq ([] : List Value).toArray } := Heap.get?_push_size _ rfl
  refine wpAny_bind ?_
  show wpAny _ A.in1 (updateSeq s.heap.objs.size (·.push .none) >>= fun _ => updateSeq s.heap.objs.size (·.pop)) _ _ _
  refine wpAny_bind (wpAny_updateSeq hS₁ rfl ?_)
  have hS₂ := Heap.get?_update_self (Obj.mapSeq (·.push Value.none)) hS₁ rfl
  refine wpAny_updateSeq hS₂ rfl ?_
  have hS₃ := Heap.get?_update_self (Obj.mapSeq (·.pop)) hS₂ rfl
  generalize hh3 : ((s.heap.push { cls := .type "list", data := .seq ([] : List Value).toArray }).update s.heap.objs.size (Obj.mapSeq (·.push Value.none))).update s.heap.objs.size (Obj.mapSeq (·.pop)) = h3 at hS₃ ⊢
  have oth : ∀ b o, b ≠ s.heap.objs.size → (s.heap.push { cls := .type "list", data := .seq ([] : List Value).toArray }).get? b = some o → h3.get? b = some o :=
    fun b o hb e => hh3 ▸ (Heap.get?_update_other _ _ (Ne.symm hb)).trans ((Heap.get?_update_other _ _ (Ne.symm hb)).trans e)
  have H3 : At D Fs (Vars C [] :: St 0 :: Lst s.heap.objs.size [] :: R) { s with heap := h3 } :=
    H1.upd (r := Lst s.heap.objs.size []) (r' := Lst s.heap.objs.size []) (h' := h3) (gens' := s.gens) (tk := s.toks) (.tail (.tail .head)) rfl (fun b o nb e => oth b o (fun q => nb (List.mem_singleton.mpr q)) e) ⟨_, hS₃⟩ H1.gens
  have st0 : GenSt prog w A.in1.in1 D Fs R St G C s.heap.objs.size n g 0 { s with heap := h3 } :=
    ⟨⟨[], [], h0, H3⟩, _, hgs, fun s'' hok => ⟨rfl, seg_start (A := A.in1.in1) hN hm hco hA.handled (Ok.over (k := k) (hA.in1.in1.mono (by omega))) (turn _) s'' s'' hok⟩⟩
  refine wpAny_pure ⟨plainId_quiet F.plain_extend_loop _, extend_loop (k := k + 2) (s := s) W hA hgF hng hlen (fun acc Gs s' hG H' => ?_) n 0 _ (Nat.sub_zero _) (Nat.zero_le _) st0⟩
  obtain ⟨c, hS⟩ := H'.res (Lst _ acc) (.tail _ (.head _))
  show wpAny _ A (load s.heap.objs.size >>= _) _ _ s'
  refine wpAny_bind (wpAny_load hS ?_)
  refine wpAny_pure ?_
  have e : acc.toArray.toList = acc := by simp
  show Q acc.toArray.toList s'
  rw [e]
  exact hQ acc Gs s' hG (H'.to (.drop (.drop (Sub.refl _))))

/-- tuple(x for ..) -/
theorem r_tupgen {s : Shared} {Q : Value → Shared → Prop} (W : Wd K D) (hA : Ok A (k + 5)) (hgF : GenF a g ∈ Fs) (hng : g + 1 ≤ D.ng) (hN : Nexts prog w D false I n St N V) (hm : N ∈ Fs) (hco : cenv.scope.isCoroutine = false)
    (hlen : ∀ i ys Gs, G i ys Gs → ys.length ≤ 1000000) (H : At D Fs (Vars C [] :: St 0 :: R) s) (h0 : G 0 [] [])
    (hgs : s.gens[g]? = some (.fresh (.compStart (.GeneratorExp elt [⟨.Name x px, iter, [], 0⟩] scope pos) 0 (.ref I) .none cenv)))
    (turn : ∀ S, Turn prog w D Fs R St V G C S n k (.Name x px) elt cenv)
    (hQ : ∀ t acc Gs s', G n acc Gs → At D (TupF t acc :: (Gs ++ Fs)) R s' → Q (.ref t) s') : wpAny (model prog w) A (call (.type "tuple") [.ref a]) Q E s := by
  have hTI := (H.fact hgF : s.heap.IsGen a g).typeIs
  refine callType_codes (Q₁ := fun obj s₁ => s₁.TypeIs obj "tuple" ∧ Q obj s₁) F.called_tuple (F.typeCall_tuple_1 _) F.entry_object_init ?_ fun obj s₁ h₁ => ?_
  · refine codeAny_of_tree ?_
    show wpAny _ A.in1.in1 (do checkBuiltinCall "tuple.__new__" ⟨[.type "tuple", .ref a], []⟩; again (.builtin "tuple.__new__" ⟨[.type "tuple", .ref a], []⟩)) _ _ s
    refine wpAny_bind (wpAny_of_eq (F.newCall_tuple_1 _) (wpAny_pure ⟨plainId_quiet F.plain_tuple_new _, codeAny_builtin F.entry_tuple_new ?_⟩))
    rw [Around.under_plainId F.plain_tuple_new _]
    have hsub := sub_tuple_self
    have hinit := init_tuple_lookup
    have hmh := madeHere_tuple
    have hAA : Ok A.in1.in1 (k + 3) := hA.in1.in1
    wp_walk using wpAny_typeOf hTI, my_collect (k := k) W hAA hgF hng hN hm hco hlen H h0 hgs turn
    intro acc Gs s' hG H'
    show wpAny _ _ (Builtin.Tuple.tupleExact acc.toArray >>= fun v => ret v) _ _ _
    unfold Builtin.Tuple.tupleExact
    have hl := hlen _ _ _ hG
    refine wpAny_bind (wpAny_newObj_type ?_ (by show acc.toArray.size ≤ sizeLine; rw [List.size_toArray, sizeLine_eq]; omega))
    exact wpAny_pure ⟨⟨_, Heap.get?_push_size _ rfl, rfl⟩, hQ _ acc Gs _ hG (H'.new (tk := s'.toks) rfl fun _ e => ⟨_, e, rfl, 0, rfl⟩)⟩
  · exact ⟨h₁.1, F.args_object_init_2 obj _, object_init_meets F.called_tuple.init.lookup F.called_tuple.made (by decide) prog w A.in1 _ s₁ ⟨h₁.1, rfl, h₁.2⟩⟩
end
end
end Mine

set_option maxRecDepth 100000
namespace Mine
open AutoSeq1 (wpAny_loadPart')

/-- a scalar: an int (read mod p) or a field element -/
def Sch (C : Addr) (p : Int) (h : Heap) (v : Value) (n : Int) : Prop := (∃ k t, v = .int k t ∧ n = k.fmod p) ∨ (∃ a, v = .ref a ∧ FQh C a p n h)
inductive Scs (C : Addr) (p : Int) (h : Heap) : List Value → List Int → Prop
  | nil : Scs C p h [] []
  | cons {v n vs ns} : Sch C p h v n → Scs C p h vs ns → Scs C p h (v :: vs) (n :: ns)
theorem Sch.ext {C : Addr} {p : Int} {h h' : Heap} {v : Value} {n : Int} (k : Ext h h') : Sch C p h v n → Sch C p h' v n
  | .inl x => .inl x
  | .inr ⟨a, e, q⟩ => .inr ⟨a, e, q.ext k⟩
theorem Scs.ext {C : Addr} {p : Int} {h h' : Heap} (k : Ext h h') {vs : List Value} {ns : List Int} (x : Scs C p h vs ns) : Scs C p h' vs ns := by
  induction x with
  | nil => exact .nil
  | cons a _ ih => exact .cons (a.ext k) ih
theorem Scs.length {C : Addr} {p : Int} {h : Heap} {vs : List Value} {ns : List Int} (x : Scs C p h vs ns) : vs.length = ns.length := by
  induction x with
  | nil => rfl
  | cons _ _ ih => simp [ih]
theorem Scs.at {C : Addr} {p : Int} {h : Heap} {vs : List Value} {ns : List Int} (x : Scs C p h vs ns) : ∀ (i : Nat) (v : Value), vs[i]? = some v → ∃ n, ns[i]? = some n ∧ Sch C p h v n := by
  induction x with
  | nil => intro i v e; simp at e
  | @cons v n vs ns q _ ih =>
    intro i v' e
    cases i with
    | zero => simp at e; subst e; exact ⟨n, rfl, q⟩
    | succ i => simpa using ih i v' (by simpa using e)
theorem Scs.ofInts {C : Addr} {p : Int} {h : Heap} {vs : List Value} {ns : List Int} (x : IntsAre vs ns) : Scs C p h vs (ns.map fun k => k.fmod p) := by
  induction x with
  | nil => exact .nil
  | cons n t _ ih => exact .cons (.inl ⟨n, t, rfl, rfl⟩) ih
theorem Scs.ofFQs {C : Addr} {p : Int} {h : Heap} {vs : List Value} {ns : List Int} (x : FQs C p h vs ns) : Scs C p h vs ns := by
  induction x with
  | nil => exact .nil
  | cons q _ ih => exact .cons (.inr ⟨_, rfl, q⟩) ih
def ScsF (C : Addr) (p : Int) (vs : List Value) (ns : List Int) : Fact := ⟨fun h => Scs C p h vs ns, fun k x => Scs.ext k x⟩
def SchF (C : Addr) (p : Int) (v : Value) (n : Int) : Fact := ⟨fun h => Sch C p h v n, fun k x => Sch.ext k x⟩

/-- a list or a tuple -/
def IsSeq (Fs : List Fact) (l : Addr) (vs : List Value) : Prop := ListF l vs ∈ Fs ∨ TupF l vs ∈ Fs
theorem IsSeq.up {Fs Fs' : List Fact} {l : Addr} {vs : List Value} (h : IsSeq Fs l vs) (k : ∀ F ∈ Fs, F ∈ Fs') : IsSeq Fs' l vs := h.imp (k _) (k _)

section
variable {prog : Program} {w : World} {M : Model} {A : Around} {E : Value → Shared → Prop} {D : Dat} {Fs : List Fact} {R R' : List Res} {s : Shared} {env : Env} {K : Frag} {n : Nat}
variable {l : Addr} {vs : List Value} {Q : Value → Shared → Prop}
theorem At.fact2 {F G : Fact} (H : At D (F :: Fs) R s) (h : ∀ h, F.holds h → G.holds h) : At D (G :: F :: Fs) R s := H.learn (.head _) h
theorem r_lenS (H : At D Fs R s) (hs : IsSeq Fs l vs) (hz : vs.length < 2 ^ 60) (h : ∀ t s', At D Fs R s' → Q (.int vs.length t) s') : wpAny (model prog w) A (call (.builtin "len") [.ref l]) Q E s := by
  rcases hs with hs | hs
  · exact r_lenL H hs hz h
  · exact r_lenT H hs hz h
theorem r_tupS (H : At D Fs R s) (hs : IsSeq Fs l vs) (hz : vs.length ≤ 1000000) (h : ∀ t s', At D (TupF t vs :: Fs) R s' → Q (.ref t) s') : wpAny (model prog w) A (call (.type "tuple") [.ref l]) Q E s := by
  rcases hs with hs | hs
  · exact r_tupL H (H.plF hs) hz h
  · exact r_tupT H hs (h _ _ (H.sub fun F hF => by
      rcases List.mem_cons.mp hF with rfl | hF
      · exact hs
      · exact hF))
theorem r_iterS (H : At D Fs R s) (hs : IsSeq Fs l vs)
    (h : ∀ I St N s', (∀ pair ng, Nexts prog w (D.withNg ng) pair I vs.length St N (fun i v F => vs[i]? = some v ∧ F = Tru)) → At D (N :: Fs) (St 0 :: R) s' → Q (.ref I) s') : wpAny (model prog w) A (pyIter (.ref l)) Q E s := by
  rcases hs with hs | hs
  · exact r_iterL H hs fun I s' hN H' => h I _ _ s' hN (H'.sub fun F hF => by
      rcases List.mem_cons.mp hF with rfl | hF
      · exact hs
      · exact hF)
  · exact r_iterT H hs fun I s' hN H' => h I _ _ s' hN (H'.sub fun F hF => by
      rcases List.mem_cons.mp hF with rfl | hF
      · exact hs
      · exact hF)

def EnumR (e it l : Addr) (tup : Bool) (i : Nat) : Res :=
  ⟨[e, it], fun h => (∃ old, IsEnum h e it i old) ∧ (if tup then h.IsTupleIter it l i else h.IsListIter it l i), fun k ⟨⟨old, a⟩, b⟩ => ⟨⟨old, k e (.head _) _ a⟩, by
      cases tup
      · exact Heap.IsListIter.at b fun o q => k it (.tail _ (.head _)) o q
      · exact Heap.IsTupleIter.at b fun o q => k it (.tail _ (.head _)) o q⟩,
    fun ⟨⟨_, a⟩, b⟩ c hc => by
      rcases List.mem_cons.mp hc with rfl | hc
      · exact Heap.lt_size a
      · rw [List.mem_singleton.mp hc]
        cases tup
        · obtain ⟨_, q, _⟩ := b; exact Heap.lt_size q
        · obtain ⟨_, q, _⟩ := b; exact Heap.lt_size q⟩
theorem nexts_enumL {e it : Addr} (hei : e ≠ it) (hle : l ≠ e) (hli : l ≠ it) : Nexts prog w D true e vs.length (EnumR e it l false) (ListF l vs) (fun i v F => ∃ T vals, v = .ref T ∧ (∃ t x, vs.toArray[i]? = some x ∧ vals = #[.int i t, x]) ∧ F = TupF T vals.toList) := by
  have q := Nexts.ofWalksT (D := D) (fun (A : Around) (hh : A.handled = none) => WalksT.enumerate (prog := prog) (w := w) hh e it l hei hle hli vs.toArray) (St := EnumR e it l false) (N := ListF l vs) (fun _ => rfl)
    (fun _ _ a b => ⟨a.1, a.2, Heap.PlainList.isList b⟩) (fun _ _ a => ⟨a.1, a.2.1⟩)
  simpa using q
end
section
variable {prog : Program} {w : World} {A : Around} {E : Value → Shared → Prop} {s : Shared}
theorem nextT_item {it t : Addr} {i : Nat} {items : Array Value} {x : Value} {Q : Value → Shared → Prop} (hit : s.heap.IsTupleIter it t i) (ht : s.heap.IsTuple t items) (hx : items[i]? = some x)
    (hQ : ∀ h', h'.IsTupleIter it t (i + 1) → Heap.SameBut it s.heap h' → Q x { s with heap := h' }) : wpAny (model prog w) A (Builtin.SmallTypes.nextOf (.ref it)) Q E s := by
  obtain ⟨o, ho, hc, hd⟩ := id hit
  obtain ⟨ol, hol, _, nl, hdl⟩ := ht
  unfold Builtin.SmallTypes.nextOf
  refine wpAny_bind (wpAny_callSpecial?_slot (name := Str.ofString "__next__") hit.typeIs F.slot_tuple_iterator_next
    (wpAny_call_entry F.slot_tuple_iterator_next hit.typeIs F.entry_tuple_iterator_next ?_ (F.args_tuple_iterator_next_1 _)))
  show wpAny _ _ (field (.ref it) 0 >>= _) _ _ s
  refine wpAny_bind (wpAny_field ho hd (x := .ref t) rfl ?_)
  show wpAny _ _ (if (Value.ref t == Value.none) = true then _ else _) _ _ s
  rw [if_neg (show ¬ ((Value.ref t == Value.none) = true) from Bool.false_ne_true)]
  show wpAny _ _ (field (.ref it) 1 >>= _) _ _ s
  refine wpAny_bind (wpAny_field ho hd (x := .int i 0) rfl ?_)
  show wpAny _ _ (seqItems? (.ref t) >>= _) _ _ s
  refine wpAny_bind (wpAny_seqItems hol hdl ?_)
  simp only [Int.toNat_natCast, hx]
  refine wpAny_bind (wpAny_setField ho hd (by simp) (wpAny_pure ⟨x, rfl, wpAny_pure (hQ _ ?_ (Heap.SameBut.update ..))⟩))
  exact ⟨_, Heap.get?_update_self _ ho (Obj.isFreed_of_fields (Obj.data_mapFields hd _)), (Obj.cls_mapFields ..).trans hc, by
    rw [Obj.data_mapFields hd]; simp [rawInt]⟩
theorem nextT_end {it t : Addr} {i : Nat} {items : Array Value} {Q : Value → Shared → Prop} (hh : A.handled = none) (hit : s.heap.IsTupleIter it t i) (ht : s.heap.IsTuple t items) (hx : items[i]? = none)
    (hE : ∀ h' e, Heap.ExtBut it s.heap h' → (∃ o, h'.get? e = some o ∧ o.cls = .type "StopIteration") → E (.ref e) { s with heap := h' }) : wpAny (model prog w) A (Builtin.SmallTypes.nextOf (.ref it)) Q E s := by
  obtain ⟨o, ho, hc, hd⟩ := id hit
  obtain ⟨ol, hol, _, nl, hdl⟩ := ht
  unfold Builtin.SmallTypes.nextOf
  refine wpAny_bind (wpAny_callSpecial?_slot (name := Str.ofString "__next__") hit.typeIs F.slot_tuple_iterator_next
    (wpAny_call_entry F.slot_tuple_iterator_next hit.typeIs F.entry_tuple_iterator_next ?_ (F.args_tuple_iterator_next_1 _)))
  show wpAny _ _ (field (.ref it) 0 >>= _) _ _ s
  refine wpAny_bind (wpAny_field ho hd (x := .ref t) rfl ?_)
  show wpAny _ _ (if (Value.ref t == Value.none) = true then _ else _) _ _ s
  rw [if_neg (show ¬ ((Value.ref t == Value.none) = true) from Bool.false_ne_true)]
  show wpAny _ _ (field (.ref it) 1 >>= _) _ _ s
  refine wpAny_bind (wpAny_field ho hd (x := .int i 0) rfl ?_)
  show wpAny _ _ (seqItems? (.ref t) >>= _) _ _ s
  refine wpAny_bind (wpAny_seqItems hol hdl ?_)
  simp only [Int.toNat_natCast, hx]
  refine wpAny_bind (wpAny_rule (wpAny_bind (wpAny_setField ho hd (by simp) ?_)))
  show wpAny _ _ (newExc (.type "StopIteration") [] >>= _) _ _ _
  refine wpAny_bind ?_
  simp only [newExc, newTuple]
  refine wpAny_bind (wpAny_newObj_type ?_ (by size_fits))
  refine wpAny_bind (m := firstArgMember _ _) (wpAny_of_eq (a := Value.none) (by first | rfl | (simp only [firstArgMember]; rfl)) ?_)
  refine wpAny_newObj_type ?_ (by size_fits)
  simp only [raiseNew]
  refine wpAny_bind (wpAny_handled ?_)
  first | rw [show A.in1.handled = none from hh] | rw [hh]
  refine wpAny_bind (wpAny_pure (wpAny_throw ?_))
  exact hE _ _ (((Heap.SameBut.update ..).extBut.push _).push _) ⟨_, Heap.get?_push_size _ rfl, rfl⟩
theorem drawsT (hh : A.handled = none) (it t : Addr) (hne : t ≠ it) (items : Array Value) :
    Draws prog w A it [it, t] items.size (fun i v => items[i]? = some v) (fun i h => h.IsTupleIter it t i ∧ h.IsTuple t items) where
  live := fun _ _ st => let ⟨o, h, _⟩ := st.1; ⟨o, h⟩
  frame := fun _ _ _ st hk => ⟨st.1.at fun o e => hk it (by simp) o e, st.2.at fun o e => hk t (by simp) o e⟩
  item := fun i s Q E hi st hQ => nextT_item st.1 st.2 (x := items[i]) (by simp [hi]) fun h' hit' hs' => hQ _ h' s.toks (by simp [hi]) ⟨hit', st.2.extBut hs'.extBut hne⟩ hs'
  done := fun s Q E st hE => nextT_end hh st.1 st.2 (by simp) fun h' e he hx => hE h' e he hx

theorem meets_enumT (l : Addr) (items : Array Value) (n : Nat) (dct : Option Addr) (sl : Array (Option Value)) :
    Meets (Builtin.«enumerate.__new__» ⟨[.type "enumerate", .ref l], []⟩) (fun _ R s => s.heap.get? l = some { cls := .type "tuple", dict := dct, data := .seq items n, slots := sl } ∧
      R (.ok (.ret (.ref (s.heap.push { cls := .type "tuple_iterator", data := .fields #[.ref l, .int 0 0] }).objs.size)))
        { s with heap := (s.heap.push { cls := .type "tuple_iterator", data := .fields #[.ref l, .int 0 0] }).push { cls := .type "enumerate", data := .fields #[.none, .bool false, .ref s.heap.objs.size, rawInt 0, .none, .none] } }) :=
  .of_wp fun prog w A R s h => by
    obtain ⟨hp, g, d, tk, os⟩ := s; obtain ⟨hl, h⟩ := h
    have hsub := sub_enumerate
    have hL : Heap.IsTuple (Shared.heap ⟨hp, g, d, tk, os⟩) l items := ⟨_, hl, rfl, n, rfl⟩
    wp_walk using wpAny_loadPart' hl
    refine wpAny_stack_any fun st => wpAny_pure ?_
    split
    · rename_i c _ _ _ _ _
      cases (c == Value.type "enumerate")
      · wp_walk using wpAny_loadPart' hl, wpAny_pyIter_tuple hL
        exact ⟨_, rfl, h⟩
      · wp_walk using wpAny_loadPart' hl, wpAny_pyIter_tuple hL
        exact ⟨_, rfl, h⟩
    · wp_walk using wpAny_loadPart' hl, wpAny_pyIter_tuple hL
      exact ⟨_, rfl, h⟩
end
section
variable {prog : Program} {w : World} {M : Model} {A : Around} {E : Value → Shared → Prop} {D : Dat} {Fs : List Fact} {R R' : List Res} {s : Shared} {env : Env} {K : Frag} {n : Nat}
variable {l : Addr} {vs : List Value} {Q : Value → Shared → Prop}
theorem nexts_enumT {e it : Addr} (hei : e ≠ it) (hle : l ≠ e) (hli : l ≠ it) : Nexts prog w D true e vs.length (EnumR e it l true) (TupF l vs) (fun i v F => ∃ T vals, v = .ref T ∧ (∃ t x, vs.toArray[i]? = some x ∧ vals = #[.int i t, x]) ∧ F = TupF T vals.toList) := by
  have q := Nexts.ofWalksT (D := D) (fun (A : Around) (hh : A.handled = none) => WalksT.enumerateD (prog := prog) (w := w) (drawsT (A := A.in1) hh it l hli vs.toArray) e hei (by simp; exact ⟨hei, Ne.symm hle⟩) (by simp)) (St := EnumR e it l true) (N := TupF l vs) (fun _ => rfl)
    (fun _ _ a b => ⟨a.1, a.2, b⟩) (fun _ _ a => ⟨a.1, a.2.1⟩)
  simpa using q
/-- enumerate(list or tuple) -/
theorem r_enumS (H : At D Fs R s) (hs : IsSeq Fs l vs)
    (h : ∀ I St N s', (∀ ng, Nexts prog w (D.withNg ng) true I vs.length St N (fun i v F => ∃ T vals, v = .ref T ∧ (∃ t x, vs.toArray[i]? = some x ∧ vals = #[.int i t, x]) ∧ F = TupF T vals.toList)) → At D (N :: Fs) (St 0 :: R) s' → Q (.ref I) s') :
    wpAny (model prog w) A (call (.type "enumerate") [.ref l]) Q E s := by
  rcases hs with hs | hs
  · have hl := H.fact hs
    have hlt : l < s.heap.objs.size := by obtain ⟨_, e⟩ := hl; exact Heap.lt_size e
    refine call_enumerate_list (Heap.PlainList.isList hl) fun h' he hit hz hk => h _ (EnumR (s.heap.objs.size + 1) s.heap.objs.size l false) (ListF l vs) _ (fun _ => nexts_enumL (Nat.succ_ne_self _) (Nat.ne_of_lt (Nat.lt_succ_of_lt hlt)) (Nat.ne_of_lt hlt)) ?_
    have H1 := H.own (r := EnumR (s.heap.objs.size + 1) s.heap.objs.size l false 0) (gens' := s.gens) (tk := s.toks) hk H.gens ⟨⟨_, he⟩, hit⟩ (by show [s.heap.objs.size + 1, s.heap.objs.size].Nodup; simp) fun b hb => by
      rcases List.mem_cons.mp hb with rfl | hb
      · exact Nat.le_succ _
      · rw [List.mem_singleton.mp hb]; exact Nat.le_refl _
    exact H1.sub fun F hF => by
      rcases List.mem_cons.mp hF with rfl | hF
      · exact hs
      · exact hF
  · have hl := H.fact hs
    have hlt : l < s.heap.objs.size := by obtain ⟨_, e, _⟩ := hl; exact Heap.lt_size e
    obtain ⟨⟨c, dct, dt, sl⟩, hl, hc, m, hd⟩ := hl
    replace hc : c = .type "tuple" := hc
    replace hd : dt = .seq vs.toArray m := hd
    subst hc hd
    refine callType_new F.called_enumerate (by decide) (F.typeCall_enumerate_1 _) (F.newCall_enumerate_1 _) (fun obj => F.args_object_init_2 obj _) F.entry_enumerate_new
      (meets_enumT l vs.toArray m dct sl) ⟨hl, ?_⟩
    have hz : (s.heap.push { cls := .type "tuple_iterator", data := .fields #[.ref l, .int 0 0] }).objs.size = s.heap.objs.size + 1 := Heap.size_push ..
    have he : IsEnum ((s.heap.push { cls := .type "tuple_iterator", data := .fields #[.ref l, .int 0 0] }).push
        { cls := .type "enumerate", data := .fields #[.none, .bool false, .ref s.heap.objs.size, rawInt 0, .none, .none] }) (s.heap.objs.size + 1) s.heap.objs.size 0 .none := by
      have := Heap.get?_push_size (s.heap.push { cls := .type "tuple_iterator", data := .fields #[.ref l, .int 0 0] })
        (o := { cls := .type "enumerate", data := .fields #[.none, .bool false, .ref s.heap.objs.size, rawInt 0, .none, .none] }) rfl
      rw [hz] at this; exact this
    show _ ∧ _
    rw [hz]
    refine ⟨⟨_, he, rfl⟩, h _ (EnumR (s.heap.objs.size + 1) s.heap.objs.size l true) (TupF l vs) _ (fun _ => nexts_enumT (Nat.succ_ne_self _) (Nat.ne_of_lt (Nat.lt_succ_of_lt hlt)) (Nat.ne_of_lt hlt)) ?_⟩
    have H1 := H.own (r := EnumR (s.heap.objs.size + 1) s.heap.objs.size l true 0) (gens' := s.gens) (tk := s.toks) ((Ext.push _ _).trans (Ext.push _ _)) H.gens ⟨⟨_, he⟩, ⟨_, Heap.get?_push_of_some _ (Heap.get?_push_size _ rfl), rfl, rfl⟩⟩ (by show [s.heap.objs.size + 1, s.heap.objs.size].Nodup; simp) fun b hb => by
      rcases List.mem_cons.mp hb with rfl | hb
      · exact Nat.le_succ _
      · rw [List.mem_singleton.mp hb]; exact Nat.le_refl _
    exact H1.sub fun F hF => by
      rcases List.mem_cons.mp hF with rfl | hF
      · exact hs
      · exact hF
theorem r_iterN {pair : Bool} {I : Addr} {St : Nat → Res} {N : Fact} {V : Nat → Value → Fact → Prop} {i : Nat} (hN : Nexts prog w D pair I n St N V) (H : At D Fs R s) (hh : A.handled = none) (hm : N ∈ Fs) (hr : St i ∈ R) (h : Q (.ref I) s) :
    wpAny (model prog w) A (pyIter (.ref I)) Q E s := hN.self hh H hm hr h
end
end Mine

set_option maxRecDepth 100000
namespace Mine
open AutoSeq1 (wpAny_loadPart')

def ZipR (z TI TO i1 i2 l1 l2 : Addr) (k : Nat) : Res :=
  ⟨[z, TO, i1, i2], fun h => IsZip h z TI TO .none ∧ (∃ a b, IsPair h TO a b) ∧ h.IsTupleIter i1 l1 k ∧ h.IsTupleIter i2 l2 k,
    fun k ⟨a, ⟨x, y, b⟩, c, d⟩ => ⟨k z (by simp) _ a, ⟨x, y, k TO (by simp) _ b⟩, c.at fun o e => k i1 (by simp) o e, d.at fun o e => k i2 (by simp) o e⟩,
    fun ⟨a, ⟨x, y, b⟩, ⟨o1, c, _⟩, ⟨o2, d, _⟩⟩ q hq => by
      simp only [List.mem_cons, List.not_mem_nil, or_false] at hq
      rcases hq with rfl | rfl | rfl | rfl
      · exact Heap.lt_size a
      · exact Heap.lt_size b
      · exact Heap.lt_size c
      · exact Heap.lt_size d⟩
def ZipN (TI i1 i2 l1 l2 : Addr) (xs ys : List Value) : Fact := ⟨fun h => IsPair h TI (.ref i1) (.ref i2) ∧ h.IsTuple l1 xs.toArray ∧ h.IsTuple l2 ys.toArray, fun k ⟨a, b, c⟩ => ⟨k _ _ a, IsTuple.ext k b, IsTuple.ext k c⟩⟩

section
variable {prog : Program} {w : World} {A : Around} {E : Value → Shared → Prop} {s : Shared} {z TI TO i1 i2 l1 l2 : Addr}
theorem zipT_item {k : Nat} {xs ys : Array Value} {x y a b : Value} {Q : Value → Shared → Prop} (D : ZipApart z TI TO i1 i2 l1 l2)
    (hz : IsZip s.heap z TI TO .none) (hTI : IsPair s.heap TI (.ref i1) (.ref i2)) (hTO : IsPair s.heap TO a b)
    (h1 : s.heap.IsTupleIter i1 l1 k) (h2 : s.heap.IsTupleIter i2 l2 k) (hl1 : s.heap.IsTuple l1 xs) (hl2 : s.heap.IsTuple l2 ys) (hx : xs[k]? = some x) (hy : ys[k]? = some y)
    (hQ : ∀ h', IsZip h' z TI TO (rawInt s.heap.objs.size) → IsPair h' TO x y → h'.IsTupleIter i1 l1 (k + 1) → h'.IsTupleIter i2 l2 (k + 1) → IsPair h' s.heap.objs.size x y →
      (∀ c o, c ≠ z → c ≠ TO → c ≠ i1 → c ≠ i2 → s.heap.get? c = some o → h'.get? c = some o) → Q (.ref s.heap.objs.size) { s with heap := h' }) :
    wpAny (model prog w) A (Builtin.«zip.__next__» ⟨[.ref z], []⟩) (fun fin s' => ∃ v, fin = .done (.ret v) ∧ Q v s') E s := by
  show wpAny _ _ (field (.ref z) 2 >>= _) _ _ _
  refine wpAny_bind (wpAny_field hz rfl (x := .bool false) rfl ?_)
  show wpAny _ _ (field (.ref z) 3 >>= _) _ _ _
  refine wpAny_bind (wpAny_field hz rfl (x := .ref TI) rfl ?_)
  refine wpAny_bind (wpAny_seqItems hTI rfl ?_)
  show wpAny _ _ (Builtin.SmallTypes.ownedTupleIsFree (.ref z) >>= _) _ _ _
  refine wpAny_bind ?_
  unfold Builtin.SmallTypes.ownedTupleIsFree
  refine wpAny_bind (wpAny_field hz rfl (x := .none) rfl (wpAny_pure ?_))
  simp only [if_true]
  refine wpAny_bind (wpAny_rule ?_)
  refine wpAny_bind (wpAny_field hz rfl (x := .ref TO) rfl ?_)
  refine wpAny_bind (wpAny_setField_rec hz (by simp) fun h₁ hz₁ hs₁ => ?_)
  replace hz₁ : IsZip h₁ z TI TO .ellipsis := hz₁
  refine wpAny_bind ?_
  simp only [List.zipIdx_cons, List.zipIdx_nil, List.forIn_cons, List.forIn_nil]
  refine wpAny_bind (wpAny_bind (wpAny_onRaise ?_))
  show wpAny _ _ (Builtin.SmallTypes.nextOf (.ref i1) >>= _) _ _ _
  refine wpAny_bind (nextT_item (h1.extBut hs₁.extBut D.i1z) (hl1.extBut hs₁.extBut D.l1z) hx fun h₂ h1₂ hs₂ => wpAny_pure ?_)
  have hTO₂ : IsPair h₂ TO a b := hs₂.extBut _ _ D.TOi1 (hs₁.extBut _ _ D.TOz hTO)
  refine wpAny_bind (wpAny_seqItems hTO₂ rfl ?_)
  refine wpAny_bind (wpAny_updateSeq_pair hTO₂ fun h₃ hTO₃ hs₃ => ?_)
  replace hTO₃ : IsPair h₃ TO x b := hTO₃
  refine wpAny_bind (wpAny_letGo (wpAny_pure ?_))
  refine wpAny_bind (wpAny_bind (wpAny_onRaise ?_))
  show wpAny _ _ (Builtin.SmallTypes.nextOf (.ref i2) >>= _) _ _ _
  refine wpAny_bind (nextT_item (((h2.extBut hs₁.extBut D.i2z).extBut hs₂.extBut D.i12.symm).extBut hs₃.extBut D.TOi2.symm)
    (((hl2.extBut hs₁.extBut D.l2z).extBut hs₂.extBut D.l2i1).extBut hs₃.extBut D.l2TO) hy fun h₄ h2₄ hs₄ => wpAny_pure ?_)
  have hTO₄ : IsPair h₄ TO x b := hs₄.extBut _ _ D.TOi2 hTO₃
  refine wpAny_bind (wpAny_seqItems hTO₄ rfl ?_)
  refine wpAny_bind (wpAny_updateSeq_pair hTO₄ fun h₅ hTO₅ hs₅ => ?_)
  replace hTO₅ : IsPair h₅ TO x y := hTO₅
  refine wpAny_bind (wpAny_letGo (wpAny_pure (wpAny_pure ?_)))
  refine wpAny_bind (wpAny_seqItems hTO₅ rfl ?_)
  refine wpAny_bind (wpAny_newTuple ?_)
  have hsz : h₅.objs.size = s.heap.objs.size := by rw [hs₅.1, hs₄.1, hs₃.1, hs₂.1, hs₁.1]
  have hz₅ : IsZip h₅ z TI TO .ellipsis := hs₅.extBut _ _ D.TOz.symm (hs₄.extBut _ _ D.i2z.symm (hs₃.extBut _ _ D.TOz.symm (hs₂.extBut _ _ D.i1z.symm hz₁)))
  have hk₅ : ∀ c o, c ≠ z → c ≠ TO → c ≠ i1 → c ≠ i2 → s.heap.get? c = some o → h₅.get? c = some o := fun c o c1 c2 c3 c4 e =>
    hs₅.extBut _ _ c2 (hs₄.extBut _ _ c4 (hs₃.extBut _ _ c2 (hs₂.extBut _ _ c3 (hs₁.extBut _ _ c1 e))))
  have h1₅ : h₅.IsTupleIter i1 l1 (k + 1) := ((h1₂.extBut hs₃.extBut D.TOi1.symm).extBut hs₄.extBut D.i12).extBut hs₅.extBut D.TOi1.symm
  have h2₅ : h₅.IsTupleIter i2 l2 (k + 1) := h2₄.extBut hs₅.extBut D.TOi2.symm
  have hzlt : z < h₅.objs.size := Heap.lt_size hz₅
  show wpAny _ _ (Builtin.SmallTypes.ownedTupleHandOut (.ref z) (.ref h₅.objs.size) >>= _) _ _ _
  refine wpAny_bind ?_
  unfold Builtin.SmallTypes.ownedTupleHandOut
  have hz₆ : IsZip (h₅.push { cls := .type "tuple", data := .seq #[x, y] }) z TI TO .ellipsis := Heap.get?_push_of_some _ hz₅
  refine wpAny_bind (wpAny_setField_rec hz₆ (by simp) fun h₇ hz₇ hs₇ => ?_)
  replace hz₇ : IsZip h₇ z TI TO (rawInt h₅.objs.size) := hz₇
  refine wpAny_setField_rec hz₇ (by simp) fun h₈ hz₈ hs₈ => ?_
  replace hz₈ : IsZip h₈ z TI TO (rawInt h₅.objs.size) := hz₈
  have up : ∀ c o, c ≠ z → h₅.get? c = some o → h₈.get? c = some o := fun c o c1 e => hs₈.extBut _ _ c1 (hs₇.extBut _ _ c1 (Heap.get?_push_of_some _ e))
  have hT₈ : IsPair h₈ h₅.objs.size x y := hs₈.extBut _ _ (Nat.ne_of_gt hzlt) (hs₇.extBut _ _ (Nat.ne_of_gt hzlt) (Heap.get?_push_size _ rfl))
  rw [hsz] at hz₈ hT₈
  refine wpAny_pure ⟨_, rfl, ?_⟩
  show Q (.ref h₅.objs.size) _
  rw [hsz]
  exact hQ h₈ hz₈ (up _ _ D.TOz hTO₅) (h1₅.at fun o e => up _ o D.i1z e) (h2₅.at fun o e => up _ o D.i2z e) hT₈ fun c o c1 c2 c3 c4 e => up c o c1 (hk₅ c o c1 c2 c3 c4 e)
theorem zipT_end {k : Nat} {xs : Array Value} {a b : Value} {Q : Fin → Shared → Prop} (hh : A.handled = none) (D : ZipApart z TI TO i1 i2 l1 l2)
    (hz : IsZip s.heap z TI TO .none) (hTI : IsPair s.heap TI (.ref i1) (.ref i2)) (hTO : IsPair s.heap TO a b)
    (h1 : s.heap.IsTupleIter i1 l1 k) (hl1 : s.heap.IsTuple l1 xs) (hend : xs[k]? = none)
    (hE : ∀ h' e, (∀ c o, c ≠ z → c ≠ TO → c ≠ i1 → c ≠ i2 → s.heap.get? c = some o → h'.get? c = some o) → (∃ o, h'.get? e = some o ∧ o.cls = .type "StopIteration") → E (.ref e) { s with heap := h' }) :
    wpAny (model prog w) A (Builtin.«zip.__next__» ⟨[.ref z], []⟩) Q E s := by
  show wpAny _ _ (field (.ref z) 2 >>= _) _ _ _
  refine wpAny_bind (wpAny_field hz rfl (x := .bool false) rfl ?_)
  show wpAny _ _ (field (.ref z) 3 >>= _) _ _ _
  refine wpAny_bind (wpAny_field hz rfl (x := .ref TI) rfl ?_)
  refine wpAny_bind (wpAny_seqItems hTI rfl ?_)
  show wpAny _ _ (Builtin.SmallTypes.ownedTupleIsFree (.ref z) >>= _) _ _ _
  refine wpAny_bind ?_
  unfold Builtin.SmallTypes.ownedTupleIsFree
  refine wpAny_bind (wpAny_field hz rfl (x := .none) rfl (wpAny_pure ?_))
  simp only [if_true]
  refine wpAny_bind (wpAny_rule ?_)
  refine wpAny_bind (wpAny_field hz rfl (x := .ref TO) rfl ?_)
  refine wpAny_bind (wpAny_setField_rec hz (by simp) fun h₁ hz₁ hs₁ => ?_)
  replace hz₁ : IsZip h₁ z TI TO .ellipsis := hz₁
  refine wpAny_bind ?_
  simp only [List.zipIdx_cons, List.zipIdx_nil, List.forIn_cons, List.forIn_nil]
  refine wpAny_bind (wpAny_bind (wpAny_onRaise ?_))
  show wpAny _ _ (Builtin.SmallTypes.nextOf (.ref i1) >>= _) _ _ _
  refine wpAny_bind (nextT_end hh (h1.extBut hs₁.extBut D.i1z) (hl1.extBut hs₁.extBut D.l1z) hend fun h₂ e hs₂ he => ?_)
  obtain ⟨oe, hoe, hce⟩ := he
  have hz₂ : IsZip h₂ z TI TO .ellipsis := hs₂ _ _ D.i1z.symm hz₁
  have hez : e ≠ z := fun x => by subst x; rw [hz₂] at hoe; cases hoe; simp at hce
  exact wpAny_setField_rec hz₂ (by simp) fun h₃ _ hs₃ => hE h₃ e (fun c o c1 _ c3 _ x => hs₃.extBut _ _ c1 (hs₂ _ _ c3 (hs₁.extBut _ _ c1 x))) ⟨oe, hs₃.extBut _ _ hez hoe, hce⟩

theorem meets_zipT (l1 l2 : Addr) (xs ys : Array Value) :
    Meets (Builtin.«zip.__new__» ⟨[.type "zip", .ref l1, .ref l2], []⟩) (fun _ R s => s.heap.IsTuple l1 xs ∧ s.heap.IsTuple l2 ys ∧
      R (.ok (.ret (.ref (s.heap.objs.size + 4))))
        { s with heap := ((((s.heap.push { cls := .type "tuple_iterator", data := .fields #[.ref l1, .int 0 0] }).push { cls := .type "tuple_iterator", data := .fields #[.ref l2, .int 0 0] }).push { cls := .type "tuple", data := .seq #[.ref s.heap.objs.size, .ref (s.heap.objs.size + 1)] }).push { cls := .type "tuple", data := .seq #[.none, .none] }).push { cls := .type "zip", data := .fields #[.none, .bool false, .bool false, .ref (s.heap.objs.size + 2), .ref (s.heap.objs.size + 3)] } }) :=
  .of_wp fun prog w A R s h => by
    obtain ⟨hp, g, d, tk, os⟩ := s; obtain ⟨hl1, hl2, h⟩ := h
    have hsub := sub_zip
    have hL1 : Heap.IsTuple (Shared.heap ⟨hp, g, d, tk, os⟩) l1 xs := hl1
    have hL2 : Heap.IsTuple (Shared.heap ⟨hp.push { cls := .type "tuple_iterator", data := .fields #[.ref l1, .int 0 0] }, g, d, tk, os⟩) l2 ys := Heap.IsTuple.push hl2 _
    wp_walk using wpAny_pyIter_tuple hL1, wpAny_pyIter_tuple hL2
    refine ⟨_, rfl, ?_⟩
    simp only [Heap.size_push] at h ⊢
    exact h
end
section
variable {prog : Program} {w : World} {M : Model} {A : Around} {E : Value → Shared → Prop} {D : Dat} {Fs : List Fact} {R R' : List Res} {s : Shared} {env : Env} {K : Frag} {n : Nat}
variable {l1 l2 : Addr} {xs ys : List Value} {Q : Value → Shared → Prop}
theorem nexts_zip {z TI TO i1 i2 : Addr} (Z : ZipApart z TI TO i1 i2 l1 l2) (hlen : xs.length = ys.length) :
    Nexts prog w D true z xs.length (ZipR z TI TO i1 i2 l1 l2) (ZipN TI i1 i2 l1 l2 xs ys) (fun i v F => ∃ T x y, v = .ref T ∧ xs[i]? = some x ∧ ys[i]? = some y ∧ F = TupF T [x, y]) where
  item := by
    rintro target A E Fs R R' s i Q ⟨elts, k, pos, rfl⟩ hh hi H hN hp h
    obtain ⟨hz, ⟨a, b, hTO⟩, h1, h2⟩ := H.res _ hp.mem
    obtain ⟨hTI, hl1, hl2⟩ := H.fact hN
    have hT : s.TypeIs (.ref z) "zip" := ⟨_, hz, rfl⟩
    have hi2 : i < ys.length := hlen ▸ hi
    unfold pyNext
    refine wpAny_bind (wpAny_attempt (wpAny_callSpecial?_slot (name := Str.ofString "__next__") hT F.slot_zip_next
      (wpAny_call_entry F.slot_zip_next hT F.entry_zip_next
        (zipT_item (x := xs[i]) (y := ys[i]) Z hz hTI hTO h1 h2 hl1 hl2 (by simp [hi]) (by simp [hi2]) fun h' a1 a2 a3 a4 a5 a7 => wpAny_pure ⟨_, rfl, ?_⟩) (F.args_zip_next_1 _))))
    have hfp : ∀ j, (ZipR z TI TO i1 i2 l1 l2 j).fp = [z, TO, i1, i2] := fun _ => rfl
    refine wpAny_letOwnedTupleGo_zip a1 fun h'' hz' hs' => ?_
    have keep : ∀ c o, c ∉ [z, TO, i1, i2] → s.heap.get? c = some o → h''.get? c = some o := fun c o nc e => by
      simp only [List.mem_cons, List.not_mem_nil, or_false, not_or] at nc
      exact hs'.extBut _ _ nc.1 (a7 c o nc.1 nc.2.1 nc.2.2.1 nc.2.2.2 e)
    have st : (ZipR z TI TO i1 i2 l1 l2 (i + 1)).holds h'' := ⟨hz', ⟨_, _, hs'.extBut _ _ Z.TOz a2⟩, a3.extBut hs'.extBut Z.i1z, a4.extBut hs'.extBut Z.i2z⟩
    have H1 := H.upd (h' := h'') (gens' := s.gens) (tk := s.toks) hp rfl (fun c o nb e => keep c o nb e) st H.gens
    have ltz : ∀ {c o}, s.heap.get? c = some o → s.heap.objs.size ≠ c := fun e => Nat.ne_of_gt (Heap.lt_size e)
    refine h _ (TupF s.heap.objs.size [xs[i], ys[i]]) _ ⟨_, _, _, rfl, by simp [hi], by simp [hi2], rfl⟩ ⟨H1.os, H1.gens, H1.tab, H1.cs, H1.nodup, H1.res, H1.base, fun F hF => ?_⟩
    rcases List.mem_cons.mp hF with rfl | hF
    · refine ⟨_, hideAll_get _ (hs'.extBut _ _ (ltz hz) a5) fun hm => ?_, rfl, _, rfl⟩
      have := H.lt s.heap.objs.size (by have efp := hp.fps_eq rfl; rw [efp] at hm; exact hm)
      exact Nat.lt_irrefl _ this
    · exact H1.facts F hF
  done := by
    intro A E Fs R R' s Q hh H hN hp h
    obtain ⟨hz, ⟨a, b, hTO⟩, h1, h2⟩ := H.res _ (hp.perm.mem_iff.mpr (.head _))
    obtain ⟨hTI, hl1, hl2⟩ := H.fact hN
    have hT : s.TypeIs (.ref z) "zip" := ⟨_, hz, rfl⟩
    unfold pyNext
    refine wpAny_bind (wpAny_attempt (wpAny_callSpecial?_slot (name := Str.ofString "__next__") hT F.slot_zip_next
      (wpAny_call_entry F.slot_zip_next hT F.entry_zip_next (zipT_end hh Z hz hTI hTO h1 hl1 (by simp) fun h' e hk he => ?_) (F.args_zip_next_1 _))))
    obtain ⟨o, ho, hc⟩ := he
    refine wpAny_bind (wpAny_isInstance (T := "StopIteration") (b := true) ⟨o, ho, hc⟩ isSubtype_stop ?_)
    refine wpAny_pure (h _ (H.updDrop (gens' := s.gens) (tk := s.toks) hp (fun c o nc e => ?_) H.gens))
    have nc' : c ∉ [z, TO, i1, i2] := nc
    simp only [List.mem_cons, List.not_mem_nil, or_false, not_or] at nc'
    exact hk c o nc'.1 nc'.2.1 nc'.2.2.1 nc'.2.2.2 e
  self := by
    intro A E Fs R s i Q hh H hN hm h
    obtain ⟨hz, _⟩ := H.res _ hm
    exact wpAny_pyIter_zip hz h
/-- zip(tuple, tuple) -/
theorem r_zip (H : At D Fs R s) (h1 : TupF l1 xs ∈ Fs) (h2 : TupF l2 ys ∈ Fs) (hlen : xs.length = ys.length)
    (h : ∀ I St N s', (∀ ng, Nexts prog w (D.withNg ng) true I xs.length St N (fun i v F => ∃ T x y, v = .ref T ∧ xs[i]? = some x ∧ ys[i]? = some y ∧ F = TupF T [x, y])) → At D (N :: Fs) (St 0 :: R) s' → Q (.ref I) s') :
    wpAny (model prog w) A (call (.type "zip") [.ref l1, .ref l2]) Q E s := by
  have t1 := H.fact h1
  have t2 := H.fact h2
  have lt1 : l1 < s.heap.objs.size := by obtain ⟨_, e, _⟩ := t1; exact Heap.lt_size e
  have lt2 : l2 < s.heap.objs.size := by obtain ⟨_, e, _⟩ := t2; exact Heap.lt_size e
  refine callType_new F.called_zip (by decide) (F.typeCall_zip_2 _ _) (F.newCall_zip_2 _ _) (fun obj => F.args_object_init_3 obj _ _) F.entry_zip_new
    (meets_zipT l1 l2 xs.toArray ys.toArray) ⟨t1, t2, ?_⟩
  generalize hh5 : ((((s.heap.push { cls := .type "tuple_iterator", data := .fields #[.ref l1, .int 0 0] }).push { cls := .type "tuple_iterator", data := .fields #[.ref l2, .int 0 0] }).push { cls := .type "tuple", data := .seq #[.ref s.heap.objs.size, .ref (s.heap.objs.size + 1)] }).push { cls := .type "tuple", data := .seq #[.none, .none] }).push { cls := .type "zip", data := .fields #[.none, .bool false, .bool false, .ref (s.heap.objs.size + 2), .ref (s.heap.objs.size + 3)] } = h5
  have ext : Ext s.heap h5 := hh5 ▸ (Ext.push _ _).trans ((Ext.push _ _).trans ((Ext.push _ _).trans ((Ext.push _ _).trans (Ext.push _ _))))
  have g1 : h5.get? s.heap.objs.size = some { cls := .type "tuple_iterator", data := .fields #[.ref l1, .int 0 0] } := hh5 ▸ Heap.get?_push_of_some _ (Heap.get?_push_of_some _ (Heap.get?_push_of_some _ (Heap.get?_push_of_some _ (Heap.get?_push_size _ rfl))))
  have g2 : h5.get? (s.heap.objs.size + 1) = some { cls := .type "tuple_iterator", data := .fields #[.ref l2, .int 0 0] } := by
    have q := Heap.get?_push_size (s.heap.push { cls := .type "tuple_iterator", data := .fields #[.ref l1, .int 0 0] }) (o := { cls := .type "tuple_iterator", data := .fields #[.ref l2, .int 0 0] }) rfl
    rw [Heap.size_push] at q
    exact hh5 ▸ Heap.get?_push_of_some _ (Heap.get?_push_of_some _ (Heap.get?_push_of_some _ q))
  have g3 : h5.get? (s.heap.objs.size + 2) = some { cls := .type "tuple", data := .seq #[.ref s.heap.objs.size, .ref (s.heap.objs.size + 1)] } := by
    have q := Heap.get?_push_size ((s.heap.push { cls := .type "tuple_iterator", data := .fields #[.ref l1, .int 0 0] }).push { cls := .type "tuple_iterator", data := .fields #[.ref l2, .int 0 0] }) (o := { cls := .type "tuple", data := .seq #[.ref s.heap.objs.size, .ref (s.heap.objs.size + 1)] }) rfl
    rw [Heap.size_push, Heap.size_push] at q
    exact hh5 ▸ Heap.get?_push_of_some _ (Heap.get?_push_of_some _ q)
  have g4 : h5.get? (s.heap.objs.size + 3) = some { cls := .type "tuple", data := .seq #[.none, .none] } := by
    have q := Heap.get?_push_size (((s.heap.push { cls := .type "tuple_iterator", data := .fields #[.ref l1, .int 0 0] }).push { cls := .type "tuple_iterator", data := .fields #[.ref l2, .int 0 0] }).push { cls := .type "tuple", data := .seq #[.ref s.heap.objs.size, .ref (s.heap.objs.size + 1)] }) (o := { cls := .type "tuple", data := .seq #[.none, .none] }) rfl
    rw [Heap.size_push, Heap.size_push, Heap.size_push] at q
    exact hh5 ▸ Heap.get?_push_of_some _ q
  have g5 : h5.get? (s.heap.objs.size + 4) = some { cls := .type "zip", data := .fields #[.none, .bool false, .bool false, .ref (s.heap.objs.size + 2), .ref (s.heap.objs.size + 3)] } := by
    have q := Heap.get?_push_size ((((s.heap.push { cls := .type "tuple_iterator", data := .fields #[.ref l1, .int 0 0] }).push { cls := .type "tuple_iterator", data := .fields #[.ref l2, .int 0 0] }).push { cls := .type "tuple", data := .seq #[.ref s.heap.objs.size, .ref (s.heap.objs.size + 1)] }).push { cls := .type "tuple", data := .seq #[.none, .none] })
      (o := { cls := .type "zip", data := .fields #[.none, .bool false, .bool false, .ref (s.heap.objs.size + 2), .ref (s.heap.objs.size + 3)] }) rfl
    rw [Heap.size_push, Heap.size_push, Heap.size_push, Heap.size_push] at q
    exact hh5 ▸ q
  refine ⟨⟨_, g5, rfl⟩, ?_⟩
  generalize hm : (s.heap.objs.size : Nat) = m at *
  replace lt1 : @LT.lt Nat _ l1 m := lt1
  replace lt2 : @LT.lt Nat _ l2 m := lt2
  have Z : ZipApart (m + 4) (m + 2) (m + 3) m (m + 1) l1 l2 := by
    constructor <;> first | exact Nat.ne_of_lt (by omega) | exact Nat.ne_of_gt (by omega)
  refine h (m + 4) (ZipR (m + 4) (m + 2) (m + 3) m (m + 1) l1 l2) (ZipN (m + 2) m (m + 1) l1 l2 xs ys) _ (fun _ => nexts_zip Z hlen) ?_
  have nd : [m + 4, m + 3, m, m + 1].Nodup := by simp
  have H1 := H.own (r := ZipR (m + 4) (m + 2) (m + 3) m (m + 1) l1 l2 0) (gens' := s.gens) (tk := s.toks) ext H.gens ⟨g5, ⟨_, _, g4⟩, ⟨_, g1, rfl, rfl⟩, ⟨_, g2, rfl, rfl⟩⟩ nd fun b hb => by
    have hb' : b ∈ [m + 4, m + 3, m, m + 1] := hb
    simp only [List.mem_cons, List.not_mem_nil, or_false] at hb'
    rw [hm]
    rcases hb' with rfl | rfl | rfl | rfl <;> first | exact Nat.le_refl _ | exact Nat.le_add_right _ _
  refine ⟨H1.os, H1.gens, H1.tab, H1.cs, H1.nodup, H1.res, H1.base, fun F hF => ?_⟩
  rcases List.mem_cons.mp hF with rfl | hF
  · refine ⟨hideAll_get _ g3 fun hmm => ?_, H1.facts _ h1, H1.facts _ h2⟩
    rcases List.mem_append.mp hmm with q | q
    · have := H.lt _ (List.mem_append_left _ q); rw [hm] at this; exact absurd this (Nat.not_lt.mpr (Nat.le_add_right _ _))
    · rcases List.mem_append.mp (show _ ∈ [m + 4, m + 3, m, m + 1] ++ fps R from q) with q | q
      · simp at q
      · have := H.lt _ (List.mem_append_right _ q); rw [hm] at this; exact absurd this (Nat.not_lt.mpr (Nat.le_add_right _ _))
  · exact H1.facts F hF

theorem r_methR {name : Str} {pl : Sem Bool} {f y C dx : Addr} {m : Str → Option Value} {ns : List Str} {Q : Value × List Value → Shared → Prop} (W : Wd K D) (H : At D Fs R s) (hx : Cell y (instObj C dx) ∈ Fs) (hm : DRes dx m ns ∈ R) (hg : plainGet K C name = true) (hf : findIn K (.ref C) name = some (some (.ref f))) (ht : isFn K (.ref f) = true)
    (hl : m name = none) (h : Q (.ref f, [.ref y]) s) : wpAny (model prog w) A (getMethod (.ref y) name pl) Q E s := by
  obtain ⟨ox, od, I, hlk⟩ := Inst.at ⟨dx, H.fact hx, (H.res _ hm).1.ns⟩
  exact method_fn (At.kin W H) I (plainGet_of hg).1 (plainGet_of hg).2 hf (beq_iff_eq.mp ht) (by show (lookIn name od).map _ = _; rw [hlk, hl]; rfl) h
theorem At.mkPln {dx x C CQ : Addr} {p : Int} {m : Str → Option Value} {nm : List Str} {ns ms : List Int} {tC tM : Addr} {vs us : List Value} (H : At D Fs R s) (hx : Cell x (instObj C dx) ∈ Fs) (hr : Rm (DRes dx m nm) R R')
    (h1 : TupF tC vs ∈ Fs) (h2 : FQsF CQ p vs ns ∈ Fs) (h3 : TupF tM us ∈ Fs) (h4 : IntsAre us ms)
    (a1 : ∃ t, m "field_modulus" = some (.int p t)) (a2 : m "coeffs" = some (.ref tC)) (a3 : m "modulus_coeffs" = some (.ref tM)) (a4 : ∃ t, m "degree" = some (.int ms.length t))
    (a5 : ∀ z : Str, z ≠ "field_modulus" → z ≠ "coeffs" → z ≠ "modulus_coeffs" → z ≠ "degree" → m z = none) : At D (PlnF CQ C x p ns ms :: Fs) R' s := by
  have H1 := H.fzD hx hr
  refine ⟨H1.os, H1.gens, H1.tab, H1.cs, H1.nodup, H1.res, H1.base, fun F hF => ?_⟩
  rcases List.mem_cons.mp hF with rfl | hF
  · exact ⟨m, H1.facts _ (.head _), a1, ⟨tC, vs, a2, H1.facts _ (.tail _ h1), H1.facts _ (.tail _ h2)⟩, ⟨tM, us, a3, H1.facts _ (.tail _ h3), h4⟩, a4, a5⟩
  · exact H1.facts F (.tail _ hF)
theorem At.mkOpt {dx x C : Addr} {p : Int} {m : Str → Option Value} {nm : List Str} {ns ms : List Int} {tC tM lw : Addr} {vs us ws : List Value} (H : At D Fs R s) (hx : Cell x (instObj C dx) ∈ Fs) (hr : Rm (DRes dx m nm) R R')
    (h1 : TupF tC vs ∈ Fs) (h2 : IntsAre vs ns) (h3 : TupF tM us ∈ Fs) (h4 : IntsAre us ms) (h5 : ListF lw ws ∈ Fs) (h6 : PrsF ws (mcFrom 0 ms) ∈ Fs)
    (a1 : ∃ t, m "field_modulus" = some (.int p t)) (a2 : m "coeffs" = some (.ref tC)) (a3 : m "modulus_coeffs" = some (.ref tM)) (a4 : ∃ t, m "degree" = some (.int ms.length t)) (a6 : m "mc_tuples" = some (.ref lw))
    (a5 : ∀ z : Str, z ≠ "field_modulus" → z ≠ "coeffs" → z ≠ "modulus_coeffs" → z ≠ "degree" → z ≠ "mc_tuples" → m z = none) : At D (OptF C x p ns ms :: Fs) R' s := by
  have H1 := H.fzD hx hr
  refine ⟨H1.os, H1.gens, H1.tab, H1.cs, H1.nodup, H1.res, H1.base, fun F hF => ?_⟩
  rcases List.mem_cons.mp hF with rfl | hF
  · exact ⟨m, H1.facts _ (.head _), a1, ⟨tC, vs, a2, H1.facts _ (.tail _ h1), h2⟩, ⟨tM, us, a3, H1.facts _ (.tail _ h3), h4⟩, a4, ⟨lw, ws, a6, H1.facts _ (.tail _ h5), H1.facts _ (.tail _ h6)⟩, a5⟩
  · exact H1.facts F (.tail _ hF)
/-- one more field element at the end -/
theorem At.fqSnoc {C : Addr} {p : Int} {vs : List Value} {ns : List Int} {a : Addr} {n : Int} (H : At D Fs R s) (h1 : FQsF C p vs ns ∈ Fs) (h2 : FQF C a p n ∈ Fs) : At D (FQsF C p (vs ++ [.ref a]) (ns ++ [n]) :: Fs) R s :=
  ⟨H.os, H.gens, H.tab, H.cs, H.nodup, H.res, H.base, fun F hF => by
    rcases List.mem_cons.mp hF with rfl | hF
    · exact FQs.append (H.facts _ h1) (.cons (H.facts _ h2) .nil)
    · exact H.facts F hF⟩
theorem At.fqNil {C : Addr} {p : Int} (H : At D Fs R s) : At D (FQsF C p [] [] :: Fs) R s :=
  ⟨H.os, H.gens, H.tab, H.cs, H.nodup, H.res, H.base, fun F hF => by
    rcases List.mem_cons.mp hF with rfl | hF
    · exact FQs.nil
    · exact H.facts F hF⟩
theorem At.pick {C : Addr} {p : Int} {vs : List Value} {ns : List Int} {i : Nat} {v : Value} (H : At D Fs R s) (h : ScsF C p vs ns ∈ Fs) (hv : vs[i]? = some v) : ∃ n, ns[i]? = some n ∧ At D (SchF C p v n :: Fs) R s := by
  obtain ⟨n, hn, _⟩ := (H.facts _ h : Scs C p _ vs ns).at i v hv
  refine ⟨n, hn, H.os, H.gens, H.tab, H.cs, H.nodup, H.res, H.base, fun F hF => ?_⟩
  rcases List.mem_cons.mp hF with rfl | hF
  · obtain ⟨n', hn', q⟩ := (H.facts _ h : Scs C p _ vs ns).at i v hv
    rw [hn] at hn'; cases hn'; exact q
  · exact H.facts F hF
theorem At.pickQ {C : Addr} {p : Int} {vs : List Value} {ns : List Int} {i : Nat} {v : Value} (H : At D Fs R s) (h : FQsF C p vs ns ∈ Fs) (hv : vs[i]? = some v) : ∃ a n, v = .ref a ∧ ns[i]? = some n ∧ At D (FQF C a p n :: Fs) R s := by
  obtain ⟨a, n, e, hn, _⟩ := (H.facts _ h : FQs C p _ vs ns).at i v hv
  refine ⟨a, n, e, hn, H.os, H.gens, H.tab, H.cs, H.nodup, H.res, H.base, fun F hF => ?_⟩
  rcases List.mem_cons.mp hF with rfl | hF
  · obtain ⟨a', n', e', hn', q⟩ := (H.facts _ h : FQs C p _ vs ns).at i v hv
    rw [e] at e'; cases e'
    rw [hn] at hn'; cases hn'; exact q
  · exact H.facts F hF
theorem At.fqStart {C : Addr} {p : Int} {acc : List Value} {ns : List Int} {i : Nat} {F0 : Fact} (H : At D (F0 :: ((if i = 0 then [] else [FQsF C p acc (ns.take i)]) ++ Fs)) R s) (hl : acc.length = i) : At D (FQsF C p acc (ns.take i) :: Fs) R s := by
  by_cases i0 : i = 0
  · subst i0
    rw [List.length_eq_zero_iff.mp hl, List.take_zero]
    exact H.fqNil.sub (subf_cons (.head _) (fun F hF => .tail _ (.tail _ (List.mem_append_right _ hF))))
  · rw [if_neg i0] at H
    exact H.sub fun F hF => .tail _ hF
theorem take_snoc {α : Type} {l : List α} {i : Nat} {x : α} (h : l[i]? = some x) : l.take i ++ [x] = l.take (i + 1) := by
  rw [List.take_add_one, h]; rfl
theorem At.fqNext {C : Addr} {p : Int} {acc : List Value} {ns : List Int} {i : Nat} {a : Addr} {n : Int} {Fs' : List Fact} (H : At D Fs' R s) (h1 : FQsF C p acc (ns.take i) ∈ Fs') (h2 : FQF C a p n ∈ Fs') (hn : ns[i]? = some n) (hR : Sub R R') (hF : ∀ F ∈ Fs, F ∈ Fs') :
    At D ((if i + 1 = 0 then [] else [FQsF C p (acc ++ [.ref a]) (ns.take (i + 1))]) ++ Fs) R' s := by
  rw [if_neg (Nat.succ_ne_zero _)]
  have H1 := H.fqSnoc h1 h2
  rw [take_snoc hn] at H1
  exact H1.to' hR (subf_cons (.head _) fun F q => .tail _ (hF F q))
theorem At.fqEnd {C : Addr} {p : Int} {acc : List Value} {ns : List Int} {k m : Nat} {F0 : Fact} (H : At (D.withNg m) (F0 :: ((if k = 0 then [] else [FQsF C p acc (ns.take k)]) ++ Fs)) R s) (hl : acc.length = k) (hn : ns.length = k) (hm : D.ng ≤ m) : At D (F0 :: FQsF C p acc ns :: Fs) R s := by
  have H0 := H.ofNg hm
  have H1 := H0.fqStart hl
  rw [List.take_of_length_le (by omega)] at H1
  exact ⟨H0.os, H0.gens, H0.tab, H0.cs, H0.nodup, H0.res, H0.base, fun F hF => by
    rcases List.mem_cons.mp hF with rfl | hF
    · exact H0.facts _ (.head _)
    · exact H1.facts F hF⟩
theorem At.len2 {C : Addr} {p : Int} {vs : List Value} {ns : List Int} (H : At D Fs R s) (h : ScsF C p vs ns ∈ Fs) : ns.length = vs.length := (H.facts _ h : Scs C p _ vs ns).length.symm
end
end Mine

set_option maxRecDepth 100000
namespace Mine
section
variable {prog : Program} {w : World} {M : Model} {A : Around} {E : Value → Shared → Prop} {D : Dat} {Fs : List Fact} {R R' : List Res} {s : Shared} {env : Env} {K : Frag} {n : Nat}
variable {Q : Value → Shared → Prop}
theorem r_asg2 {x y : Str} {px py pos : Pos} {k : Nat} {T : Addr} {v1 v2 : Value} {Q : Unit → Shared → Prop} (hh : A.handled = none) (H : At D Fs R s) (hm : TupF T [v1, v2] ∈ Fs)
    (h : ∀ s', At D Fs R s' → wpAny (model prog w) A (storeName env x v1) (fun _ s1 => wpAny (model prog w) A (storeName env y v2) Q E s1) E s') :
    wpAny (model prog w) A (assign (.Tuple [.Name x px, .Name y py] k pos) env (.ref T)) Q E s := by
  refine wpAny_assign_Tuple hh (H.fact hm) rfl rfl fun h' hE => ?_
  show wpAny _ A (do holding [v2] (assign (.Name x px) env v1); do holding [] (assign (.Name y py) env v2); pure ()) _ _ _
  have H1 : At D Fs R { s with heap := h' } := H.keeps (tk := s.toks) fun b o e => hE b o (Nat.ne_of_lt (Heap.lt_size e)) e
  refine wpAny_bind (wpAny_holding (wpAny_assign_Name (wpAny_mono (h _ H1) (fun _ s1 q => ?_) fun _ _ e => e)))
  exact wpAny_bind (wpAny_holding (wpAny_assign_Name (wpAny_mono q (fun _ s2 q => wpAny_pure q) fun _ _ e => e)))
theorem r_asg3 {x y z : Str} {px py pz pos : Pos} {k : Nat} {T : Addr} {v1 v2 v3 : Value} {Q : Unit → Shared → Prop} (hh : A.handled = none) (H : At D Fs R s) (hm : TupF T [v1, v2, v3] ∈ Fs)
    (h : ∀ s', At D Fs R s' → wpAny (model prog w) A (storeName env x v1) (fun _ s1 => wpAny (model prog w) A (storeName env y v2) (fun _ s2 => wpAny (model prog w) A (storeName env z v3) Q E s2) E s1) E s') :
    wpAny (model prog w) A (assign (.Tuple [.Name x px, .Name y py, .Name z pz] k pos) env (.ref T)) Q E s := by
  refine wpAny_assign_Tuple hh (H.fact hm) rfl rfl fun h' hE => ?_
  show wpAny _ A (do holding [v2, v3] (assign (.Name x px) env v1); do holding [v3] (assign (.Name y py) env v2); do holding [] (assign (.Name z pz) env v3); pure ()) _ _ _
  have H1 : At D Fs R { s with heap := h' } := H.keeps (tk := s.toks) fun b o e => hE b o (Nat.ne_of_lt (Heap.lt_size e)) e
  refine wpAny_bind (wpAny_holding (wpAny_assign_Name (wpAny_mono (h _ H1) (fun _ s1 q => ?_) fun _ _ e => e)))
  refine wpAny_bind (wpAny_holding (wpAny_assign_Name (wpAny_mono q (fun _ s2 q => ?_) fun _ _ e => e)))
  exact wpAny_bind (wpAny_holding (wpAny_assign_Name (wpAny_mono q (fun _ s2 q => wpAny_pure q) fun _ _ e => e)))

/-- facts that grow along a map that makes field elements -/
def fqG (C : Addr) (p : Int) (ns : List Int) (i : Nat) (ys : List Value) (Gs : List Fact) : Prop := ys.length = i ∧ i ≤ ns.length ∧ Gs = (if i = 0 then [] else [FQsF C p ys (ns.take i)])
theorem fqG.zero {C : Addr} {p : Int} {ns : List Int} : fqG C p ns 0 [] [] := ⟨rfl, Nat.zero_le _, rfl⟩
theorem fqG.len {C : Addr} {p : Int} {ns : List Int} {i : Nat} {ys : List Value} {Gs : List Fact} (h : fqG C p ns i ys Gs) (hz : ns.length ≤ 1000000) : ys.length ≤ 1000000 := by obtain ⟨a, b, _⟩ := h; omega
theorem fqG.start {C : Addr} {p : Int} {ns : List Int} {i : Nat} {ys : List Value} {Gs : List Fact} {F0 : Fact} (h : fqG C p ns i ys Gs) (H : At D (F0 :: (Gs ++ Fs)) R s) : At D (FQsF C p ys (ns.take i) :: F0 :: Fs) R s := by
  obtain ⟨a, b, rfl⟩ := h
  have H1 := H.fqStart a
  exact ⟨H.os, H.gens, H.tab, H.cs, H.nodup, H.res, H.base, fun F hF => by
    rcases List.mem_cons.mp hF with rfl | hF
    · exact H1.facts _ (.head _)
    · rcases List.mem_cons.mp hF with rfl | hF
      · exact H.facts _ (.head _)
      · exact H1.facts _ (.tail _ hF)⟩
theorem fqG.next {C : Addr} {p : Int} {ns : List Int} {i : Nat} {ys : List Value} {Gs : List Fact} {a : Addr} {n : Int} {Fs' : List Fact} (h : fqG C p ns i ys Gs) (H : At D Fs' R s) (h1 : FQsF C p ys (ns.take i) ∈ Fs') (h2 : FQF C a p n ∈ Fs') (hn : ns[i]? = some n) (hR : Sub R R') (hF : ∀ F ∈ Fs, F ∈ Fs') :
    ∃ F', fqG C p ns (i + 1) (ys ++ [.ref a]) F' ∧ At D (F' ++ Fs) R' s :=
  ⟨_, ⟨by simp [h.1], (List.getElem?_eq_some_iff.mp hn).1, rfl⟩, H.fqNext h1 h2 hn hR hF⟩
theorem fqG.done {C : Addr} {p : Int} {ns : List Int} {k : Nat} {ys : List Value} {Gs : List Fact} (h : fqG C p ns k ys Gs) (H : At D (Gs ++ Fs) R s) (hk : ns.length = k) : At D (FQsF C p ys ns :: Fs) R s := by
  obtain ⟨a, b, rfl⟩ := h
  have H1 : At D (Tru :: ((if k = 0 then [] else [FQsF C p ys (ns.take k)]) ++ Fs)) R s := ⟨H.os, H.gens, H.tab, H.cs, H.nodup, H.res, H.base, fun F hF => by
    rcases List.mem_cons.mp hF with rfl | hF
    · trivial
    · exact H.facts _ hF⟩
  have H2 := H1.fqStart a
  rwa [List.take_of_length_le (by omega)] at H2
theorem At.scs {C : Addr} {p : Int} {vs : List Value} {ns : List Int} (H : At D Fs R s) (h : FQsF C p vs ns ∈ Fs) : At D (ScsF C p vs ns :: Fs) R s := H.learn h fun _ x => Scs.ofFQs x
theorem At.scsI {C : Addr} {p : Int} {vs : List Value} {ns : List Int} (H : At D Fs R s) (h : IntsAre vs ns) : At D (ScsF C p vs (ns.map fun k => k.fmod p) :: Fs) R s := ⟨H.os, H.gens, H.tab, H.cs, H.nodup, H.res, H.base, fun F hF => by
    rcases List.mem_cons.mp hF with rfl | hF
    · exact Scs.ofInts h
    · exact H.facts _ hF⟩
theorem zipWith_get {f : Int → Int → Int} {xs ys : List Int} {i : Nat} {a b : Int} (h1 : xs[i]? = some a) (h2 : ys[i]? = some b) : (List.zipWith f xs ys)[i]? = some (f a b) := by
  simp [List.getElem?_zipWith, h1, h2]
theorem fqs_idx {C : Addr} {p : Int} {h : Heap} {vs : List Value} {ns : List Int} (x : FQs C p h vs ns) {k : Int} (h0 : 0 ≤ k) (h1 : k < ns.length) : ∃ a, vs[k.toNat]? = some (.ref a) ∧ FQh C a p (ns.getD k.toNat 0) h := by
  have hl := x.length
  have q : k.toNat < vs.length := by omega
  obtain ⟨a, n, e, hn, f⟩ := x.at k.toNat vs[k.toNat] (by simp [q])
  exact ⟨a, by rw [← e]; simp [q], by simpa [List.getD, hn] using f⟩
theorem At.addFQ {C a : Addr} {p n : Int} (H : At D Fs R s) (q : FQh C a p n (seen D R s.heap)) : At D (FQF C a p n :: Fs) R s := ⟨H.os, H.gens, H.tab, H.cs, H.nodup, H.res, H.base, fun F hF => by
    rcases List.mem_cons.mp hF with rfl | hF
    · exact q
    · exact H.facts _ hF⟩
section
variable {value slice : Expr} {l C : Addr} {p : Int} {vs : List Value} {ns : List Int} {k : Int} {u : Tok}
theorem r_itemTQ (H : At D Fs R s) (hm : TupF l vs ∈ Fs) (hq : FQsF C p vs ns ∈ Fs) (h0 : 0 ≤ k) (h1 : k < ns.length) (h2 : k < 2 ^ 60) (h : ∀ a, At D (FQF C a p (ns.getD k.toNat 0) :: Fs) R s → Q (.ref a) s)
    (hs : subscripted slice false (.ref l) (.int k u) = operate [.ref l, .int k u] (getItem (.ref l) (.int k u))) : wpAny (model prog w) A (subscriptTail value slice (.ref l) (.int k u)) Q E s := by
  obtain ⟨a, e, q⟩ := fqs_idx (H.facts _ hq) h0 h1
  exact r_itemT H hm h0 h2 e (h a (H.addFQ q)) hs
theorem r_itemLQ (H : At D Fs R s) (hl : s.heap.PlainList l vs.toArray) (hq : FQsF C p vs ns ∈ Fs) (h0 : 0 ≤ k) (h1 : k < ns.length) (h2 : k < 2 ^ 60) (h : ∀ a, At D (FQF C a p (ns.getD k.toNat 0) :: Fs) R s → Q (.ref a) s)
    (hs : subscripted slice false (.ref l) (.int k u) = operate [.ref l, .int k u] (getItem (.ref l) (.int k u))) : wpAny (model prog w) A (subscriptTail value slice (.ref l) (.int k u)) Q E s := by
  obtain ⟨a, e, q⟩ := fqs_idx (H.facts _ hq) h0 h1
  have hL := Heap.PlainList.isList hl
  exact tail_any (Heap.IsList.typeIs hL) slot_list_getitem.lookup (wpAny_getItem_list hL h0 (by omega) (by simpa using e) (h a (H.addFQ q))) hs
theorem r_giLQ (H : At D Fs R s) (hl : s.heap.PlainList l vs.toArray) (hq : FQsF C p vs ns ∈ Fs) (h0 : 0 ≤ k) (h1 : k < ns.length) (h2 : k < 2 ^ 60) (h : ∀ a, At D (FQF C a p (ns.getD k.toNat 0) :: Fs) R s → Q (.ref a) s) :
    wpAny (model prog w) A (getItem (.ref l) (.int k u)) Q E s := by
  obtain ⟨a, e, q⟩ := fqs_idx (H.facts _ hq) h0 h1
  exact wpAny_getItem_list (Heap.PlainList.isList hl) h0 (by omega) (by simpa using e) (h a (H.addFQ q))
theorem At.fqSet {a : Addr} {n : Int} {j : Nat} (H : At D Fs R s) (h1 : FQsF C p vs ns ∈ Fs) (h2 : FQF C a p n ∈ Fs) : At D (FQsF C p (vs.set j (.ref a)) (ns.set j n) :: Fs) R s := ⟨H.os, H.gens, H.tab, H.cs, H.nodup, H.res, H.base, fun F hF => by
    rcases List.mem_cons.mp hF with rfl | hF
    · exact FQs.set (H.facts _ h1) j (H.facts _ h2)
    · exact H.facts _ hF⟩
theorem FQs.snoc_inv {h : Heap} {vs : List Value} {y : Value} {ns : List Int} (x : FQs C p h (vs ++ [y]) ns) : ∃ ms n a, ns = ms ++ [n] ∧ FQs C p h vs ms ∧ y = .ref a ∧ FQh C a p n h := by
  induction vs generalizing ns with
  | nil => cases x with
    | cons q r => cases r; exact ⟨[], _, _, rfl, .nil, rfl, q⟩
  | cons v vs ih => cases x with
    | cons q r =>
      obtain ⟨ms, n, a, rfl, r', e, f⟩ := ih r
      exact ⟨_ :: ms, n, a, rfl, .cons q r', e, f⟩
theorem At.fqSnocInv {y : Value} (H : At D Fs R s) (h1 : FQsF C p (vs ++ [y]) ns ∈ Fs) : ∃ ms n a, ns = ms ++ [n] ∧ y = .ref a ∧ At D (FQF C a p n :: FQsF C p vs ms :: Fs) R s := by
  obtain ⟨ms, n, a, e, q, ey, f⟩ := FQs.snoc_inv (H.facts _ h1)
  refine ⟨ms, n, a, e, ey, H.os, H.gens, H.tab, H.cs, H.nodup, H.res, H.base, fun F hF => ?_⟩
  rcases List.mem_cons.mp hF with rfl | hF
  · exact f
  · rcases List.mem_cons.mp hF with rfl | hF
    · exact q
    · exact H.facts _ hF
theorem At.fqLen (H : At D Fs R s) (h1 : FQsF C p vs ns ∈ Fs) : vs.length = ns.length := FQs.length (H.facts _ h1)
end
/-- small ints -/
def Bd (l : List Int) : Prop := ∀ x ∈ l, -(2 ^ 60) < x ∧ x < 2 ^ 60
theorem mulOk_right {a b : Int} (h : -(2 ^ 60) < b ∧ b < 2 ^ 60) : IntMulOk a b := PySem.IntMulOk.of_right (intBits_le (by omega))
theorem mulOk_left {a b : Int} (h : -(2 ^ 60) < a ∧ a < 2 ^ 60) : IntMulOk a b := PySem.IntMulOk.of_left (intBits_le (by omega))
theorem Bd.getD {l : List Int} (h : Bd l) (k : Nat) : -(2 ^ 60) < l.getD k 0 ∧ l.getD k 0 < 2 ^ 60 := by
  by_cases q : k < l.length
  · rw [List.getD_eq_getElem?_getD, List.getElem?_eq_getElem q]; exact h _ (List.getElem_mem q)
  · rw [List.getD_eq_getElem?_getD, List.getElem?_eq_none (by omega)]; decide
theorem fmod_bd {x p : Int} (h0 : 0 < p) (h1 : p < 2 ^ 60) : -(2 ^ 60) < x.fmod p ∧ x.fmod p < 2 ^ 60 := by
  have a := Int.fmod_nonneg_of_pos x h0
  have b := Int.fmod_lt_of_pos x h0
  omega
theorem At.listScs {C l : Addr} {p : Int} {vs : List Value} {ks : List Int} (H : At D Fs R s) (hr : Rm (Lst l vs) R R') (h : IntsAre vs ks) : At D (ListF l vs :: ScsF C p vs (ks.map fun k => k.fmod p) :: Fs) R' s :=
  At.fzL (H.scsI h) hr
theorem r_popM {l : Addr} {items : Array Value} {pl : Sem Bool} {Q : Value × List Value → Shared → Prop} (hl : s.heap.PlainList l items) (h : Q (.builtin "list.pop", [.ref l]) s) : wpAny (model prog w) A (getMethod (.ref l) (Str.ofString "pop") pl) Q E s :=
  getMethod_list_of F.slot_list_pop F.type_list_pop (Heap.PlainList.isList hl) (by obtain ⟨n, e⟩ := hl; exact ⟨_, e, rfl⟩) h
end
end Mine

set_option maxRecDepth 100000
namespace Mine
section
variable {prog : Program} {w : World} {M : Model} {A : Around} {E : Value → Shared → Prop} {D : Dat} {Fs : List Fact} {R R' : List Res} {s : Shared} {env : Env} {K : Frag} {n : Nat}
theorem r_unpk {t : Addr} {vs : List Value} {n : Nat} {Q : List Value → Shared → Prop} (hh : A.handled = none) (H : At D Fs R s) (hm : TupF t vs ∈ Fs) (hn : n = vs.length) (h : ∀ s', At D Fs R s' → Q vs s') : wpAny (model prog w) A (unpackItems (.ref t) n none) Q E s := by
  subst hn
  have e := wpAny_unpackItems_tuple (prog := prog) (w := w) (E := E) (Q := Q) hh (H.fact hm : s.heap.IsTuple t vs.toArray) fun h' hE => h _ (H.keeps (tk := s.toks) fun b o e => hE b o (Nat.ne_of_lt (Heap.lt_size e)) e)
  simpa using e
theorem r_aio2 {f1 f2 : Value → Sem Unit} {v1 v2 : Value} {Q : Unit → Shared → Prop} (h : wpAny (model prog w) A (f1 v1) (fun _ s1 => wpAny (model prog w) A (f2 v2) Q E s1) E s) : wpAny (model prog w) A (assignInOrder [f1, f2] [v1, v2]) Q E s := by
  show wpAny _ A (do holding [v2] (f1 v1); do holding [] (f2 v2); pure ()) _ _ _
  refine wpAny_bind (wpAny_holding (wpAny_mono h (fun _ s1 q => ?_) fun _ _ e => e))
  exact wpAny_bind (wpAny_holding (wpAny_mono q (fun _ s2 q => wpAny_pure q) fun _ _ e => e))
end
end Mine

set_option maxRecDepth 100000
namespace Mine
section
variable {prog : Program} {w : World} {M : Model} {A : Around} {E : Value → Shared → Prop} {D : Dat} {Fs : List Fact} {R R' : List Res} {s : Shared} {env : Env} {K : Frag} {n : Nat}
theorem mcFrom_snoc (l : List Int) (c : Int) : ∀ k : Int, mcFrom k (l ++ [c]) = mcFrom k l ++ (if c ≠ 0 then [(k + l.length, c)] else []) := by
  induction l with
  | nil => intro k; by_cases h : c = 0 <;> simp [mcFrom, h]
  | cons a l ih =>
    intro k
    by_cases h : a = 0
    · simp only [List.cons_append, mcFrom, h, ne_eq, not_true_eq_false, if_false, ih, List.length_cons]
      rw [show k + 1 + (l.length : Int) = k + ((l.length + 1 : Nat) : Int) by omega]
    · simp only [List.cons_append, mcFrom, h, ne_eq, not_false_eq_true, if_true, ih, List.length_cons]
      rw [show k + 1 + (l.length : Int) = k + ((l.length + 1 : Nat) : Int) by omega]
/-- the pairs of the modulus so far -/
def prG (ms : List Int) (i : Nat) (ys : List Value) (Gs : List Fact) : Prop := i ≤ ms.length ∧ ys.length ≤ i ∧ Gs = (if i = 0 then [] else [PrsF ys (mcFrom 0 (ms.take i))])
theorem prG.zero {ms : List Int} : prG ms 0 [] [] := ⟨Nat.zero_le _, Nat.le_refl _, rfl⟩
theorem prG.len {ms : List Int} {i : Nat} {ys : List Value} {Gs : List Fact} (h : prG ms i ys Gs) (hz : ms.length ≤ 1000000) : ys.length ≤ 1000000 := by obtain ⟨a, b, _⟩ := h; omega
theorem prG.fact {ms : List Int} {i : Nat} {ys : List Value} {Gs Fs' : List Fact} (h : prG ms i ys Gs) (H : At D Fs' R s) (hs : ∀ F ∈ Gs, F ∈ Fs') : At D (PrsF ys (mcFrom 0 (ms.take i)) :: Fs') R s := by
  refine ⟨H.os, H.gens, H.tab, H.cs, H.nodup, H.res, H.base, fun F hF => ?_⟩
  rcases List.mem_cons.mp hF with rfl | hF
  · obtain ⟨a, b, rfl⟩ := h
    by_cases i0 : i = 0
    · subst i0
      rw [List.length_eq_zero_iff.mp (Nat.le_zero.mp b), List.take_zero]
      exact Prs.nil
    · rw [if_neg i0] at hs
      exact H.facts _ (hs _ (.head _))
  · exact H.facts _ hF
theorem prG.step {ms : List Int} {i : Nat} {zs : List Value} {Fs' : List Fact} {c : Int} (hc : ms[i]? = some c) (hz : zs.length ≤ i + 1) (H : At D Fs' R s)
    (hm : Prs (seen D R s.heap) zs (mcFrom 0 (ms.take i) ++ (if c ≠ 0 then [((i : Int), c)] else []))) (hF : ∀ F ∈ Fs, F ∈ Fs') : ∃ F', prG ms (i + 1) zs F' ∧ At D (F' ++ Fs) R s := by
  have hi : i < ms.length := (List.getElem?_eq_some_iff.mp hc).1
  refine ⟨[PrsF zs (mcFrom 0 (ms.take (i + 1)))], ⟨hi, hz, by simp⟩, H.os, H.gens, H.tab, H.cs, H.nodup, H.res, H.base, fun F h' => ?_⟩
  rcases List.mem_cons.mp h' with rfl | h'
  · show Prs _ _ _
    rw [← take_snoc hc, mcFrom_snoc, List.length_take, Nat.min_eq_left (Nat.le_of_lt hi), Int.zero_add]
    exact hm
  · exact H.facts _ (hF _ h')
theorem prG.skip {ms : List Int} {i : Nat} {ys : List Value} {Gs Fs' : List Fact} (h : prG ms i ys Gs) (hc : ms[i]? = some 0) (H : At D Fs' R s)
    (h1 : PrsF ys (mcFrom 0 (ms.take i)) ∈ Fs') (hF : ∀ F ∈ Fs, F ∈ Fs') : ∃ F', prG ms (i + 1) ys F' ∧ At D (F' ++ Fs) R s :=
  prG.step hc (Nat.le_succ_of_le h.2.1) H (by rw [if_neg (by simp), List.append_nil]; exact H.facts _ h1) hF
theorem prG.take {ms : List Int} {i : Nat} {ys : List Value} {Gs Fs' : List Fact} {c : Int} {T : Addr} {t1 t2 : Tok} (h : prG ms i ys Gs) (hc : ms[i]? = some c) (c0 : c ≠ 0) (H : At D Fs' R s)
    (h1 : PrsF ys (mcFrom 0 (ms.take i)) ∈ Fs') (h2 : TupF T [.int i t1, .int c t2] ∈ Fs') (hF : ∀ F ∈ Fs, F ∈ Fs') : ∃ F', prG ms (i + 1) (ys ++ [.ref T]) F' ∧ At D (F' ++ Fs) R s :=
  prG.step hc (by have := h.2.1; simp; omega) H (by rw [if_pos c0]; exact (H.facts _ h1 : Prs _ _ _).append (.cons (H.facts _ h2) .nil)) hF
theorem prG.done {ms : List Int} {k : Nat} {ys : List Value} {Gs : List Fact} (h : prG ms k ys Gs) (H : At D (Gs ++ Fs) R s) (hk : ms.length = k) : At D (PrsF ys (mcFrom 0 ms) :: Fs) R s := by
  have H1 := h.fact H fun F hF => List.mem_append_left _ hF
  rw [List.take_of_length_le (by omega)] at H1
  exact H1.sub (subf_cons (.head _) fun F hF => .tail _ (List.mem_append_right _ hF))
theorem prG.holdT {C : Addr} {l : List (Str × Value)} {ms : List Int} {i : Nat} {ys : List Value} {Gs Fs' : List Fact} {c : Int} {T : Addr} {t1 t2 : Tok} (h : prG ms i ys Gs) (hc : ms[i]? = some c) (c0 : c ≠ 0) (H : At D Fs' (Vars C l :: R) s)
    (h1 : PrsF ys (mcFrom 0 (ms.take i)) ∈ Fs') (h2 : TupF T [.int i t1, .int c t2] ∈ Fs') (hF : ∀ F ∈ Fs, F ∈ Fs') : Hold (∃ F' l', prG ms (i + 1) (ys ++ [.ref T]) F' ∧ At D (F' ++ Fs) (Vars C l' :: R) s) :=
  ⟨(h.take hc c0 H h1 h2 hF).elim fun F' q => ⟨F', l, q.1, q.2⟩⟩
theorem prG.holdS {C : Addr} {l : List (Str × Value)} {ms : List Int} {i : Nat} {ys : List Value} {Gs Fs' : List Fact} (h : prG ms i ys Gs) (hc : ms[i]? = some 0) (H : At D Fs' (Vars C l :: R) s)
    (h1 : PrsF ys (mcFrom 0 (ms.take i)) ∈ Fs') (hF : ∀ F ∈ Fs, F ∈ Fs') : Hold (∃ F' l', prG ms (i + 1) ys F' ∧ At D (F' ++ Fs) (Vars C l' :: R) s) :=
  ⟨(h.skip hc H h1 hF).elim fun F' q => ⟨F', l, q.1, q.2⟩⟩
/-- a map that makes whole numbers -/
def inG (ks : List Int) (i : Nat) (ys : List Value) (Gs : List Fact) : Prop := i ≤ ks.length ∧ IntsAre ys (ks.take i) ∧ Gs = []
theorem inG.zero {ks : List Int} : inG ks 0 [] [] := ⟨Nat.zero_le _, .nil, rfl⟩
theorem inG.len {ks : List Int} {i : Nat} {ys : List Value} {Gs : List Fact} (h : inG ks i ys Gs) (hz : ks.length ≤ 1000000) : ys.length ≤ 1000000 := by obtain ⟨a, b, _⟩ := h; have := b.length; rw [List.length_take] at this; omega
theorem inG.next {ks : List Int} {i : Nat} {ys : List Value} {Gs : List Fact} {a : Int} {t : Tok} (h : inG ks i ys Gs) (ha : ks[i]? = some a) : inG ks (i + 1) (ys ++ [.int a t]) [] :=
  ⟨(List.getElem?_eq_some_iff.mp ha).1, by rw [← take_snoc ha]; exact h.2.1.append (.cons _ _ .nil), rfl⟩
theorem inG.done {ks : List Int} {k : Nat} {ys : List Value} {Gs : List Fact} (h : inG ks k ys Gs) (hk : ks.length = k) : IntsAre ys ks := by
  have := h.2.1
  rwa [List.take_of_length_le (by omega)] at this
end
end Mine

set_option maxRecDepth 100000
namespace Mine
section
variable {prog : Program} {w : World} {D : Dat} {Fs : List Fact} {R R' : List Res} {s : Shared}
theorem inG.hold {C : Addr} {l : List (Str × Value)} {ks : List Int} {i : Nat} {ys : List Value} {Fs' Gs : List Fact} {a : Int} {t : Tok} (h : inG ks i ys Gs) (ha : ks[i]? = some a) (H : At D Fs' (Vars C l :: R) s) (hF : ∀ F ∈ Fs, F ∈ Fs') :
    Hold (∃ F' l', inG ks (i + 1) (ys ++ [.int a t]) F' ∧ At D (F' ++ Fs) (Vars C l' :: R) s) := ⟨[], l, h.next ha, H.sub hF⟩
theorem At.nil0 {Gs Fs : List Fact} (H : At D (Gs ++ Fs) R s) (e : Gs = []) : At D Fs R s := by subst e; exact H
theorem At.nil1 {F : Fact} {Gs Fs : List Fact} (H : At D (F :: (Gs ++ Fs)) R s) (e : Gs = []) : At D (F :: Fs) R s := by subst e; exact H
end
end Mine

set_option maxRecDepth 100000
namespace Mine
/-- the enumerate object whose handed-out tuple T is alive -/
abbrev enO (it T : Addr) (b : Bool) (i : Int) (old : Value) : Obj := { cls := .type "enumerate", dict := none, data := .fields #[rawInt (T : Nat), .bool b, .ref it, rawInt i, .none, old], slots := #[] }
section
variable {prog : Program} {w : World} {A : Around} {E : Value → Shared → Prop} {s : Shared}
theorem alive_at {M : Model} {a : Addr} {Q : Option Obj → Shared → Prop} (h : Q (s.heap.get? a) s) : wpAny M A (loadIfAlive a) Q E s := fun _ _ _ => h
theorem next_out {e it T : Addr} {fp : List Addr} {n i : Nat} {P : Nat → Value → Prop} {St : Nat → Heap → Prop} {b : Bool} {old : Value} {o : Obj} {Q : Value → Shared → Prop}
    (D : Draws prog w A it fp n P St) (he : s.heap.get? e = some (enO it T b i old)) (hT : s.heap.get? T = some o) (hTe : T ≠ e) (hTi : T ≠ it) (hst : St i s.heap) (hlt : i < n) (hne : e ≠ it) (hef : e ∉ fp)
    (hQ : ∀ x h' tk, P i x → h'.get? e = some (enO it T true ((i : Int) + 1) old) → St (i + 1) h' → h'.get? s.heap.objs.size = some { cls := .type "tuple", data := .seq #[.int i tk, x] } →
      (∀ b o, b ≠ e → b ≠ it → s.heap.get? b = some o → h'.get? b = some o) → Q (.ref s.heap.objs.size) { s with heap := h', toks := tk + 1 }) :
    wpAny (model prog w) A (Builtin.«enumerate.__next__» ⟨[.ref e], []⟩) (fun fin s' => ∃ v, fin = .done (.ret v) ∧ Q v s') E s := by
  obtain ⟨hp, g, d, tk₀, os⟩ := s
  show wpAny _ _ (field (.ref e) 2 >>= _) _ _ _
  refine wpAny_bind (wpAny_field he rfl (x := .ref it) rfl ?_)
  refine wpAny_bind (D.item i _ _ _ hlt hst fun x h1 tk hPx st1 c1 => ?_)
  have he1 : h1.get? e = some (enO it T b i old) := (c1.2 e hne).trans he
  show wpAny _ _ (field (.ref e) 3 >>= _) _ _ ⟨h1, g, d, tk, os⟩
  refine wpAny_bind (wpAny_field he1 rfl (x := rawInt i) rfl ?_)
  show wpAny _ _ (field (.ref e) 4 >>= _) _ _ ⟨h1, g, d, tk, os⟩
  refine wpAny_bind (wpAny_field he1 rfl (x := .none) rfl ?_)
  show wpAny _ _ (mkInt i >>= _) _ _ ⟨h1, g, d, tk, os⟩
  refine wpAny_bind (wpAny_mkInt ?_)
  show wpAny _ _ (setField (.ref e) 3 (rawInt ((i : Int) + 1)) >>= _) _ _ ⟨h1, g, d, tk + 1, os⟩
  refine wpAny_bind (wpAny_setField_rec he1 (by simp) fun h2 he2 c2 => ?_)
  replace he2 : h2.get? e = some (enO it T b ((i : Int) + 1) old) := he2
  show wpAny _ _ (setField (.ref e) 4 .none >>= _) _ _ ⟨h2, g, d, tk + 1, os⟩
  refine wpAny_bind (wpAny_setField_rec he2 (by simp) fun h3 he3 c3 => ?_)
  replace he3 : h3.get? e = some (enO it T b ((i : Int) + 1) old) := he3
  show wpAny _ _ (newTuple [.int i tk, x] >>= _) _ _ ⟨h3, g, d, tk + 1, os⟩
  refine wpAny_bind (wpAny_newTuple ?_)
  have hsz : h3.objs.size = hp.objs.size := by rw [c3.1, c2.1, c1.1]
  have up : ∀ b o, b ≠ e → b ≠ it → hp.get? b = some o → h3.get? b = some o := fun b o q1 q2 q => c3.extBut b o q1 (c2.extBut b o q1 (c1.extBut b o q2 q))
  have hel : e < hp.objs.size := Heap.lt_size he
  have he4 : (h3.push { cls := .type "tuple", data := .seq #[.int i tk, x] }).get? e = some (enO it T b ((i : Int) + 1) old) := Heap.get?_push_of_some _ he3
  have hn4 : (h3.push { cls := .type "tuple", data := .seq #[.int i tk, x] }).get? hp.objs.size = some { cls := .type "tuple", data := .seq #[.int i tk, x] } := by rw [← hsz]; exact Heap.get?_push_size _ rfl
  have up4 : ∀ b o, b ≠ e → b ≠ it → hp.get? b = some o → (h3.push { cls := .type "tuple", data := .seq #[.int i tk, x] }).get? b = some o := fun b o q1 q2 q => Heap.get?_push_of_some _ (up b o q1 q2 q)
  have st4 : St (i + 1) (h3.push { cls := .type "tuple", data := .seq #[.int i tk, x] }) := D.frame _ _ _ st1 fun b hb o y => by
    have q1 : b ≠ e := fun q => hef (q ▸ hb)
    exact Heap.get?_push_of_some _ (c3.extBut b o q1 (c2.extBut b o q1 y))
  generalize h3.push { cls := .type "tuple", data := .seq #[.int i tk, x] } = h4 at *
  show wpAny _ _ (Builtin.SmallTypes.ownedTupleIsFree (.ref e) >>= _) _ _ ⟨h4, g, d, tk + 1, os⟩
  rw [hsz]
  refine wpAny_bind ?_
  unfold Builtin.SmallTypes.ownedTupleIsFree
  refine wpAny_bind (wpAny_field he4 rfl (x := rawInt (T : Nat)) rfl ?_)
  show wpAny _ _ (loadIfAlive ((T : Nat) : Int).toNat >>= _) _ _ ⟨h4, g, d, tk + 1, os⟩
  refine wpAny_bind (alive_at ?_)
  rw [Int.toNat_natCast]
  show wpAny _ _ (if (h4.get? T).isNone = true then _ else _) _ _ ⟨h4, g, d, tk + 1, os⟩
  rw [up4 T o hTe hTi hT]
  rw [if_neg (by simp)]
  refine wpAny_bind (wpAny_field he4 rfl (x := .bool b) rfl ?_)
  cases b with
  | true =>
    show wpAny _ _ (pure false) _ _ ⟨h4, g, d, tk + 1, os⟩
    refine wpAny_pure ?_
    exact wpAny_pure ⟨_, rfl, hQ x h4 tk hPx he4 st4 hn4 up4⟩
  | false =>
    show wpAny _ _ (setField (.ref e) 1 (.bool true) >>= fun _ => pure false) _ _ ⟨h4, g, d, tk + 1, os⟩
    refine wpAny_bind (wpAny_setField_rec he4 (by simp) fun h5 he5 c5 => ?_)
    replace he5 : h5.get? e = some (enO it T true ((i : Int) + 1) old) := he5
    refine wpAny_pure ?_
    refine wpAny_pure ⟨_, rfl, hQ x h5 tk hPx he5 ?_ ?_ ?_⟩
    · exact D.frame _ _ _ st4 fun b hb o y => c5.extBut b o (fun q => hef (q ▸ hb)) y
    · exact c5.extBut _ _ (Nat.ne_of_gt hel) hn4
    · exact fun b o q1 q2 q => c5.extBut b o q1 (up4 b o q1 q2 q)
end
/-- the numbered pairs -/
def enF : Int → List Int → List (Int × Int)
  | _, [] => []
  | k, c :: r => (k, c) :: enF (k + 1) r
theorem enF_snoc (l : List Int) (c : Int) : ∀ k : Int, enF k (l ++ [c]) = enF k l ++ [(k + l.length, c)] := by
  induction l with
  | nil => intro k; simp [enF]
  | cons a l ih => intro k; simp only [List.cons_append, enF, ih, List.length_cons]; rw [show k + 1 + (l.length : Int) = k + ((l.length + 1 : Nat) : Int) by omega]
theorem enF_get (l : List Int) : ∀ (k : Int) (i : Nat) (c : Int), l[i]? = some c → (enF k l)[i]? = some (k + i, c) := by
  induction l with
  | nil => intro k i c h; simp at h
  | cons a l ih =>
    intro k i c h
    cases i with
    | zero => simp at h; subst h; simp [enF]
    | succ i => simp only [enF, List.getElem?_cons_succ]; rw [ih (k + 1) i c (by simpa using h)]; congr 2; omega
theorem enF_length (l : List Int) : ∀ k : Int, (enF k l).length = l.length := by
  induction l with
  | nil => intro k; rfl
  | cons a l ih => intro k; simp [enF, ih]
/-- the enumerate object in list(..), after its first turn -/
def EnO (e it l T : Addr) (i : Nat) : Res :=
  ⟨[e, it], fun h => (∃ b old, h.get? e = some (enO it T b i old)) ∧ h.IsTupleIter it l i, fun k ⟨⟨b, old, a⟩, c⟩ => ⟨⟨b, old, k e (.head _) _ a⟩, c.at fun o e => k it (.tail _ (.head _)) o e⟩,
    fun ⟨⟨b, old, a⟩, c⟩ x hx => by
      rcases List.mem_cons.mp hx with rfl | hx
      · exact Heap.lt_size a
      · rw [List.mem_singleton.mp hx]; obtain ⟨_, q, _⟩ := c; exact Heap.lt_size q⟩
section
variable {prog : Program} {w : World} {A : Around} {E : Value → Shared → Prop} {D : Dat} {Fs : List Fact} {R R' : List Res} {s : Shared}
variable {e it l T S : Addr} {vs ws acc : List Value} {ns : List Int} {i : Nat} {x : Value}
theorem ne_of_cls {h : Heap} {a b : Addr} {o o' : Obj} (h1 : h.get? a = some o) (h2 : h.get? b = some o') (hc : o.cls ≠ o'.cls) : a ≠ b := fun q => by
  subst q; rw [h1] at h2; cases h2; exact hc rfl
/-- a new tuple is a fact after an owner's turn -/
theorem At.turnTup {r r' : Res} {h' : Heap} {tk : Nat} {T : Addr} {ws : List Value} (H : At D Fs (r :: R) s) (hfp : r'.fp = r.fp) (hk : ∀ b o, b ∉ r.fp → s.heap.get? b = some o → h'.get? b = some o) (hr : r'.holds h')
    (hT : h'.get? T = some { cls := .type "tuple", data := .seq ws.toArray }) (hge : s.heap.objs.size ≤ T) : At D (TupF T ws :: Fs) (r' :: R) { s with heap := h', toks := tk } := by
  have hp : Rp r r' (r :: R) (r' :: R) := Rp.head
  have H1 := H.upd (h' := h') (gens' := s.gens) (tk := tk) hp hfp hk hr H.gens
  refine ⟨H1.os, H1.gens, H1.tab, H1.cs, H1.nodup, H1.res, H1.base, fun F hF => ?_⟩
  rcases List.mem_cons.mp hF with rfl | hF
  · refine ⟨_, hideAll_get _ hT fun hm => ?_, rfl, 0, rfl⟩
    have := H.lt T (by rw [hp.fps_eq hfp] at hm; exact hm)
    exact absurd this (Nat.not_lt.mpr hge)
  · exact H1.facts F hF
theorem en_first {Q : Option Value → Shared → Prop} (hh : A.handled = none) (H : At D Fs (EnumR e it l true 0 :: R) s) (hm : TupF l vs ∈ Fs) (hx : vs[0]? = some x)
    (h : ∀ T t s', At D (TupF T [.int 0 t, x] :: Fs) (EnO e it l T 1 :: R) s' → Q (some (.ref T)) s') : wpAny (model prog w) A (pyNext (.ref e)) Q E s := by
  obtain ⟨⟨old, he⟩, hit⟩ := H.res _ (.head _)
  replace hit : s.heap.IsTupleIter it l 0 := hit
  have hl : s.heap.IsTuple l vs.toArray := H.fact hm
  have hei : e ≠ it := by obtain ⟨o, ho, hc, _⟩ := id hit; exact ne_of_cls he ho (by rw [hc]; exact (by decide : Value.type "enumerate" ≠ Value.type "tuple_iterator"))
  have hle : l ≠ e := by obtain ⟨o, ho, hc, _⟩ := id hl; exact ne_of_cls ho he (by rw [hc]; exact (by decide : Value.type "tuple" ≠ Value.type "enumerate"))
  have hli : l ≠ it := by obtain ⟨o, ho, hc, _⟩ := id hl; obtain ⟨o', ho', hc', _⟩ := id hit; exact ne_of_cls ho ho' (by rw [hc, hc']; decide)
  have hlt : 0 < vs.toArray.size := by rw [List.size_toArray]; exact (List.getElem?_eq_some_iff.mp hx).1
  refine wpAny_pyNext_enum_itemD (drawsT (A := A.in1) hh it l hli vs.toArray) he ⟨hit, hl⟩ hlt hei (by simp; exact ⟨hei, Ne.symm hle⟩) fun x' h' tk hP ho hs' hT hsz hk => ?_
  have ex : x' = x := by simp at hP; rw [hx] at hP; exact (Option.some.inj hP).symm
  subst ex
  refine h _ tk _ (At.turnTup (r := EnumR e it l true 0) (r' := EnO e it l s.heap.objs.size 1) H rfl (fun b o nb q => hk b o (fun q1 => nb (by rw [q1]; exact .head _)) (fun q1 => nb (by rw [q1]; exact .tail _ (.head _))) q) ⟨⟨false, x', ho⟩, hs'.1⟩ ?_ (Nat.le_refl _))
  exact hT
theorem en_next {Q : Option Value → Shared → Prop} (hh : A.handled = none) (H : At D Fs (EnO e it l T i :: R) s) (hm : TupF l vs ∈ Fs) (hT : TupF T ws ∈ Fs) (hx : vs[i]? = some x)
    (h : ∀ T' t s', At D (TupF T' [.int i t, x] :: Fs) (EnO e it l T (i + 1) :: R) s' → Q (some (.ref T')) s') : wpAny (model prog w) A (pyNext (.ref e)) Q E s := by
  obtain ⟨⟨b, old, he⟩, hit⟩ := H.res _ (.head _)
  have hl : s.heap.IsTuple l vs.toArray := H.fact hm
  have hTT : s.heap.IsTuple T ws.toArray := H.fact hT
  have hei : e ≠ it := by obtain ⟨o, ho, hc, _⟩ := id hit; exact ne_of_cls he ho (by rw [hc]; exact (by decide : Value.type "enumerate" ≠ Value.type "tuple_iterator"))
  have hle : l ≠ e := by obtain ⟨o, ho, hc, _⟩ := id hl; exact ne_of_cls ho he (by rw [hc]; exact (by decide : Value.type "tuple" ≠ Value.type "enumerate"))
  have hli : l ≠ it := by obtain ⟨o, ho, hc, _⟩ := id hl; obtain ⟨o', ho', hc', _⟩ := id hit; exact ne_of_cls ho ho' (by rw [hc, hc']; decide)
  obtain ⟨oT, hoT, hcT, _⟩ := id hTT
  have hTe : T ≠ e := ne_of_cls hoT he (by rw [hcT]; exact (by decide : Value.type "tuple" ≠ Value.type "enumerate"))
  have hTi : T ≠ it := by obtain ⟨o', ho', hc', _⟩ := id hit; exact ne_of_cls hoT ho' (by rw [hcT, hc']; decide)
  have hlt : i < vs.toArray.size := by rw [List.size_toArray]; exact (List.getElem?_eq_some_iff.mp hx).1
  have ht : s.TypeIs (.ref e) "enumerate" := ⟨_, he, rfl⟩
  unfold pyNext
  refine wpAny_bind (wpAny_attempt (wpAny_callSpecial?_slot (name := Str.ofString "__next__") ht F.slot_enumerate_next (wpAny_call_entry F.slot_enumerate_next ht F.entry_enumerate_next
    (next_out (drawsT (A := A.in1) hh it l hli vs.toArray) he hoT hTe hTi ⟨hit, hl⟩ hlt hei (by simp; exact ⟨hei, Ne.symm hle⟩) fun x' h' tk hP ho hs' hT' hk => wpAny_pure ?_) (F.args_enumerate_next_1 _))))
  have ex : x' = x := by simp at hP; rw [hx] at hP; exact (Option.some.inj hP).symm
  subst ex
  refine h _ tk _ (At.turnTup (r := EnO e it l T i) (r' := EnO e it l T (i + 1)) H rfl (fun b o nb q => hk b o (fun q1 => nb (by rw [q1]; exact .head _)) (fun q1 => nb (by rw [q1]; exact .tail _ (.head _))) q) ⟨⟨true, old, ho⟩, hs'.1⟩ ?_ (Nat.le_refl _))
  exact hT'
theorem en_done {Q : Option Value → Shared → Prop} (hh : A.handled = none) (H : At D Fs (EnO e it l T vs.length :: R) s) (hm : TupF l vs ∈ Fs)
    (h : ∀ s', At D Fs R s' → Q none s') : wpAny (model prog w) A (pyNext (.ref e)) Q E s := by
  obtain ⟨⟨b, old, he⟩, hit⟩ := H.res _ (.head _)
  have hl : s.heap.IsTuple l vs.toArray := H.fact hm
  have hli : l ≠ it := by obtain ⟨o, ho, hc, _⟩ := id hl; obtain ⟨o', ho', hc', _⟩ := id hit; exact ne_of_cls ho ho' (by rw [hc, hc']; decide)
  have ht : s.TypeIs (.ref e) "enumerate" := ⟨_, he, rfl⟩
  unfold pyNext
  refine wpAny_bind (wpAny_attempt (wpAny_callSpecial?_slot (name := Str.ofString "__next__") ht F.slot_enumerate_next (wpAny_call_entry F.slot_enumerate_next ht F.entry_enumerate_next ?_ (F.args_enumerate_next_1 _))))
  show wpAny _ _ (field (.ref e) 2 >>= _) _ _ _
  refine wpAny_bind (wpAny_field he rfl (x := .ref it) rfl ?_)
  refine wpAny_bind ((drawsT (A := A.in1) hh it l hli vs.toArray).done _ _ _ ⟨by simpa using hit, hl⟩ fun h' z hk hz => ?_)
  obtain ⟨o, ho, hc⟩ := hz
  refine wpAny_bind (wpAny_isInstance (T := "StopIteration") (b := true) ⟨o, ho, hc⟩ isSubtype_stop ?_)
  refine wpAny_pure (h _ (H.updDrop (h' := h') (gens' := s.gens) (tk := s.toks) (r := EnO e it l T vs.length) Rm.head (fun b o nb q => hk b o (fun q1 => nb (by rw [q1]; exact .tail _ (.head _))) q) H.gens))
theorem At.push2 {r1 : Res} {v : Value} (H : At D Fs (r1 :: Lst S acc :: R) s) : At D Fs (r1 :: Lst S (acc ++ [v]) :: R) { s with heap := s.heap.update S (Obj.mapSeq (·.push v)) } := by
  obtain ⟨c, hS⟩ := H.res (Lst S acc) (.tail _ (.head _))
  have e2 : acc.toArray.push v = (acc ++ [v]).toArray := by simp
  exact H.upd (r := Lst S acc) (r' := Lst S (acc ++ [v])) (R' := r1 :: Lst S (acc ++ [v]) :: R) (h' := s.heap.update S (Obj.mapSeq (·.push v))) (gens' := s.gens) (tk := s.toks) (.tail .head) rfl
      (fun b o nb q => (Heap.get?_update_other _ _ (Ne.symm fun q1 => nb (List.mem_singleton.mpr q1))).trans q) (by
        have := IsL.update hS (·.push v)
        simp only [e2] at this
        exact ⟨_, this⟩) H.gens
theorem At.prsPush {T' : Addr} {t : Tok} {c : Int} {u : Tok} (H : At D Fs R s) (h1 : PrsF acc (enF 0 (ns.take i)) ∈ Fs) (h2 : TupF T' [.int i t, .int c u] ∈ Fs) (hc : ns[i]? = some c) : At D (PrsF (acc ++ [.ref T']) (enF 0 (ns.take (i + 1))) :: Fs) R s := by
  refine ⟨H.os, H.gens, H.tab, H.cs, H.nodup, H.res, H.base, fun F hF => ?_⟩
  rcases List.mem_cons.mp hF with rfl | hF
  · have hi : i < ns.length := (List.getElem?_eq_some_iff.mp hc).1
    show Prs _ _ _
    rw [← take_snoc hc, enF_snoc, List.length_take, Nat.min_eq_left (Nat.le_of_lt hi), Int.zero_add]
    exact (H.facts _ h1 : Prs _ _ _).append (.cons (H.facts _ h2) .nil)
  · exact H.facts F hF
variable {res : Value} {Rk : Result → Shared → Prop}
theorem en_loop (hh : A.handled = none) (hi : IntsAre vs ns) (hz : vs.length ≤ 1000000) (hm : TupF l vs ∈ Fs) (hT : TupF T ws ∈ Fs)
    (hR : ∀ acc s', acc.length = vs.length → At D (PrsF acc (enF 0 ns) :: Fs) (Lst S acc :: R) s' → Rk (.ok (.ret res)) s') :
    ∀ (j i : Nat) (acc : List Value) (s : Shared), vs.length - i = j → i ≤ vs.length → acc.length = i → At D (PrsF acc (enF 0 (ns.take i)) :: Fs) (EnO e it l T i :: Lst S acc :: R) s →
      codeAny (model prog w) A (.builtin "list.extend.loop" ⟨[.ref S, .ref e, res], []⟩) Rk s := by
  have hL := hi.length
  intro j
  induction j with
  | zero =>
    intro i acc s hj hi' ha H
    have hin : i = vs.length := by omega
    subst hin
    refine codeAny_builtin F.entry_extend_loop ?_
    rw [Around.under_plainId F.plain_extend_loop _]
    show wpAny _ A.in1 (pyNext (.ref e) >>= _) _ _ s
    refine wpAny_bind (en_done (A := A.in1) hh H (.tail _ hm) fun s' H' => wpAny_pure (hR acc s' ha ?_))
    rwa [List.take_of_length_le (by omega)] at H'
  | succ j ih =>
    intro i acc s hj hi' ha H
    have hlt : i < vs.length := by omega
    obtain ⟨c, u, ev, hc⟩ := hi.at i vs[i] (by simp [hlt])
    refine codeAny_builtin F.entry_extend_loop ?_
    rw [Around.under_plainId F.plain_extend_loop _]
    show wpAny _ A.in1 (pyNext (.ref e) >>= _) _ _ s
    refine wpAny_bind (en_next (A := A.in1) hh H (.tail _ hm) (.tail _ hT) (x := .int c u) (by rw [← ev]; simp [hlt]) fun T' t s' H' => ?_)
    obtain ⟨cc, hS⟩ := H'.res (Lst S acc) (.tail _ (.head _))
    show wpAny _ A.in1 (updateSeq S (·.push (.ref T')) >>= _) _ _ _
    refine wpAny_bind ?_
    have H2 := (H'.prsPush (.tail _ (.head _)) (.head _) hc).push2 (v := .ref T')
    have H3 := H2.sub (Fs' := PrsF (acc ++ [.ref T']) (enF 0 (ns.take (i + 1))) :: Fs) (subf_cons (.head _) fun F hF => .tail _ (.tail _ (.tail _ hF)))
    refine wpAny_updateSeq hS rfl (wpAny_pure ⟨plainId_quiet F.plain_extend_loop _, ih (i + 1) _ _ (by omega) hlt (by simp [ha]) H3⟩) ?_ ?_
    · simp only [List.size_toArray]; rw [sizeLine_eq]; omega
    · show (acc.toArray.push _).size ≤ sizeLine + 1
      rw [Array.size_push, List.size_toArray, sizeLine_eq]; omega
theorem enum_no_len : typeLookup (.type "enumerate") "__len__" = pure none := by rw [typeLookup_type, builtinLookup_eq_fast]; kernel_rfl
theorem enum_no_hint : typeLookup (.type "enumerate") "__length_hint__" = pure none := by rw [typeLookup_type, builtinLookup_eq_fast]; kernel_rfl
/-- list(enumerate(tuple of ints)) -/
theorem r_listEnum {Q : Value → Shared → Prop} (hh : A.handled = none) (H : At D Fs (EnumR e it l true 0 :: R) s) (hm : TupF l vs ∈ Fs) (hi : IntsAre vs ns) (h0 : 0 < vs.length) (hz : vs.length ≤ 1000000)
    (h : ∀ L acc s', acc.length = vs.length → At D (PrsF acc (enF 0 ns) :: Fs) (Lst L acc :: R) s' → Q (.ref L) s') : wpAny (model prog w) A (call (.type "list") [.ref e]) Q E s := by
  obtain ⟨⟨old, he⟩, hit⟩ := H.res _ (.head _)
  have hSe : s.heap.objs.size ≠ e := fun q => Nat.lt_irrefl _ (q ▸ Heap.lt_size he)
  refine callType_codes (Q₁ := fun obj s₁ => obj = .ref s.heap.objs.size ∧ s₁ = { s with heap := s.heap.push { cls := .type "list", data := .seq #[] } }) F.called_list (F.typeCall_list_1 _) F.entry_list_init
    (code_list_new _ ⟨rfl, rfl⟩) fun obj s₁ h₁ => ?_
  obtain ⟨rfl, rfl⟩ := h₁
  have H1 : At D Fs (EnumR e it l true 0 :: Lst s.heap.objs.size [] :: R) { s with heap := s.heap.push { cls := .type "list", data := .seq #[] } } :=
    (H.pushL (vs := []) (tk := s.toks)).to (.cons .refl (.tail .head) (.cons .refl .head (Sub.refl _)))
  have hS : (s.heap.push { cls := .type "list", data := .seq #[] }).get? s.heap.objs.size = some { cls := .type "list", data := .seq #[] } := Heap.get?_push_size _ rfl
  refine ⟨⟨_, hS, rfl⟩, F.args_list_init_2 _ _, ?_⟩
  generalize hS0 : s.heap.objs.size = S at *
  show wpAny _ _ (Builtin.List.listItems (.ref S) >>= _) _ _ _
  refine wpAny_bind ?_
  unfold Builtin.List.listItems
  refine wpAny_bind (wpAny_seqItems hS rfl (wpAny_pure ?_))
  show wpAny _ _ (updateSeq S (fun _ => #[]) >>= fun _ => letGo (#[] : Array Value).toList.reverse >>= fun _ => Builtin.List.listExtendWith (.ref S) (.ref e) .none) _ _ _
  refine wpAny_bind (wpAny_updateSeq hS rfl ?_)
  refine wpAny_bind (wpAny_letGo ?_)
  have hS2 := Heap.get?_update_self (Obj.mapSeq (fun _ => (#[] : Array Value))) hS rfl
  have H2 := H1.upd (r := Lst S []) (r' := Lst S []) (h' := (s.heap.push { cls := .type "list", data := .seq #[] }).update S (Obj.mapSeq (fun _ => #[]))) (gens' := s.gens) (tk := s.toks) (.tail .head) rfl
    (fun b o nb q => (Heap.get?_update_other _ _ (Ne.symm fun q1 => nb (List.mem_singleton.mpr q1))).trans q) ⟨_, hS2⟩ H1.gens
  generalize (s.heap.push { cls := .type "list", data := .seq #[] }).update S (Obj.mapSeq (fun _ => #[])) = h2 at *
  obtain ⟨⟨old2, he2⟩, _⟩ := H2.res _ (.head _)
  have ht2 : ({ s with heap := h2 } : Shared).TypeIs (.ref e) "enumerate" := ⟨_, he2, rfl⟩
  show wpAny _ _ (Builtin.List.listExtendWith (.ref S) (.ref e) .none) _ _ _
  unfold Builtin.List.listExtendWith
  refine wpAny_bind (wpAny_typeOf ht2 ?_)
  have b1 : Builtin.List.listSameRef (.ref S) (.ref e) = false := by simp [Builtin.List.listSameRef, hSe]
  have b2 : (Value.type "enumerate" == Value.type "list") = false := by decide
  have b3 : (Value.type "enumerate" == Value.type "tuple") = false := by decide
  simp only [b1, b2, b3, Bool.or_false, Bool.false_eq_true, if_false]
  refine wpAny_bind (wpAny_pyIter_enum he2 ?_)
  refine wpAny_bind (wpAny_holding ?_)
  unfold Builtin.List.listLengthHint
  refine wpAny_bind (wpAny_specialOf ht2 enum_no_len ?_)
  show wpAny _ _ (specialOf (Value.ref e) (Str.ofString "__length_hint__") >>= _) _ _ _
  refine wpAny_bind (wpAny_specialOf ht2 enum_no_hint ?_)
  refine wpAny_pure ?_
  show wpAny _ _ (rule "list.extend.makes-room" >>= fun _ => Builtin.List.listTouch (.ref S) >>= fun _ =>
    again (.builtin "list.extend.loop" ⟨[.ref S, .ref e, .none], []⟩)) _ _ _
  refine wpAny_bind (wpAny_rule ?_)
  refine wpAny_bind ?_
  show wpAny _ _ (updateSeq S (·.push .none) >>= fun _ => updateSeq S (·.pop)) _ _ _
  obtain ⟨c3, hS3⟩ := H2.res (Lst S []) (.tail _ (.head _))
  replace hS3 : h2.get? S = some { cls := .type "list", dict := none, data := .seq #[] c3, slots := #[] } := hS3
  refine wpAny_bind (wpAny_updateSeq hS3 rfl ?_)
  have hS4 := Heap.get?_update_self (Obj.mapSeq (·.push Value.none)) hS3 rfl
  refine wpAny_updateSeq hS4 rfl ?_
  have hS5 := Heap.get?_update_self (Obj.mapSeq (·.pop)) hS4 rfl
  have H3 := H2.upd (r := Lst S []) (r' := Lst S []) (h' := (h2.update S (Obj.mapSeq (·.push Value.none))).update S (Obj.mapSeq (·.pop))) (gens' := s.gens) (tk := s.toks) (.tail .head) rfl
    (fun b o nb q => (Heap.get?_update_other _ _ (Ne.symm fun q1 => nb (List.mem_singleton.mpr q1))).trans ((Heap.get?_update_other _ _ (Ne.symm fun q1 => nb (List.mem_singleton.mpr q1))).trans q)) ⟨_, hS5⟩ H2.gens
  generalize (h2.update S (Obj.mapSeq (·.push Value.none))).update S (Obj.mapSeq (·.pop)) = h5 at *
  refine wpAny_pure ⟨plainId_quiet F.plain_extend_loop _, ?_⟩
  -- the first turn
  have hL := hi.length
  obtain ⟨c, u, ev, hc⟩ := hi.at 0 vs[0] (by simp [h0])
  refine codeAny_builtin F.entry_extend_loop ?_
  rw [Around.under_plainId F.plain_extend_loop _]
  show wpAny _ _ (pyNext (.ref e) >>= _) _ _ _
  refine wpAny_bind (en_first hh H3 hm (x := .int c u) (by rw [← ev]; simp [h0]) fun T t s' H' => ?_)
  obtain ⟨cc, hS⟩ := H'.res (Lst S []) (.tail _ (.head _))
  show wpAny _ _ (updateSeq S (·.push (.ref T)) >>= _) _ _ _
  refine wpAny_bind ?_
  have H4 := H'.push2 (v := .ref T)
  have H5 : At D (PrsF [.ref T] (enF 0 (ns.take 1)) :: TupF T [.int 0 t, .int c u] :: Fs) (EnO e it l T 1 :: Lst S ([] ++ [.ref T]) :: R) _ := H4.learn (.head _) fun h q => by
    show Prs _ _ _
    have : ns.take 1 = [c] := by cases ns with
      | nil => simp at hc
      | cons a r => simp at hc; simp [hc]
    rw [this]
    exact .cons q .nil
  refine wpAny_updateSeq hS rfl (wpAny_pure ⟨plainId_quiet F.plain_extend_loop _, en_loop (A := A.in1) (T := T) (ws := [.int 0 t, .int c u]) hh hi hz (.tail _ hm) (.head _) (fun acc s' ha H' => ?_) _ 1 [.ref T] _ rfl h0 rfl H5⟩) ?_ ?_
  · exact ⟨rfl, h S acc s' ha (H'.sub (subf_cons (.head _) fun F hF => .tail _ (.tail _ hF)))⟩
  · simp only [List.size_toArray]; rw [sizeLine_eq]; simp
  · rw [sizeLine_eq]; simp
end
end Mine

set_option maxRecDepth 100000
namespace Mine
open AutoSeq1 (wpAny_loadPart')
section
variable {prog : Program} {w : World} {A : Around} {E : Value → Shared → Prop} {D : Dat} {Fs : List Fact} {R R' : List Res} {s : Shared}
variable {l : Addr} {vs : List Value} {Q : Value → Shared → Prop}
/-- enumerate(tuple), its parts in sight -/
theorem r_enumT (H : At D Fs R s) (hm : TupF l vs ∈ Fs)
    (h : ∀ I it s', (∀ ng, Nexts prog w (D.withNg ng) true I vs.length (EnumR I it l true) (TupF l vs) (fun i v F => ∃ T vals, v = .ref T ∧ (∃ t x, vs.toArray[i]? = some x ∧ vals = #[.int i t, x]) ∧ F = TupF T vals.toList)) → At D Fs (EnumR I it l true 0 :: R) s' → Q (.ref I) s') :
    wpAny (model prog w) A (call (.type "enumerate") [.ref l]) Q E s := by
  have hl := H.fact hm
  have hlt : l < s.heap.objs.size := by obtain ⟨_, e, _⟩ := hl; exact Heap.lt_size e
  obtain ⟨⟨c, dct, dt, sl⟩, hl, hc, m, hd⟩ := hl
  replace hc : c = .type "tuple" := hc
  replace hd : dt = .seq vs.toArray m := hd
  subst hc hd
  refine callType_new F.called_enumerate (by decide) (F.typeCall_enumerate_1 _) (F.newCall_enumerate_1 _) (fun obj => F.args_object_init_2 obj _) F.entry_enumerate_new
    (meets_enumT l vs.toArray m dct sl) ⟨hl, ?_⟩
  have hz : (s.heap.push { cls := .type "tuple_iterator", data := .fields #[.ref l, .int 0 0] }).objs.size = s.heap.objs.size + 1 := Heap.size_push ..
  have he : IsEnum ((s.heap.push { cls := .type "tuple_iterator", data := .fields #[.ref l, .int 0 0] }).push
      { cls := .type "enumerate", data := .fields #[.none, .bool false, .ref s.heap.objs.size, rawInt 0, .none, .none] }) (s.heap.objs.size + 1) s.heap.objs.size 0 .none := by
    have := Heap.get?_push_size (s.heap.push { cls := .type "tuple_iterator", data := .fields #[.ref l, .int 0 0] })
      (o := { cls := .type "enumerate", data := .fields #[.none, .bool false, .ref s.heap.objs.size, rawInt 0, .none, .none] }) rfl
    rw [hz] at this; exact this
  show _ ∧ _
  rw [hz]
  refine ⟨⟨_, he, rfl⟩, h _ s.heap.objs.size _ (fun _ => nexts_enumT (Nat.succ_ne_self _) (Nat.ne_of_lt (Nat.lt_succ_of_lt hlt)) (Nat.ne_of_lt hlt)) ?_⟩
  exact H.own (r := EnumR (s.heap.objs.size + 1) s.heap.objs.size l true 0) (gens' := s.gens) (tk := s.toks) ((Ext.push _ _).trans (Ext.push _ _)) H.gens ⟨⟨_, he⟩, ⟨_, Heap.get?_push_of_some _ (Heap.get?_push_size _ rfl), rfl, rfl⟩⟩ (by show [s.heap.objs.size + 1, s.heap.objs.size].Nodup; simp) fun b hb => by
    rcases List.mem_cons.mp hb with rfl | hb
    · exact Nat.le_succ _
    · rw [List.mem_singleton.mp hb]; exact Nat.le_refl _
/-- a pair of a list of pairs -/
theorem At.prAt {ps : List (Int × Int)} {i : Nat} {v : Value} (H : At D Fs R s) (hm : PrsF vs ps ∈ Fs) (hv : vs[i]? = some v) : ∃ T a b t1 t2, v = .ref T ∧ ps[i]? = some (a, b) ∧ At D (TupF T [.int a t1, .int b t2] :: Fs) R s := by
  obtain ⟨T, a, b, t1, t2, e, e2, q⟩ := Prs.at (H.facts _ hm) i v hv
  refine ⟨T, a, b, t1, t2, e, e2, H.os, H.gens, H.tab, H.cs, H.nodup, H.res, H.base, fun F hF => ?_⟩
  rcases List.mem_cons.mp hF with rfl | hF
  · exact q
  · exact H.facts F hF
theorem At.prLen {ps : List (Int × Int)} (H : At D Fs R s) (hm : PrsF vs ps ∈ Fs) : vs.length = ps.length := Prs.length (H.facts _ hm)
end
end Mine

set_option maxRecDepth 100000
namespace Mine
theorem pow3_entry {a b c : Int} {t u v : Tok} (h0 : ¬ (c == 0) = true) (h1 : ¬ (c.natAbs == 1) = true) (hb : ¬ b < 0) (hc : ¬ c < 0) :
    Gives (Builtin.«int.__pow__» ⟨[.int a t, .int b u, .int c v], []⟩) (.int (Builtin.powMod (a % (c.natAbs : Int)).toNat b.natAbs c.natAbs : Nat)) :=
  .of_wp fun M A E s Q h => by
    obtain ⟨hp, g, d, tk, os⟩ := s
    wp_walk
    have e : decide (c < 0) = false := decide_eq_false hc
    simp only [e, Bool.false_and, Bool.false_eq_true, if_false]
    exact ⟨_, rfl, h⟩
theorem slot_pow' : Slot "int" (Str.ofString "__pow__") "int.__pow__" := by
  have e : PySem.dunder "pow" = Str.ofString "__pow__" := by kernel_rfl
  rw [← e]; exact slot_int_pow
theorem kind_powT : builtinKind "pow" = none := by decide +kernel
theorem plain_powT : plainId "pow" = true := by decide +kernel
theorem entry_powT : entryFor table "pow" = some Builtin.«pow» := entryFor_of_fast (by kernel_rfl)
theorem args_pow3 (a b c : Value) : argsOk "pow" ⟨[a, b, c], []⟩ := by unfold argsOk; kernel_rfl
section
variable {prog : Program} {w : World} {A : Around} {E : Value → Shared → Prop} {s : Shared} {a b c : Int} {t u v : Tok} {Q : Value → Shared → Prop}
theorem pow3_slot (h0 : ¬ (c == 0) = true) (h1 : ¬ (c.natAbs == 1) = true) (hb : ¬ b < 0) (hc : ¬ c < 0) (h : ∀ t k, Q (.int (Builtin.powMod (a % (c.natAbs : Int)).toNat b.natAbs c.natAbs : Nat) t) { s with toks := k }) :
    wpAny (model prog w) A (call (.builtin "int.__pow__") [.int a t, .int b u, .int c v]) Q E s :=
  call_gives slot_pow' (typeIs_int s a t) entry_int_pow (F.args_int_pow_3 _ _ _) (pow3_entry h0 h1 hb hc) (h s.toks (s.toks + 1))
theorem pow3_special {Q : Option Value → Shared → Prop} (h0 : ¬ (c == 0) = true) (h1 : ¬ (c.natAbs == 1) = true) (hb : ¬ b < 0) (hc : ¬ c < 0) (h : ∀ t k, Q (some (.int (Builtin.powMod (a % (c.natAbs : Int)).toNat b.natAbs c.natAbs : Nat) t)) { s with toks := k }) :
    wpAny (model prog w) A (callSpecial? (.int a t) (Str.ofString "__pow__") [.int b u, .int c v]) Q E s := by
  have k := pow3_slot (prog := prog) (w := w) (Q := fun v => Q (some v)) (A := A) (E := E) (s := s) (t := t) (u := u) (v := v) h0 h1 hb hc h
  have k2 := typeIs_int s a t
  generalize (.int a t : Value) = X at *
  generalize (.int b u : Value) = Y at *
  generalize (.int c v : Value) = Z at *
  exact wpAny_callSpecial?_slot (T := "int") (id := "int.__pow__") k2 slot_pow' k
theorem pow3_call (h0 : ¬ (c == 0) = true) (h1 : ¬ (c.natAbs == 1) = true) (hb : ¬ b < 0) (hc : ¬ c < 0) (h : ∀ t k, Q (.int (Builtin.powMod (a % (c.natAbs : Int)).toNat b.natAbs c.natAbs : Nat) t) { s with toks := k }) :
    wpAny (model prog w) A (call (.builtin "pow") [.int a t, .int b u, .int c v]) Q E s := by
  refine Calls.call_function_entry kind_powT plain_powT entry_powT (args_pow3 _ _ _) ?_
  unfold Builtin.«pow»
  refine wpAny_bind (wpAny_of_eq (show Builtin.Builtins.bindParams "pow" ["base", "exp", "mod"] 2 ⟨[.int a t, .int b u, .int c v], []⟩ = pure [some (.int a t), some (.int b u), some (.int c v)] from rfl) ?_)
  wp_walk
  refine wpAny_of_eq slot_pow'.lookup ?_
  dsimp only
  refine wpAny_bind ?_
  simp only [Option.getD_some]
  refine pow3_special h0 h1 hb hc fun t k => ?_
  dsimp only
  rw [if_pos (by rfl)]
  exact wpAny_pure ⟨_, rfl, h t k⟩
end
section
variable {prog : Program} {w : World} {A : Around} {E : Value → Shared → Prop} {D : Dat} {Fs : List Fact} {R R' : List Res} {s : Shared} {Q : Value → Shared → Prop}
theorem r_pow3 {a b c : Int} {t u v : Tok} (H : At D Fs R s) (hc : 1 < c) (hb : 0 ≤ b) (h : ∀ t s', At D Fs R s' → Q (.int (Builtin.powMod (a % (c.natAbs : Int)).toNat b.natAbs c.natAbs : Nat) t) s') :
    wpAny (model prog w) A (call (.builtin "pow") [.int a t, .int b u, .int c v]) Q E s :=
  pow3_call (by simp; omega) (by simp; omega) (by omega) (by omega) fun t k => h t _ (H.toks k)
theorem all_eq_decide {ns ms : List Int} (h : ns.length = ms.length) : ((List.range ns.length).all fun j => ns.getD j 0 == ms.getD j 0) = decide (ns = ms) := by
  rw [Bool.eq_iff_iff, List.all_eq_true, decide_eq_true_iff]
  constructor
  · intro q
    refine List.ext_getElem h fun j h1 h2 => ?_
    have := q j (List.mem_range.mpr h1)
    simpa [List.getD, h1, h2] using this
  · rintro rfl j _
    simp
theorem r_eqL {l b : Addr} {vs ws : List Value} {ns ms : List Int} (hu : A.units < 9900) (H : At D Fs R s) (h1 : s.heap.PlainList l vs.toArray) (h2 : s.heap.PlainList b ws.toArray) (i1 : IntsAre vs ns) (i2 : IntsAre ws ms) (hl : ns.length = ms.length)
    (h : Q (.bool (decide (ns = ms))) s) : wpAny (model prog w) A (compareOp .Eq (.ref l) (.ref b)) Q E s := by
  have l1 := i1.length
  have l2 := i2.length
  refine SeqAt.eq_listAt (e := fun j => ns.getD j 0 == ms.getD j 0) (Heap.PlainList.isList h1) (Heap.PlainList.isList h2) (by simp; omega) hu (fun j q1 q2 => ?_) ?_
  · obtain ⟨t, e⟩ := i1.int_at j (vs.toArray[j]) (by simp)
    obtain ⟨u, e'⟩ := i2.int_at j (ws.toArray[j]) (by simp)
    rw [e, e']
    exact SeqAt.EqAt.int_int _ _ _ _
  · rw [List.size_toArray, l1, all_eq_decide hl]
    exact h
end
end Mine

set_option maxRecDepth 100000
namespace Mine
section
variable {prog : Program} {w : World} {A : Around} {E : Value → Shared → Prop} {D : Dat} {Fs : List Fact} {R R' : List Res} {s : Shared} {K : Frag}
variable {x C f : Addr} {F : Fact} {b tb : Value} {Q : Value → Shared → Prop}
/-- a comparison that the left operand's own method answers -/
theorem o_cmp {op : CmpOp} (W : Wd K D) (H : At D Fs R s) (hu : A.units < cLine) (hm : F ∈ Fs) (ho : IsObj C x F) (hb : Looks (model prog w) s.heap (typeOf b) tb) (hn : notFirst K C tb = true)
    (hs : findIn K (.ref C) (cmpInfo op).2.1 = some (some (.ref f))) (hf : isFn K (.ref f) = true)
    (h : wpAny (model prog w) A (call (.ref f) [.ref x, b]) (PySem.W.CmpBack Q) E s) : wpAny (model prog w) A (richCompare op (.ref x) b) Q E s := by
  obtain ⟨m, I, _⟩ := ho.inst H hm
  obtain ⟨ox, od, I, _⟩ := I.at
  have X := At.kin W H
  have one : wpAny (model prog w) A (tryCompare (.ref x) (cmpInfo op).2.1 b) (fun r s' => ∃ v, r = some v ∧ Q v s') E s := by
    unfold tryCompare
    refine wpAny_bind (ifBound_K X I hs hf (wpAny_mono h (fun v s' hv => ?_) fun _ _ e => e))
    cases v <;> first | exact hv.elim | exact wpAny_pure ⟨_, rfl, hv⟩
  have two : ∀ r s', (∃ v, r = some v ∧ Q v s') → wpAny (model prog w) A (pure r : Sem (Option Value)) (fun r s' => ∃ v, r = some v ∧ Q v s') E s' := fun r s' q => wpAny_pure q
  unfold richCompare
  simp only [oneThing_ref]
  refine wpAny_holding (wpAny_bind (wpAny_cRoomFor hu ?_))
  refine wpAny_bind (I.type.here (wpAny_bind (hb.here ?_)))
  by_cases q : (Value.ref C != tb) = true
  · have e : subIn K tb (.ref C) = some false := by
      rcases Bool.or_eq_true_iff.mp hn with e | e
      · rw [beq_iff_eq.mp e] at q; simp at q
      · exact beq_iff_eq.mp e
    rw [if_pos q]
    refine wpAny_bind ((looks_subIn X e).here ?_)
    simp only [Bool.false_eq_true, if_false]
    refine wpAny_bind (wpAny_mono one (fun r s' z => ?_) fun _ _ e => e)
    obtain ⟨v, rfl, hq⟩ := z
    exact wpAny_pure hq
  · rw [if_neg q]
    refine wpAny_bind (wpAny_pure ?_)
    simp only [Bool.false_eq_true, if_false]
    refine wpAny_bind (wpAny_mono one (fun r s' z => ?_) fun _ _ e => e)
    obtain ⟨v, rfl, hq⟩ := z
    exact wpAny_pure hq
theorem asInt_obj {M : Model} {a : Addr} {o : Obj} {Q : Option Int → Shared → Prop} (ho : s.heap.get? a = some o) (hd : o.data = .plain) (h : Q none s) : wpAny M A (asInt? (.ref a)) Q E s := by
  unfold asInt?
  refine wpAny_bind (wpAny_load ho ?_)
  rw [hd]
  exact wpAny_pure h
theorem int_sub_decl {M : Model} {a : Int} {t : Tok} {x : Addr} {o : Obj} (ho : s.heap.get? x = some o) (hd : o.data = .plain) {Q : Fin → Shared → Prop} (h : Q (.done (.ret .notImplemented)) s) :
    wpAny M A (Builtin.«int.__sub__» ⟨[.int a t, .ref x], []⟩) Q E s := by
  wp_walk using asInt_obj ho hd
  rw [hd]
  wp_walk
  exact h
theorem int_div_decl {M : Model} {a : Int} {t : Tok} {x : Addr} {o : Obj} (ho : s.heap.get? x = some o) (hd : o.data = .plain) {Q : Fin → Shared → Prop} (h : Q (.done (.ret .notImplemented)) s) :
    wpAny M A (Builtin.«int.__truediv__» ⟨[.int a t, .ref x], []⟩) Q E s := by
  wp_walk using asInt_obj ho hd
  rw [hd]
  wp_walk
  exact h
/-- the left operand is of a built-in type whose method declines; the right one's own method answers -/
theorem bin1_right {Q : Option Value → Shared → Prop} {nm : String} {a b ta tb : Value} (la : Looks (model prog w) s.heap (typeOf a) ta) (lb : Looks (model prog w) s.heap (typeOf b) tb) (hne : (ta == tb) = false) (lf : Looks (model prog w) s.heap (fillsNumberSlot ta nm) true)
    (rf : Looks (model prog w) s.heap (fillsNumberSlot tb nm) true) (ls : Looks (model prog w) s.heap (isSubtype tb ta) false) (l1 : Looks (model prog w) s.heap (numberSlotInPython ta nm) false)
    (decl : ∀ {Q : Option Value → Shared → Prop} {E : Value → Shared → Prop}, (Q none s) → wpAny (model prog w) A (tryMethod a (PySem.dunder nm) b) Q E s)
    (one : wpAny (model prog w) A (tryMethod b (dunderR nm) a) (fun r s' => ∃ v, r = some v ∧ Q (some v) s') E s) : wpAny (model prog w) A (binaryOp1 nm a b) Q E s := by
  obtain ⟨hh, g, d, tt, os⟩ := s
  replace la : Looks (model prog w) hh (typeOf a) ta := la
  replace lb : Looks (model prog w) hh (typeOf b) tb := lb
  replace lf : Looks (model prog w) hh (fillsNumberSlot ta nm) true := lf
  replace rf : Looks (model prog w) hh (fillsNumberSlot tb nm) true := rf
  replace ls : Looks (model prog w) hh (isSubtype tb ta) false := ls
  replace l1 : Looks (model prog w) hh (numberSlotInPython ta nm) false := l1
  unfold binaryOp1
  refine wpAny_bind (la.at (wpAny_bind (lb.at (wpAny_bind (lf.at ?_)))))
  simp only [hne, Bool.false_eq_true, if_false]
  ksp_lk
  refine decl ?_
  ksp_lk
  refine wpAny_mono one (fun r s' hr' => ?_) fun _ _ e => e
  obtain ⟨v, rfl, hq⟩ := hr'
  ksp_lk
  exact hq
theorem try_int_sub {a : Int} {t : Tok} {x : Addr} {o : Obj} {Q : Option Value → Shared → Prop} (ho : s.heap.get? x = some o) (hd : o.data = .plain) (h : Q none s) : wpAny (model prog w) A (tryMethod (.int a t) (PySem.dunder "sub") (.ref x)) Q E s := by
  have c : wpAny (model prog w) A (call (.builtin "int.__sub__") (.int a t :: [.ref x])) (fun v s' => v = .notImplemented ∧ Q none s') E s :=
    wpAny_call_entry F.slot_int_sub (typeIs_int s a t) F.entry_int_sub (int_sub_decl (Q := fun fin s' => ∃ v, fin = .done (.ret v) ∧ (v = .notImplemented ∧ Q none s')) ho hd ⟨_, rfl, rfl, h⟩) (F.args_int_sub_2 _ _)
  have k2 := typeIs_int s a t
  generalize (.int a t : Value) = X at *
  exact wpAny_tryMethod_declines k2 F.slot_int_sub c
theorem try_int_div {a : Int} {t : Tok} {x : Addr} {o : Obj} {Q : Option Value → Shared → Prop} (ho : s.heap.get? x = some o) (hd : o.data = .plain) (h : Q none s) : wpAny (model prog w) A (tryMethod (.int a t) (PySem.dunder "truediv") (.ref x)) Q E s := by
  have c : wpAny (model prog w) A (call (.builtin "int.__truediv__") (.int a t :: [.ref x])) (fun v s' => v = .notImplemented ∧ Q none s') E s :=
    wpAny_call_entry F.slot_int_truediv (typeIs_int s a t) F.entry_int_truediv (int_div_decl (Q := fun fin s' => ∃ v, fin = .done (.ret v) ∧ (v = .notImplemented ∧ Q none s')) ho hd ⟨_, rfl, rfl, h⟩) (F.args_int_truediv_2 _ _)
  have k2 := typeIs_int s a t
  generalize (.int a t : Value) = X at *
  exact wpAny_tryMethod_declines k2 F.slot_int_truediv c
/-- int op x, answered by x's reflected method -/
theorem o_binL {op : Operator} {nm : String} {a : Int} {t : Tok} {f0 : Addr} (W : Wd K D) (H : At D Fs R s) (hm : F ∈ Fs) (ho : IsObj C x F) (hc : selfFirst K C = true) (en : op.info.2 = nm)
    (hs : findIn K (.ref C) (PySem.dunder nm) = some (some (.ref f0))) (hr : findIn K (.ref C) (dunderR nm) = some (some (.ref f))) (hf : isFn K (.ref f) = true) (hfill : fillsNumberSlot (.type "int") nm = pure true) (hsub : subIn K (.ref C) (.type "int") = some false)
    (decl : ∀ {o : Obj} {Q : Option Value → Shared → Prop} {E : Value → Shared → Prop}, s.heap.get? x = some o → o.data = .plain → Q none s → wpAny (model prog w) A (tryMethod (.int a t) (PySem.dunder nm) (.ref x)) Q E s)
    (h : wpAny (model prog w) A (call (.ref f) [.ref x, .int a t]) (PySem.W.CmpBack Q) E s) : wpAny (model prog w) A (binaryOp op (.int a t) (.ref x)) Q E s := by
  obtain ⟨m, I, _⟩ := ho.inst H hm
  obtain ⟨dx, hx, hdx⟩ := I
  have I' : Inst s.heap x C m := ⟨dx, hx, hdx⟩
  obtain ⟨ox, od, I2, _⟩ := I'.at
  obtain ⟨cd, rest, hcd, hmr⟩ := cls_self hc
  have X := At.kin W H
  refine bin_of1 ?_
  rw [en]
  refine bin1_right (Looks.of_pure rfl) I2.type (by rfl) (Looks.of_pure hfill) (fills_K X hcd hmr hs) (looks_subIn X hsub) (Looks.of_pure (r := false) rfl) (fun q => decl hx rfl q) (try_fn (Q := fun r s' => ∃ v', r = some v' ∧ Q v' s') X I2 hr hf (wpAny_mono h (fun v s' q => cmpBack_some q) fun _ _ e => e))
theorem o_inplL {op : Operator} {nm : String} {a : Int} {t : Tok} {f0 : Addr} (W : Wd K D) (H : At D Fs R s) (hm : F ∈ Fs) (ho : IsObj C x F) (hc : selfFirst K C = true) (en : op.info.2 = nm) (noI : typeLookup (.type "int") (dunderI nm) = pure none)
    (hs : findIn K (.ref C) (PySem.dunder nm) = some (some (.ref f0))) (hr : findIn K (.ref C) (dunderR nm) = some (some (.ref f))) (hf : isFn K (.ref f) = true) (hfill : fillsNumberSlot (.type "int") nm = pure true) (hsub : subIn K (.ref C) (.type "int") = some false)
    (decl : ∀ {o : Obj} {Q : Option Value → Shared → Prop} {E : Value → Shared → Prop}, s.heap.get? x = some o → o.data = .plain → Q none s → wpAny (model prog w) A (tryMethod (.int a t) (PySem.dunder nm) (.ref x)) Q E s)
    (h : wpAny (model prog w) A (call (.ref f) [.ref x, .int a t]) (PySem.W.CmpBack Q) E s) : wpAny (model prog w) A (inplaceOp op (.int a t) (.ref x)) Q E s := by
  obtain ⟨m, I, _⟩ := ho.inst H hm
  obtain ⟨dx, hx, hdx⟩ := I
  have I' : Inst s.heap x C m := ⟨dx, hx, hdx⟩
  obtain ⟨ox, od, I2, _⟩ := I'.at
  obtain ⟨cd, rest, hcd, hmr⟩ := cls_self hc
  have X := At.kin W H
  have hfi : ∀ add, fillsInplaceSlot (.type "int") nm add = pure false := fun add => by
    unfold fillsInplaceSlot
    dsimp only
    rw [noI]
    rfl
  refine inpl_of1 (ta := .type "int") (Looks.of_pure rfl) (by rw [en]; exact Looks.of_pure (hfi _)) ?_
  rw [en]
  refine bin1_right (Looks.of_pure rfl) I2.type (by rfl) (Looks.of_pure hfill) (fills_K X hcd hmr hs) (looks_subIn X hsub) (Looks.of_pure (r := false) rfl) (fun q => decl hx rfl q) (try_fn (Q := fun r s' => ∃ v', r = some v' ∧ Q v' s') X I2 hr hf (wpAny_mono h (fun v s' q => cmpBack_some q) fun _ _ e => e))
theorem o_inplT {op : Operator} {T : String} {fo ro rc : Option Value} {cd : ClassData} (W : Wd K D) (H : At D Fs R s) (hm : F ∈ Fs) (ho : IsObj C x F) (hc : selfFirst K C = true)
    (hs : findIn K (.ref C) (PySem.dunder op.info.2) = some (some (.ref f))) (hf : isFn K (.ref f) = true) (hb : typeOf b = pure (.type T)) (hr : findIn K (.ref C) (dunderR op.info.2) = some rc) (hp : rc = none ∨ ∃ g : Addr, rc = some (.ref g))
    (h1 : findIn K (.type T) (PySem.dunder op.info.2) = some fo) (h2 : findIn K (.type T) (dunderR op.info.2) = some ro) (hsub : subIn K (.type T) (.ref C) = some false)
    (hcd : clsIn K C = some cd) (hcm : cd.mro = [.ref C, .type "object"]) (i1 : findIn K (.ref C) (dunderI op.info.2) = some none) (i2 : findIn K (.type "object") (dunderI op.info.2) = some none)
    (h : wpAny (model prog w) A (call (.ref f) [.ref x, b]) (PySem.W.CmpBack Q) E s) : wpAny (model prog w) A (inplaceOp op (.ref x) b) Q E s := by
  obtain ⟨m, I, _⟩ := ho.inst H hm
  obtain ⟨ox, od, I, _⟩ := I.at
  exact inpl_of1 I.type (noInpl (At.kin W H) hcd hcm i1 i2) (o_bin1T W H hm ho hc hs hf hb hr hp h1 h2 hsub h)
end
end Mine

set_option maxRecDepth 100000
namespace Mine
def IntBack (Q : Value → Shared → Prop) (v : Value) (s' : Shared) : Prop := match v with
  | .int n t => Q (.int n t) s'
  | _ => False
section
variable {prog : Program} {w : World} {A : Around} {E : Value → Shared → Prop} {D : Dat} {Fs : List Fact} {R R' : List Res} {s : Shared} {K : Frag}
variable {x C f : Addr} {F : Fact} {Q : Value → Shared → Prop}
theorem int_new_obj {ox : Obj} {od : Option Obj} (X : K.In s.heap) (I : InstAt s.heap x ox C od) (hs : findIn K (.ref C) "__int__" = some (some (.ref f))) (hf : isFn K (.ref f) = true)
    (h : wpAny (model prog w) A (call (.ref f) [.ref x]) (IntBack Q) E s) : wpAny (model prog w) A (Builtin.«int.__new__» ⟨[.type "int", .ref x], []⟩) (fun r s' => ∃ v, r = .done (.ret v) ∧ ∃ n t, v = .int n t ∧ Q v s') E s := by
  have f1 := F.conv_sub_int
  have f2 := F.madeHere_int
  have c : wpAny (model prog w) A (callSpecial? (.ref x) (Str.ofString "__int__") []) (fun r s' => ∃ n t, r = some (.int n t) ∧ Q (.int n t) s') E s :=
    special_fn X I hs (beq_iff_eq.mp hf) (wpAny_mono h (fun r s' hr => by
      cases r <;> first | exact hr.elim | exact ⟨_, _, rfl, hr⟩) fun _ _ y => y)
  clear h
  obtain ⟨hp, g, d, tk, os⟩ := s
  repeat (any_goals (first
      | assumption
      | ((with_reducible show wpAny _ _ (callSpecial? _ _ _) _ _ _); refine wpAny_mono c ?_ (fun _ _ y => y); rintro r s' ⟨n, t, rfl, hq⟩)
      | wp_step))
  all_goals exact ⟨_, rfl, n, t, rfl, hq⟩
theorem int_call_obj {ox : Obj} {od : Option Obj} (X : K.In s.heap) (I : InstAt s.heap x ox C od) (hs : findIn K (.ref C) "__int__" = some (some (.ref f))) (hf : isFn K (.ref f) = true)
    (h : wpAny (model prog w) A.in1.in1 (call (.ref f) [.ref x]) (IntBack Q) E s) : wpAny (model prog w) A (call (.type "int") [.ref x]) Q E s := by
  refine callType_codes (T := "int") (Bi := Builtin.«object.__init__») (Q₁ := fun r s₁ => ∃ n u, r = .int n u ∧ Q r s₁) PySem.F.called_int (PySem.F.typeCall_int_1 _) PySem.F.entry_object_init ?_ ?_
  · refine codeAny_of_tree ?_
    show wpAny _ A.in1.in1 (do checkBuiltinCall "int.__new__" ⟨[.type "int", .ref x], []⟩; again (.builtin "int.__new__" ⟨[.type "int", .ref x], []⟩)) _ _ s
    refine wpAny_bind (wpAny_of_eq (PySem.F.newCall_int_1 _) (wpAny_pure ⟨plainId_quiet (by decide +kernel) _, codeAny_builtin PySem.F.entry_int_new ?_⟩))
    rw [Around.under_plainId (by decide +kernel) _]
    exact wpAny_mono (int_new_obj X I hs hf h) (fun r s₁ ⟨v, e, hr⟩ => by subst e; exact hr) fun _ _ y => y
  · rintro obj s₁ ⟨y, u, rfl, hq⟩
    exact ⟨typeIs_int _ _ _, PySem.F.args_object_init_2 _ _, object_init_meets PySem.F.called_int.init.lookup PySem.F.called_int.made (by decide) prog w A.in1 _ s₁ ⟨typeIs_int _ _ _, rfl, hq⟩⟩
/-- int(x), x an object of the program's -/
theorem o_int (W : Wd K D) (H : At D Fs R s) (hm : F ∈ Fs) (ho : IsObj C x F) (hs : findIn K (.ref C) "__int__" = some (some (.ref f))) (hf : isFn K (.ref f) = true)
    (h : wpAny (model prog w) A.in1.in1 (call (.ref f) [.ref x]) (IntBack Q) E s) : wpAny (model prog w) A (call (.type "int") [.ref x]) Q E s := by
  obtain ⟨m, I, _⟩ := ho.inst H hm
  obtain ⟨ox, od, I, _⟩ := I.at
  exact int_call_obj (At.kin W H) I hs hf h
/-- l += b -/
theorem r_iaddL {l b : Addr} {vs ws : List Value} (H : At D Fs R s) (hp : Rp (Lst l vs) (Lst l (vs ++ ws)) R R') (hb : s.heap.PlainList b ws.toArray) (hz : vs.length + ws.length ≤ 1000000) (h : ∀ s', At D Fs R' s' → Q (.ref l) s') :
    wpAny (model prog w) A (inplaceOp .Add (.ref l) (.ref b)) Q E s := by
  obtain ⟨n, hl⟩ := H.res _ hp.mem
  obtain ⟨n2, hb⟩ := hb
  have ha : s.TypeIs (.ref l) "list" := ⟨_, hl, rfl⟩
  have hb' : s.TypeIs (.ref b) "list" := ⟨_, hb, rfl⟩
  have hfi : fillsInplaceSlot (.type "list") "add" (Operator.Add == .Add) = pure false := by
    unfold fillsInplaceSlot
    show (typeLookup (.type "list") (dunderI "add") >>= fun fi => pure (fi.isSome && !isSeqSlot fi)) = pure false
    rw [F.slot_list_iadd.lookup, pure_bind]
    exact congrArg pure (by decide +kernel)
  have hsi : seqSlot? (.type "list") (dunderI "add") = pure (some (.builtin "list.__iadd__")) := PySem.seqSlot_of F.slot_list_iadd.lookup (by decide +kernel)
  unfold inplaceOp
  refine wpAny_holding ?_
  refine wpAny_bind (wpAny_typeOf ha (wpAny_bind (wpAny_of_eq hfi ?_)))
  show wpAny _ A (if false = true then _ else _) Q E s
  rw [if_neg Bool.false_ne_true]
  refine wpAny_bind (wpAny_binaryOp1_none (nm := "add") ha hb' noFill_list_add ?_)
  refine wpAny_bind (wpAny_of_eq hsi ?_)
  refine wpAny_bind (wpAny_rule ?_)
  have hz' : vs.toArray.size + ws.toArray.size ≤ 1000000 := by simpa using hz
  refine call_meets F.slot_list_iadd ha F.entry_list_iadd (F.args_list_iadd_2 _ _) (AutoSeq1.list___iadd___list_list_0 l vs.toArray n b ws.toArray n2 ?_ ?_ ?_) ⟨hl, hb, ?_⟩
  · have e : Builtin.List.listTooLong (vs.toArray.size + ws.toArray.size) = false := by
      have q := sizeLine_eq; simp [Builtin.List.listTooLong]; simp at hz'; omega
    rw [e]; simp
  · rw [sizeLine_eq]; omega
  · rw [sizeLine_eq]; omega
  · refine h _ (H.upd (gens' := s.gens) (tk := s.toks) hp rfl (fun b o nb e => (Heap.get?_update_other _ _ (Ne.symm fun q => nb (List.mem_singleton.mpr q))).trans e) ?_ H.gens)
    have e := IsL.update hl (fun xs => xs ++ ws.toArray)
    have e2 : vs.toArray ++ ws.toArray = (vs ++ ws).toArray := by simp
    simp only [e2] at e
    exact ⟨_, e⟩
/-- t + b, tuples -/
theorem r_addT {t b : Addr} {vs ws : List Value} (H : At D Fs R s) (ht : TupF t vs ∈ Fs) (hb : TupF b ws ∈ Fs) (hv : 0 < vs.length) (hw : 0 < ws.length) (hz : vs.length + ws.length ≤ 1000000) (h : ∀ t' s', At D (TupF t' (vs ++ ws) :: Fs) R s' → Q (.ref t') s') :
    wpAny (model prog w) A (binaryOp .Add (.ref t) (.ref b)) Q E s := by
  obtain ⟨⟨cls, dd, data, sl⟩, ho, hc, n, hd⟩ := isTup (H.fact ht)
  obtain ⟨⟨cls2, dd2, data2, sl2⟩, ho2, hc2, n2, hd2⟩ := isTup (H.fact hb)
  simp only at hc hd hc2 hd2
  subst hc hd hc2 hd2
  have e : vs.toArray ++ ws.toArray = (vs ++ ws).toArray := by simp
  have hv' : vs ≠ [] := by rintro rfl; simp at hv
  have hw' : ws ≠ [] := by rintro rfl; simp at hw
  refine concat_meets ⟨_, ho, rfl⟩ ⟨_, ho2, rfl⟩ noFill_tuple_add seq_tuple_add PySem.F.slot_tuple_add PySem.F.entry_tuple_add (PySem.F.args_tuple_add_2 _ _)
        (tuple_addW2 t b vs.toArray ws.toArray n n2 dd dd2 sl sl2 (by simpa using hv') (by simpa using hw') (by rw [List.size_toArray, List.size_toArray, sizeLine_eq]; omega)) ⟨ho, ho2, ?_⟩
  rw [e]
  exact h _ _ (H.new (tk := s.toks) rfl fun _ e => ⟨_, e, rfl, 0, rfl⟩)

/-- a scalar: its number, and whether it is a field element -/
abbrev Sx := Int × Bool
def SxH (C : Addr) (p : Int) (v : Value) (x : Sx) (h : Heap) : Prop := match x.2 with
  | false => ∃ t, v = .int x.1 t
  | true => ∃ a, v = .ref a ∧ FQh C a p x.1 h
theorem SxH.ext {C : Addr} {p : Int} {v : Value} {x : Sx} {h h' : Heap} (k : Ext h h') : SxH C p v x h → SxH C p v x h' := by
  obtain ⟨n, b⟩ := x
  cases b
  · exact id
  · exact fun ⟨a, e, q⟩ => ⟨a, e, q.ext k⟩
def SxF (C : Addr) (p : Int) (v : Value) (x : Sx) : Fact := ⟨SxH C p v x, SxH.ext⟩
def SxsH (C : Addr) (p : Int) (vs : List Value) (xs : List Sx) (h : Heap) : Prop := vs.length = xs.length ∧ ∀ (i : Nat) (v : Value) (x : Sx), vs[i]? = some v → xs[i]? = some x → SxH C p v x h
theorem SxsH.ext {C : Addr} {p : Int} {vs : List Value} {xs : List Sx} {h h' : Heap} (k : Ext h h') (q : SxsH C p vs xs h) : SxsH C p vs xs h' := ⟨q.1, fun i v x a b => (q.2 i v x a b).ext k⟩
def SxsF (C : Addr) (p : Int) (vs : List Value) (xs : List Sx) : Fact := ⟨SxsH C p vs xs, SxsH.ext⟩
theorem At.add1 {F : Fact} (H : At D Fs R s) (q : F.holds (seen D R s.heap)) : At D (F :: Fs) R s := ⟨H.os, H.gens, H.tab, H.cs, H.nodup, H.res, H.base, fun F hF => by
    rcases List.mem_cons.mp hF with rfl | hF
    · exact q
    · exact H.facts _ hF⟩
section
variable {C : Addr} {p : Int} {vs : List Value} {xs : List Sx} {v : Value} {x : Sx} {l : Addr}
theorem At.sxLen (H : At D Fs R s) (h : SxsF C p vs xs ∈ Fs) : vs.length = xs.length := (H.facts _ h : SxsH C p vs xs _).1
theorem At.sxSet (H : At D Fs R s) {j : Nat} (h1 : SxsF C p vs xs ∈ Fs) (h2 : SxF C p v x ∈ Fs) : At D (SxsF C p (vs.set j v) (xs.set j x) :: Fs) R s := H.add1 ⟨by simpa using H.sxLen h1, fun i u y e1 e2 => by
  have q := (H.facts _ h1 : SxsH C p vs xs _)
  have hl := q.1
  by_cases c : j = i
  · subst c
    rw [List.getElem?_set] at e1 e2
    simp only [if_true] at e1 e2
    split at e1
    · split at e2
      · cases e1; cases e2; exact H.facts _ h2
      · cases e2
    · cases e1
  · rw [List.getElem?_set_ne c] at e1 e2
    exact q.2 i u y e1 e2⟩
theorem At.sxInt (H : At D Fs R s) (k : Int) (t : Tok) : At D (SxF C p (.int k t) (k, false) :: Fs) R s := H.add1 ⟨t, rfl⟩
theorem At.sxFQ {a : Addr} {n : Int} (H : At D Fs R s) (h : FQF C a p n ∈ Fs) : At D (SxF C p (.ref a) (n, true) :: Fs) R s := H.add1 ⟨a, rfl, H.facts _ h⟩
theorem At.sxInts {ns : List Int} (H : At D Fs R s) (h : IntsAre vs ns) : At D (SxsF C p vs (ns.map fun n => (n, false)) :: Fs) R s := H.add1 ⟨by simpa using h.length, fun i v x e1 e2 => by
  obtain ⟨n, t, rfl, e⟩ := h.at i v e1
  rw [List.getElem?_map, e] at e2
  cases e2
  exact ⟨t, rfl⟩⟩
theorem At.sxFQs {ns : List Int} (H : At D Fs R s) (h : FQsF C p vs ns ∈ Fs) : At D (SxsF C p vs (ns.map fun n => (n, true)) :: Fs) R s := H.add1 ⟨by simpa using H.fqLen h, fun i v x e1 e2 => by
  obtain ⟨a, n, rfl, e, q⟩ := (H.facts _ h : FQs C p _ vs ns).at i v e1
  rw [List.getElem?_map, e] at e2
  cases e2
  exact ⟨a, rfl, q⟩⟩
theorem At.sxApp {ws : List Value} {ys : List Sx} (H : At D Fs R s) (h1 : SxsF C p vs xs ∈ Fs) (h2 : SxsF C p ws ys ∈ Fs) : At D (SxsF C p (vs ++ ws) (xs ++ ys) :: Fs) R s := H.add1 ⟨by
    have a := H.sxLen h1; have b := H.sxLen h2; simp; omega, fun i v x e1 e2 => by
  have hl := H.sxLen h1
  by_cases c : i < vs.length
  · rw [List.getElem?_append_left c] at e1
    rw [List.getElem?_append_left (by omega)] at e2
    exact (H.facts _ h1 : SxsH C p vs xs _).2 i v x e1 e2
  · rw [List.getElem?_append_right (by omega)] at e1 e2
    rw [← hl] at e2
    exact (H.facts _ h2 : SxsH C p ws ys _).2 _ v x e1 e2⟩
/-- what a scalar is -/
theorem At.sxCases (H : At D Fs R s) (h : SxF C p v x ∈ Fs) : (∃ t n, v = .int n t ∧ x = (n, false)) ∨ (∃ a n, v = .ref a ∧ x = (n, true) ∧ At D (FQF C a p n :: Fs) R s) := by
  obtain ⟨n, b⟩ := x
  have q := (H.facts _ h : SxH C p v (n, b) _)
  cases b
  · obtain ⟨t, e⟩ := q; exact .inl ⟨t, n, e, rfl⟩
  · obtain ⟨a, e, f⟩ := q; exact .inr ⟨a, n, e, rfl, H.add1 f⟩
theorem sxs_idx {h : Heap} (q : SxsH C p vs xs h) {k : Int} (h0 : 0 ≤ k) (h1 : k < xs.length) : ∃ v, vs[k.toNat]? = some v ∧ SxH C p v (xs.getD k.toNat (0, false)) h := by
  have hl := q.1
  have c : k.toNat < vs.length := by omega
  have c2 : k.toNat < xs.length := by omega
  exact ⟨vs[k.toNat], by simp [c], q.2 k.toNat _ _ (by simp [c]) (by simp [List.getD, c2])⟩
theorem r_itemTX {value slice : Expr} {k : Int} {u : Tok} (H : At D Fs R s) (hm : TupF l vs ∈ Fs) (hq : SxsF C p vs xs ∈ Fs) (h0 : 0 ≤ k) (h1 : k < xs.length) (h2 : k < 2 ^ 60) (h : ∀ v, At D (SxF C p v (xs.getD k.toNat (0, false)) :: Fs) R s → Q v s)
    (hs : subscripted slice false (.ref l) (.int k u) = operate [.ref l, .int k u] (getItem (.ref l) (.int k u))) : wpAny (model prog w) A (subscriptTail value slice (.ref l) (.int k u)) Q E s := by
  obtain ⟨a, e, q⟩ := sxs_idx (H.facts _ hq) h0 h1
  exact r_itemT H hm h0 h2 e (h a (H.add1 q)) hs
theorem r_itemLX {value slice : Expr} {k : Int} {u : Tok} (H : At D Fs R s) (hl : s.heap.PlainList l vs.toArray) (hq : SxsF C p vs xs ∈ Fs) (h0 : 0 ≤ k) (h1 : k < xs.length) (h2 : k < 2 ^ 60) (h : ∀ v, At D (SxF C p v (xs.getD k.toNat (0, false)) :: Fs) R s → Q v s)
    (hs : subscripted slice false (.ref l) (.int k u) = operate [.ref l, .int k u] (getItem (.ref l) (.int k u))) : wpAny (model prog w) A (subscriptTail value slice (.ref l) (.int k u)) Q E s := by
  obtain ⟨a, e, q⟩ := sxs_idx (H.facts _ hq) h0 h1
  have hL := Heap.PlainList.isList hl
  exact tail_any (Heap.IsList.typeIs hL) slot_list_getitem.lookup (wpAny_getItem_list hL h0 (by omega) (by simpa using e) (h a (H.add1 q))) hs
theorem r_giLX {k : Int} {u : Tok} (H : At D Fs R s) (hl : s.heap.PlainList l vs.toArray) (hq : SxsF C p vs xs ∈ Fs) (h0 : 0 ≤ k) (h1 : k < xs.length) (h2 : k < 2 ^ 60) (h : ∀ v, At D (SxF C p v (xs.getD k.toNat (0, false)) :: Fs) R s → Q v s) :
    wpAny (model prog w) A (getItem (.ref l) (.int k u)) Q E s := by
  obtain ⟨a, e, q⟩ := sxs_idx (H.facts _ hq) h0 h1
  exact wpAny_getItem_list (Heap.PlainList.isList hl) h0 (by omega) (by simpa using e) (h a (H.add1 q))
end
/-- a copy of a list by [x for x in l] -/
def cpG (vs : List Value) (i : Nat) (ys : List Value) (Gs : List Fact) : Prop := ys = vs.take i ∧ i ≤ vs.length ∧ Gs = []
theorem cpG.zero {vs : List Value} : cpG vs 0 [] [] := ⟨by simp, Nat.zero_le _, rfl⟩
theorem cpG.len {vs : List Value} {i : Nat} {ys : List Value} {Gs : List Fact} (h : cpG vs i ys Gs) (hz : vs.length ≤ 1000000) : ys.length ≤ 1000000 := by obtain ⟨rfl, b, _⟩ := h; simp; omega
theorem cpG.hold {C : Addr} {l : List (Str × Value)} {vs ys : List Value} {Gs Fs' : List Fact} {i : Nat} {v : Value} (h : cpG vs i ys Gs) (hv : vs[i]? = some v) (H : At D Fs' (Vars C l :: R) s) (hF : ∀ F ∈ Fs, F ∈ Fs') :
    Hold (∃ F' l', cpG vs (i + 1) (ys ++ [v]) F' ∧ At D (F' ++ Fs) (Vars C l' :: R) s) := by
  obtain ⟨rfl, b, rfl⟩ := h
  exact ⟨[], l, ⟨by rw [List.take_add_one, hv]; rfl, (List.getElem?_eq_some_iff.mp hv).1, rfl⟩, H.sub hF⟩
theorem cpG.done {vs ys : List Value} {Gs : List Fact} (h : cpG vs vs.length ys Gs) : ys = vs ∧ Gs = [] := ⟨by rw [h.1, List.take_length], h.2.2⟩
end
end Mine

set_option maxRecDepth 100000
namespace Mine
theorem slicePick_upto (vs : List Value) (k : Int) (h0 : 0 ≤ k) : slicePick vs.toArray none (some k) none = (vs.take k.toNat).toArray := by
  have e : sliceBounds none (some k) none vs.toArray.size = (((0 : Nat) : Int), ((min k.toNat vs.toArray.size : Nat) : Int), 1) := by
    simp only [sliceBounds, Option.getD_none, show (1 : Int) > 0 by decide, if_true, if_neg (show ¬ (k < 0) by omega)]
    congr 1
    congr 1
    omega
  rw [kmk_pick_nat _ e]
  show ((vs.drop 0).take (min k.toNat vs.toArray.size - 0)).toArray = _
  rw [List.drop_zero, Nat.sub_zero, List.size_toArray, kmk_take_min]
end Mine

namespace Mine
section
variable {i j m n : Nat}
theorem l0 : 0 ≤ (i : Int) := Int.natCast_nonneg _
theorem l00 : 0 ≤ (i : Int) + (j : Int) := by omega
theorem lij (hj : j < n - i) (e : m = n) : (i : Int) + (j : Int) < (m : Int) := by omega
theorem lijN (hj : j < n - i) (e : m = n) : ((i : Int) + (j : Int)).toNat < m := by omega
theorem lij6 (hj : j < n - i) (e : n ≤ 1000) : (i : Int) + (j : Int) < 2 ^ 60 := by omega
theorem li (hi : i < n) (e : m = n) : (i : Int) < (m : Int) := by omega
theorem liN (hi : i < n) (e : m = n) : ((i : Int)).toNat < m := by omega
theorem li6 (hi : i < n) (e : n ≤ 1000) : (i : Int) < 2 ^ 60 := by omega
theorem lsum (h : i + j < n) (e : m = n) : (i : Int) + (j : Int) < (m : Int) := by omega
theorem lsumN (h : i + j < n) (e : m = n) : ((i : Int) + (j : Int)).toNat < m := by omega
theorem lsum6 (h : i + j < n) (e : n ≤ 1000) : (i : Int) + (j : Int) < 2 ^ 60 := by omega
theorem tn2 : ((i : Int) + (j : Int)).toNat = i + j := by omega
theorem tn1 : ((i : Int)).toNat = i := by omega
theorem ci_lt {c i db n : Nat} (h : c < db + 1) (h2 : db + i < n) : c + i < n := by omega
theorem cx_lt {c i db n : Nat} (h : c < db + 1) (h2 : db + i < n) : c < n := by omega
theorem ix_lt {i db n : Nat} (h2 : db + i < n) : i < n := by omega
theorem dx_lt {i db n : Nat} (h2 : db + i < n) : db < n := by omega
end
end Mine

namespace Mine
section
local macro_rules | `(tactic| o_head ($f $k $a (fun _ => $b))) => `(tactic| o_head ($f (fun P => $k P ++ [(196, X.tableObj #[]), (310, X.tableObj #[])]) ($a ++ [196, 310]) ((fun _ => $b))))
set_option maxRecDepth 100000 in
set_option maxHeartbeats 8000000 in
open_top hd for PySem.Challenge.rw_bq0014_02
end
noncomputable def KK (P : Params) : Frag := hd.heap_39 P ++ [(196, X.tableObj #[]), (310, X.tableObj #[])]
theorem plain_of {P : Params} {h : Heap} {l : Addr} {vs : List Value} {x : List PyData} (w1 : Well P h (.ref l) (ofPy (PyData.list x))) (hL : h.IsList l vs.toArray) : h.PlainList l vs.toArray := by
  have e : ofPy (.list x) = .list (ofPys x) := rfl
  rw [e] at w1
  cases w1 with
  | list hg _ =>
    obtain ⟨o, ho, hc, n, hd⟩ := hL
    rw [hg] at ho
    cases ho
    have hd' := hd
    simp only [Data.seq.injEq] at hd'
    exact ⟨0, by rw [← hd'.1]; exact hg⟩
def LawDone : Prop := ∀ {prog : Program} {w : World} {mg mb : Str → Option Value} {s₁ : Shared} {fa l : Addr} {vs : List Value} {ns : List Int} {Q : Value → Shared → Prop} {E : Value → Shared → Prop}, (KK w.params).In s₁.heap → s₁.heap.Ns mainGlobals mg → s₁.heap.Ns builtinsNs mb → s₁.heap.NoLimit → (∀ x : Str, x ≠ "__name__" → mb x = bootBuiltins x) → (∃ bm ob, mg "__builtins__" = some (.ref bm) ∧ bm ≠ builtinsNs ∧ s₁.heap.get? bm = some ob ∧ ob.cls = .type "module" ∧ ob.dict = some builtinsNs ∧ ob.data = .plain) → mg "law" = some (.ref fa) → s₁.gens = #[] → s₁.heap.PlainList l vs.toArray → IntsAre vs ns → vs.length < 2 ^ 20 → (∀ s', OldK s₁.heap s'.heap → s'.os = s₁.os → AllBare s'.gens → Q (.bool true) s') → wpAny (model prog w) callerA (call (.ref fa) [.ref l]) Q E s₁
set_option maxRecDepth 100000 in
set_option maxHeartbeats 8000000 in
theorem fin_of (HH : LawDone) : PySem.Challenge.rw_bq0014_02.Holds := by
  w_on
  refine hd ?_
  intro w s₀ s₁ mg mb G Y fa o pm cd doc dV kV ho hd hcd hD hmg hg args vals as hpre hlay hrd hwl hlo
  have KX : (KK w.params).In s₁.heap := kIn_of Y
  have T := G.T
  clear hcd hD hd G Y ho
  wrow_args hpre hlay hrd hwl hlo
  rename_i ws _ _ _ _ _ _ _ l vs _ hL _ w1 _ hI _ hc _
  refine HH KX T.g T.b T.nolimit T.builtins T.bmain hmg hg (plain_of w1 hL) hI (by have := hI.length; omega) fun s' hK hos hgen => ⟨.inl ⟨_, .bool true, [], rfl, fun _ => ?_, .bool true, ?_, ?_⟩, hK, hos, hgen⟩
  · rfl
  · wrow_post
  · intro hu
    exact ⟨List.nodup_nil, fun a ha => by cases ha⟩
end Mine

namespace Mine
local macro_rules | `(tactic| k_extra "m mem") => `(tactic| first | with_reducible assumption | with_reducible exact mem_hd | (with_reducible refine mem_tl ?_; k_extra "m mem"))
local macro_rules | `(tactic| k_extra "m rp") => `(tactic| first | with_reducible exact Rp.head | (with_reducible refine' Rp.tail ?b; (case b => k_extra "m rp")))
local macro_rules | `(tactic| k_extra "m rm") => `(tactic| first | with_reducible exact Rm.head | (with_reducible refine' Rm.tail ?b; (case b => k_extra "m rm")))
local macro_rules | `(tactic| k_extra "m set") => `(tactic| first | with_reducible exact SetV.head | with_reducible exact SetV.nil | (refine' SetV.tail ?a ?b; (case a => decide); (case b => k_extra "m set")))
local macro_rules | `(tactic| k_extra "m subv") => `(tactic| repeat' (first | with_reducible exact SubV.refl | with_reducible exact SubV.nil | refine SubV.cons rfl ?_ | exact SubV.refl | exact SubV.nil))
local macro_rules | `(tactic| k_extra "m sub") => `(tactic| first | with_reducible exact Sub.nil | with_reducible exact Sub.refl _ | (refine' Sub.cons Imp.refl ?a ?c; (case a => k_extra "m rm"); (case c => k_extra "m sub")) | (refine' Sub.cons (Imp.vars ?b) ?a ?c; (case a => k_extra "m rm"); (case b => k_extra "m subv"); (case c => k_extra "m sub")) | (refine Sub.drop ?_; k_extra "m sub"))
local macro_rules | `(tactic| k_extra "m facts") => `(tactic| with_reducible first | exact subf_refl | exact subf_nil | (refine subf_cons (by k_extra "m mem") ?_; k_extra "m facts") | (refine subf_drop ?_; k_extra "m facts"))
local macro_rules | `(tactic| k_extra "m tails") => `(tactic| first | with_reducible assumption | (with_reducible refine mem_tl ?_; k_extra "m tails"))
local macro_rules | `(tactic| k_extra "m at") => `(tactic| with_reducible assumption)
local macro_rules | `(tactic| k_extra "m hh") => `(tactic| first | exact (by assumption : Ok _ _).handled | assumption)
local macro_rules | `(tactic| k_extra "m pl") => `(tactic| ((with_reducible rename At _ _ _ _ => $(Lean.mkIdent `hA):ident); first | exact At.plF $(Lean.mkIdent `hA):ident (by k_extra "m mem") | exact At.pl $(Lean.mkIdent `hA):ident (by k_extra "m mem")))
local macro_rules | `(tactic| walk_at "eval Name") => `(tactic| ((with_reducible rename At _ _ _ _ => $(Lean.mkIdent `hA):ident); with_unfolding_all refine' r_ldbuiltin (K := ?K) (by assumption) $(Lean.mkIdent `hA):ident ?e ?b ?_ ?n rfl rfl rfl rfl ?d; (case e => k_is); (case b => boot_by_name); (case n => decide); (case d => decide)))
local macro_rules | `(tactic| walk_at "eval Name") => `(tactic| ((with_reducible rename At _ _ _ _ => $(Lean.mkIdent `hA):ident); with_unfolding_all refine' r_ldglob (K := ?K) (by assumption) $(Lean.mkIdent `hA):ident ?e ?_ rfl rfl rfl ?d; (case e => k_is); (case d => decide)))
local macro_rules | `(tactic| walk_at "eval Name") => `(tactic| ((with_reducible rename At _ _ _ _ => $(Lean.mkIdent `hA):ident); with_unfolding_all refine' r_ldcell $(Lean.mkIdent `hA):ident ?m ?c ?_ rfl rfl ?d; (case c => exact rfl); (case m => k_extra "m mem"); (case d => decide)))
local macro_rules | `(tactic| walk_at "eval Name") => `(tactic| ((with_reducible rename At _ _ _ _ => $(Lean.mkIdent `hA):ident); with_unfolding_all refine' r_ldfree $(Lean.mkIdent `hA):ident ?m ?c ?_ rfl rfl ?d ?n; (case c => exact rfl); (case m => k_extra "m mem"); (case d => decide); (case n => decide)))
local macro_rules | `(tactic| walk_at "eval Name") => `(tactic| ((with_reducible rename At _ _ _ _ => $(Lean.mkIdent `hA):ident); with_unfolding_all refine' v_ld ?hL $(Lean.mkIdent `hA):ident ?m ?v ?_ rfl rfl ?d; (case hL => k_extra "m loc"); (case m => k_extra "m mem"); (case v => exact rfl); (case d => decide)))
local macro_rules | `(tactic| walk_at "loadName") => `(tactic| ((with_reducible rename At _ _ _ _ => $(Lean.mkIdent `hA):ident); with_unfolding_all refine' v_ldn ?hL $(Lean.mkIdent `hA):ident ?m ?v ?_ rfl rfl; (case hL => k_extra "m loc"); (case m => k_extra "m mem"); (case v => exact rfl)))
local macro_rules | `(tactic| walk_at "storeName") => `(tactic| ((with_reducible rename At _ _ _ _ => $(Lean.mkIdent `hA):ident); with_unfolding_all refine' v_st ?hL $(Lean.mkIdent `hA):ident ?p ?s ?_ rfl rfl; (case hL => k_extra "m loc"); (case p => k_extra "m rp"); (case s => k_extra "m set"); clear $(Lean.mkIdent `hA):ident; intro $(Lean.mkIdent `s9):ident $(Lean.mkIdent `hA):ident))
local macro_rules | `(tactic| walk_at "eval Constant int") => `(tactic| ((with_reducible rename At _ _ _ _ => $(Lean.mkIdent `hA):ident); refine r_int $(Lean.mkIdent `hA):ident ?_; clear $(Lean.mkIdent `hA):ident; intro $(Lean.mkIdent `t9):ident $(Lean.mkIdent `s9):ident $(Lean.mkIdent `hA):ident))
local macro_rules | `(tactic| walk_at "binaryOp Add int int") => `(tactic| ((with_reducible rename At _ _ _ _ => $(Lean.mkIdent `hA):ident); refine r_add $(Lean.mkIdent `hA):ident ?_; clear $(Lean.mkIdent `hA):ident; intro $(Lean.mkIdent `t9):ident $(Lean.mkIdent `s9):ident $(Lean.mkIdent `hA):ident))
local macro_rules | `(tactic| walk_at "binaryOp Sub int int") => `(tactic| ((with_reducible rename At _ _ _ _ => $(Lean.mkIdent `hA):ident); refine r_sub $(Lean.mkIdent `hA):ident ?_; clear $(Lean.mkIdent `hA):ident; intro $(Lean.mkIdent `t9):ident $(Lean.mkIdent `s9):ident $(Lean.mkIdent `hA):ident))
local macro_rules | `(tactic| walk_at "inplaceOp Add int int") => `(tactic| ((with_reducible rename At _ _ _ _ => $(Lean.mkIdent `hA):ident); refine r_iadd $(Lean.mkIdent `hA):ident ?_; clear $(Lean.mkIdent `hA):ident; intro $(Lean.mkIdent `t9):ident $(Lean.mkIdent `s9):ident $(Lean.mkIdent `hA):ident))
local macro_rules | `(tactic| walk_at "inplaceOp Sub int int") => `(tactic| ((with_reducible rename At _ _ _ _ => $(Lean.mkIdent `hA):ident); refine r_isub $(Lean.mkIdent `hA):ident ?_; clear $(Lean.mkIdent `hA):ident; intro $(Lean.mkIdent `t9):ident $(Lean.mkIdent `s9):ident $(Lean.mkIdent `hA):ident))
local macro_rules | `(tactic| walk_at "unaryOp USub int") => `(tactic| ((with_reducible rename At _ _ _ _ => $(Lean.mkIdent `hA):ident); refine r_neg $(Lean.mkIdent `hA):ident ?_; clear $(Lean.mkIdent `hA):ident; intro $(Lean.mkIdent `t9):ident $(Lean.mkIdent `s9):ident $(Lean.mkIdent `hA):ident))
local macro_rules | `(tactic| k_extra "m mulok") => `(tactic| first | assumption | exact PySem.IntMulOk.of_left (by decide) | exact PySem.IntMulOk.of_right (by decide) | exact PySem.IntMulOk.of_left (intBits_le (by omega)) | exact PySem.IntMulOk.of_right (intBits_le (by omega)))
local macro_rules | `(tactic| walk_at "binaryOp Mult int int") => `(tactic| ((with_reducible rename At _ _ _ _ => $(Lean.mkIdent `hA):ident); refine r_mul $(Lean.mkIdent `hA):ident (by k_extra "m mulok") ?_; clear $(Lean.mkIdent `hA):ident; intro $(Lean.mkIdent `t9):ident $(Lean.mkIdent `s9):ident $(Lean.mkIdent `hA):ident))
local macro_rules | `(tactic| walk_at "binaryOp Mod int int") => `(tactic| ((with_reducible rename At _ _ _ _ => $(Lean.mkIdent `hA):ident); refine r_mod $(Lean.mkIdent `hA):ident (by omega) ?_; clear $(Lean.mkIdent `hA):ident; intro $(Lean.mkIdent `t9):ident $(Lean.mkIdent `s9):ident $(Lean.mkIdent `hA):ident))
local macro_rules | `(tactic| k_extra "m size") => `(tactic| first | omega | (simp; omega) | (simp; done))
local macro_rules | `(tactic| walk_at "call builtin:len") => `(tactic| ((with_reducible rename At _ _ _ _ => $(Lean.mkIdent `hA):ident); (first | refine r_lenL $(Lean.mkIdent `hA):ident (by k_extra "m mem") (by k_extra "m size") ?_ | refine r_lenR $(Lean.mkIdent `hA):ident (by k_extra "m mem") (by k_extra "m size") ?_ | refine r_lenT $(Lean.mkIdent `hA):ident (by k_extra "m mem") (by k_extra "m size") ?_); clear $(Lean.mkIdent `hA):ident; intro $(Lean.mkIdent `t9):ident $(Lean.mkIdent `s9):ident $(Lean.mkIdent `hA):ident))
local macro_rules | `(tactic| walk_at "pyIter ref") => `(tactic| ((with_reducible rename At _ _ _ _ => $(Lean.mkIdent `hA):ident); (first | refine r_iterL $(Lean.mkIdent `hA):ident (by k_extra "m mem") ?_ | (refine' r_iterLR $(Lean.mkIdent `hA):ident ?rm ?_; (case rm => k_extra "m rm")) | refine r_iterT $(Lean.mkIdent `hA):ident (by k_extra "m mem") ?_ | refine r_iterU $(Lean.mkIdent `hA):ident (by k_extra "m mem") (by omega) ?_ | refine r_iterD $(Lean.mkIdent `hA):ident (by k_extra "m mem") (by omega) ?_ | refine r_iterR $(Lean.mkIdent `hA):ident (by k_extra "m mem") (by k_extra "m small") (by k_extra "m range0") ?_); clear $(Lean.mkIdent `hA):ident; intro $(Lean.mkIdent `I9):ident $(Lean.mkIdent `s9):ident $(Lean.mkIdent `hN9):ident $(Lean.mkIdent `hA):ident))
local macro_rules | `(tactic| k_extra "m small") => `(tactic| first | exact small_one (by omega) (by omega) (by omega) (by omega) | assumption)
local macro_rules | `(tactic| k_extra "m range0") => `(tactic| first | assumption | (rw [rangeSize_one]; split <;> omega))
local macro_rules | `(tactic| walk_at "call type:range") => `(tactic| ((with_reducible rename At _ _ _ _ => $(Lean.mkIdent `hA):ident); (first | refine r_range1 $(Lean.mkIdent `hA):ident ?_ | refine r_range2 $(Lean.mkIdent `hA):ident ?_); clear $(Lean.mkIdent `hA):ident; intro $(Lean.mkIdent `r9):ident $(Lean.mkIdent `s9):ident $(Lean.mkIdent `hA):ident))
local macro_rules | `(tactic| k_extra "m and") => `(tactic| ((with_reducible rename At _ _ _ _ => $(Lean.mkIdent `hA):ident); (first | with_reducible refine r_newL $(Lean.mkIdent `hA):ident (by simp) ?_ | with_reducible refine r_newT $(Lean.mkIdent `hA):ident (by simp) ?_); clear $(Lean.mkIdent `hA):ident; intro $(Lean.mkIdent `l9):ident $(Lean.mkIdent `s9):ident $(Lean.mkIdent `hA):ident))
local macro_rules | `(tactic| walk_at "binaryOp Mult ref int") => `(tactic| ((with_reducible rename At _ _ _ _ => $(Lean.mkIdent `hA):ident); refine r_mulL $(Lean.mkIdent `hA):ident (by k_extra "m pl") (by k_extra "m size") (by k_extra "m size") ?_; clear $(Lean.mkIdent `hA):ident; intro $(Lean.mkIdent `l9):ident $(Lean.mkIdent `s9):ident $(Lean.mkIdent `hA):ident))
local macro_rules | `(tactic| walk_at "subscriptTail") => `(tactic| ((with_reducible rename At _ _ _ _ => $(Lean.mkIdent `hA):ident); first | refine r_itemL $(Lean.mkIdent `hA):ident (by k_extra "m mem") (by k_extra "m size") (by k_extra "m size") (by k_extra "m idx") ?_ rfl | refine r_itemR $(Lean.mkIdent `hA):ident (by k_extra "m mem") (by k_extra "m size") (by k_extra "m size") (by k_extra "m idx") ?_ rfl | refine r_itemT $(Lean.mkIdent `hA):ident (by k_extra "m mem") (by k_extra "m size") (by k_extra "m size") (by k_extra "m idx") ?_ rfl))
local macro_rules | `(tactic| k_extra "m idx") => `(tactic| assumption)
local macro_rules | `(tactic| k_extra "m bind") => `(tactic| repeat' (first | exact allB_nil | (with_reducible refine allB_cons ?_ ?_) | (with_unfolding_all exact rfl)))
local macro_rules | `(tactic| k_extra "m enter") => `(tactic| (w_top off; (case W => assumption); (case ho => k_is); (case hcd => k_is); (case hb => exact rfl); (case hl => exact locs rfl); (case hm => exact rfl); (case c1 => decide); (case c2 => exact rfl); (case c3 => exact rfl); (case c4 => exact rfl); intro $(Lean.mkIdent `L9):ident $(Lean.mkIdent `s9):ident $(Lean.mkIdent `hK9):ident $(Lean.mkIdent `hA):ident))
local macro_rules | `(tactic| k_extra "m enterc") => `(tactic| (w_top off; (case W => assumption); (case ho => k_is); (case hcd => k_is); (case hb => exact rfl); (case hl => exact rfl); (case hm => (intro _; k_extra "m bind")); (case hcm => intro _; exact rfl); (case hum => intro _; exact rfl); (case hnd => decide +kernel); (case hud => (intro _; simp)); (case c2 => exact rfl); (case c3 => exact rfl); (case c4 => exact rfl); intro $(Lean.mkIdent `L9):ident $(Lean.mkIdent `s9):ident $(Lean.mkIdent `hK9):ident $(Lean.mkIdent `hA):ident; simp only [List.map_cons, List.map_nil, List.cons_append, List.nil_append] at $(Lean.mkIdent `hA):ident))
local macro_rules | `(tactic| k_extra "m loc") => `(tactic| first | with_reducible exact locals_envOf | with_reducible exact locals_envOfC | with_reducible exact locals_compEnvC | with_reducible exact locals_genEnv | exact locals_envOf | exact locals_envOfC | exact locals_compEnvC | exact locals_genEnv)
local macro_rules | `(tactic| walk_at "newList") => `(tactic| ((with_reducible rename At _ _ _ _ => $(Lean.mkIdent `hA):ident); refine r_nl $(Lean.mkIdent `hA):ident (by k_extra "m size") ?_; clear $(Lean.mkIdent `hA):ident; intro $(Lean.mkIdent `l9):ident $(Lean.mkIdent `s9):ident $(Lean.mkIdent `hA):ident))
local macro_rules | `(tactic| walk_at "newTuple") => `(tactic| ((with_reducible rename At _ _ _ _ => $(Lean.mkIdent `hA):ident); refine r_nt $(Lean.mkIdent `hA):ident (by k_extra "m size") ?_; clear $(Lean.mkIdent `hA):ident; intro $(Lean.mkIdent `l9):ident $(Lean.mkIdent `s9):ident $(Lean.mkIdent `hA):ident))
local macro_rules | `(tactic| walk_at "exec For") => `(tactic| (refine wpAny_For ?_ ?hs; (case hs => (intro _; with_unfolding_all exact rfl))))
local macro_rules | `(tactic| walk_at "exec While") => `(tactic| (refine wpAny_While ?_))
local macro_rules | `(tactic| walk_at "exec AugAssign Subscript") => `(tactic| refine wpAny_AugAssign_SubscriptAny ?_)
local macro_rules | `(tactic| walk_at "subscriptTail") => `(tactic| ((with_reducible rename At _ _ _ _ => $(Lean.mkIdent `hA):ident); (with_reducible show wpAny _ _ (subscriptTail _ _ (Value.ref _) (Value.ref _)) _ _ _); (first | refine r_slice $(Lean.mkIdent `hA):ident (by k_extra "m pl") .none .none (.int _ _) (by decide) (slicePick_rev _) (by k_extra "m size") ?_ | refine r_slice $(Lean.mkIdent `hA):ident (by k_extra "m pl") .none (.int _ _) .none (by decide) (by k_extra "m upto") (by k_extra "m size") ?_); clear $(Lean.mkIdent `hA):ident; intro $(Lean.mkIdent `l9):ident $(Lean.mkIdent `s9):ident $(Lean.mkIdent `hA):ident))
local macro_rules | `(tactic| k_extra "m to") => `(tactic| ((with_reducible rename At _ _ _ _ => $(Lean.mkIdent `hA):ident); exact At.to' $(Lean.mkIdent `hA):ident (by k_extra "m sub") (by k_extra "m facts")))
local macro_rules | `(tactic| walk_at "setItem ref int") => `(tactic| ((with_reducible rename At _ _ _ _ => $(Lean.mkIdent `hA):ident); refine' r_setL $(Lean.mkIdent `hA):ident ?rp ?ra ?rb ?rc ?_; (case rp => k_extra "m rp"); (case ra => k_extra "m size"); (case rb => k_extra "m size"); (case rc => k_extra "m len"); clear $(Lean.mkIdent `hA):ident; intro $(Lean.mkIdent `s9):ident $(Lean.mkIdent `hA):ident))
local macro_rules | `(tactic| k_extra "m len") => `(tactic| first | omega | (simp; done) | (simp; omega))
local macro_rules | `(tactic| k_extra "m idx") => `(tactic| first | assumption | (simp only [Int.zero_add, Int.mul_one]; assumption))
local macro_rules | `(tactic| k_extra "m ints") => `(tactic| first | with_reducible assumption | (with_reducible refine' ints_set ?a _ _ _; (case a => k_extra "m ints")) | with_reducible exact ints_rep _ _ _ | with_reducible exact .nil | (with_reducible refine' IntsAre.cons _ _ ?a; (case a => k_extra "m ints")) | (with_reducible refine' IntsAre.append ?a ?b; (case a => k_extra "m ints"); (case b => k_extra "m ints")))
local macro_rules | `(tactic| k_extra "m lenI") => `(tactic| first | omega | (simp only [List.length_set, List.length_replicate, List.length_cons, List.length_nil] <;> omega))
local macro_rules | `(tactic| walk_at "subscriptTail") => `(tactic| ((with_reducible rename At _ _ _ _ => $(Lean.mkIdent `hA):ident); (with_reducible show wpAny _ _ (subscriptTail _ _ (Value.ref _) (Value.int _ _)) _ _ _); (first | refine r_itemLI $(Lean.mkIdent `hA):ident (by k_extra "m pl") (by k_extra "m ints") (by k_extra "m lenI") (by k_extra "m lenI") (by k_extra "m size") ?_ rfl | refine r_itemTI $(Lean.mkIdent `hA):ident (by k_extra "m mem") (by k_extra "m ints") (by k_extra "m lenI") (by k_extra "m lenI") (by k_extra "m size") ?_ rfl); intro $(Lean.mkIdent `t9):ident))
local macro_rules | `(tactic| k_extra "m obj") => `(tactic| first | exact .fq | exact .opt | exact .pln)
local macro_rules | `(tactic| walk_at "setAttr ref") => `(tactic| ((with_reducible rename At _ _ _ _ => $(Lean.mkIdent `hA):ident); refine' r_setattr (K := ?K) ?W $(Lean.mkIdent `hA):ident ?hx ?hp ?h1 ?h2 ?h3 ?h4 ?h5 ?_; (case W => assumption); (case hx => k_extra "m mem"); (case hp => k_extra "m rp"); (case h1 => k_is); (case h2 => k_is); (case h3 => k_is); (case h4 => k_is); (case h5 => simp); clear $(Lean.mkIdent `hA):ident; intro $(Lean.mkIdent `s9):ident $(Lean.mkIdent `hA):ident))
local macro_rules | `(tactic| walk_at "getAttr ref") => `(tactic| ((with_reducible rename At _ _ _ _ => $(Lean.mkIdent `hA):ident); refine' r_attrR (K := ?K) ?W $(Lean.mkIdent `hA):ident ?hx ?hm ?h1 ?h2 ?h3 ?h4 ?hl ?hv ?_; (case W => assumption); (case hx => k_extra "m mem"); (case hm => k_extra "m mem"); (case hl => first | exact rfl | assumption); (case h1 => k_is); (case h2 => k_is); (case h3 => k_is); (case h4 => k_is); (case hv => exact rfl); clear $(Lean.mkIdent `hA):ident; intro $(Lean.mkIdent `s9):ident $(Lean.mkIdent `hA):ident))
local macro_rules | `(tactic| walk_at "exec Assign") => `(tactic| ((with_reducible refine plainObj_wpAny_Assign_Attribute ?_ ?hs); (case hs => with_unfolding_all rfl)))
local macro_rules | `(tactic| walk_at "eval ListComp") => `(tactic| ((with_reducible refine' r_ListComp ?hc ?hk ?hn ?hs ?_); (case hc => with_unfolding_all exact rfl); (case hk => with_unfolding_all exact rfl); (case hn => with_unfolding_all decide); (case hs => (intro _; with_unfolding_all exact rfl))))
local macro_rules | `(tactic| walk_at "exec Assign cons ListComp") => `(tactic| ((with_reducible refine' r_AssignListComp ?hw ?hc ?hk ?hn ?hs ?_); (case hw => with_unfolding_all exact rfl); (case hc => with_unfolding_all exact rfl); (case hk => with_unfolding_all exact rfl); (case hn => with_unfolding_all decide); (case hs => (intro _; with_unfolding_all exact rfl))))
local macro_rules | `(tactic| walk_at "call builtin:isinstance") => `(tactic| ((with_reducible rename At _ _ _ _ => $(Lean.mkIdent `hA):ident); refine' r_isi_int (K := ?K) ?W $(Lean.mkIdent `hA):ident ?e ?_; (case W => assumption); (case e => kit_is); clear $(Lean.mkIdent `hA):ident; intro $(Lean.mkIdent `s9):ident $(Lean.mkIdent `hA):ident))
local macro_rules | `(tactic| walk_at "call builtin:isinstance") => `(tactic| ((with_reducible rename At _ _ _ _ => $(Lean.mkIdent `hA):ident); refine' o_isi (K := ?K) (F := FQF _ _ _ _) ?W $(Lean.mkIdent `hA):ident ?hm ?ho ?e ?h1 ?h2 ?h3 ?h4 ?h5 ?h6 ?_; (case W => assumption); (case ho => k_extra "m obj"); (case hm => k_extra "m mem"); (case e => kit_is); (case h1 => k_is); (case h2 => k_is); (case h3 => k_is); (case h4 => k_is); (case h5 => k_is); (case h6 => k_is); clear $(Lean.mkIdent `hA):ident; intro $(Lean.mkIdent `s9):ident $(Lean.mkIdent `hA):ident))
local macro_rules | `(tactic| walk_at "call builtin:isinstance") => `(tactic| ((with_reducible rename At _ _ _ _ => $(Lean.mkIdent `hA):ident); refine' o_isiT (K := ?K) (F := FQF _ _ _ _) ?W $(Lean.mkIdent `hA):ident ?hm ?ho ?hc ?e ?h1 ?h2 ?h3 ?h4 ?h5 ?h6 ?_; (case W => assumption); (case ho => k_extra "m obj"); (case hm => k_extra "m mem"); (case hc => k_extra "m mem"); (case e => kit_is); (case h1 => k_is); (case h2 => k_is); (case h3 => k_is); (case h4 => k_is); (case h5 => k_is); (case h6 => k_is); clear $(Lean.mkIdent `hA):ident; intro $(Lean.mkIdent `s9):ident $(Lean.mkIdent `hA):ident))
local macro_rules | `(tactic| walk_at "getMethod ref") => `(tactic| ((with_reducible rename At _ _ _ _ => $(Lean.mkIdent `hA):ident); refine' o_meth (K := ?K) (F := FQF _ _ _ _) ?W $(Lean.mkIdent `hA):ident ?hm ?ho ?h1 ?h2 ?h3 ?h4 ?_; (case W => assumption); (case ho => k_extra "m obj"); (case hm => k_extra "m mem"); (case h1 => k_is); (case h2 => k_is); (case h3 => k_is); (case h4 => decide)))
local macro_rules | `(tactic| walk_at "call builtin:isinstance") => `(tactic| ((with_reducible rename At _ _ _ _ => $(Lean.mkIdent `hA):ident); refine' o_isi (K := ?K) (F := OptF _ _ _ _ _) ?W $(Lean.mkIdent `hA):ident ?hm ?ho ?e ?h1 ?h2 ?h3 ?h4 ?h5 ?h6 ?_; (case W => assumption); (case ho => k_extra "m obj"); (case hm => k_extra "m mem"); (case e => kit_is); (case h1 => k_is); (case h2 => k_is); (case h3 => k_is); (case h4 => k_is); (case h5 => k_is); (case h6 => k_is); clear $(Lean.mkIdent `hA):ident; intro $(Lean.mkIdent `s9):ident $(Lean.mkIdent `hA):ident))
local macro_rules | `(tactic| walk_at "call builtin:isinstance") => `(tactic| ((with_reducible rename At _ _ _ _ => $(Lean.mkIdent `hA):ident); refine' o_isiT (K := ?K) (F := OptF _ _ _ _ _) ?W $(Lean.mkIdent `hA):ident ?hm ?ho ?hc ?e ?h1 ?h2 ?h3 ?h4 ?h5 ?h6 ?_; (case W => assumption); (case ho => k_extra "m obj"); (case hm => k_extra "m mem"); (case hc => k_extra "m mem"); (case e => kit_is); (case h1 => k_is); (case h2 => k_is); (case h3 => k_is); (case h4 => k_is); (case h5 => k_is); (case h6 => k_is); clear $(Lean.mkIdent `hA):ident; intro $(Lean.mkIdent `s9):ident $(Lean.mkIdent `hA):ident))
local macro_rules | `(tactic| walk_at "getMethod ref") => `(tactic| ((with_reducible rename At _ _ _ _ => $(Lean.mkIdent `hA):ident); refine' o_meth (K := ?K) (F := OptF _ _ _ _ _) ?W $(Lean.mkIdent `hA):ident ?hm ?ho ?h1 ?h2 ?h3 ?h4 ?_; (case W => assumption); (case ho => k_extra "m obj"); (case hm => k_extra "m mem"); (case h1 => k_is); (case h2 => k_is); (case h3 => k_is); (case h4 => decide)))
local macro_rules | `(tactic| walk_at "call builtin:isinstance") => `(tactic| ((with_reducible rename At _ _ _ _ => $(Lean.mkIdent `hA):ident); refine' o_isi (K := ?K) (F := PlnF _ _ _ _ _ _) ?W $(Lean.mkIdent `hA):ident ?hm ?ho ?e ?h1 ?h2 ?h3 ?h4 ?h5 ?h6 ?_; (case W => assumption); (case ho => k_extra "m obj"); (case hm => k_extra "m mem"); (case e => kit_is); (case h1 => k_is); (case h2 => k_is); (case h3 => k_is); (case h4 => k_is); (case h5 => k_is); (case h6 => k_is); clear $(Lean.mkIdent `hA):ident; intro $(Lean.mkIdent `s9):ident $(Lean.mkIdent `hA):ident))
local macro_rules | `(tactic| walk_at "call builtin:isinstance") => `(tactic| ((with_reducible rename At _ _ _ _ => $(Lean.mkIdent `hA):ident); refine' o_isiT (K := ?K) (F := PlnF _ _ _ _ _ _) ?W $(Lean.mkIdent `hA):ident ?hm ?ho ?hc ?e ?h1 ?h2 ?h3 ?h4 ?h5 ?h6 ?_; (case W => assumption); (case ho => k_extra "m obj"); (case hm => k_extra "m mem"); (case hc => k_extra "m mem"); (case e => kit_is); (case h1 => k_is); (case h2 => k_is); (case h3 => k_is); (case h4 => k_is); (case h5 => k_is); (case h6 => k_is); clear $(Lean.mkIdent `hA):ident; intro $(Lean.mkIdent `s9):ident $(Lean.mkIdent `hA):ident))
local macro_rules | `(tactic| walk_at "getMethod ref") => `(tactic| ((with_reducible rename At _ _ _ _ => $(Lean.mkIdent `hA):ident); refine' o_meth (K := ?K) (F := PlnF _ _ _ _ _ _) ?W $(Lean.mkIdent `hA):ident ?hm ?ho ?h1 ?h2 ?h3 ?h4 ?_; (case W => assumption); (case ho => k_extra "m obj"); (case hm => k_extra "m mem"); (case h1 => k_is); (case h2 => k_is); (case h3 => k_is); (case h4 => decide)))
local macro_rules | `(tactic| walk_at "getAttr ref") => `(tactic| ((with_reducible rename At _ _ _ _ => $(Lean.mkIdent `hA):ident); refine' r_fqn (K := ?K) ?W $(Lean.mkIdent `hA):ident ?h1 ?h2 ?h3 ?h4 ?hm ?he ?_; (case W => assumption); (case he => exact rfl); (case hm => k_extra "m mem"); (case h1 => k_is); (case h2 => k_is); (case h3 => k_is); (case h4 => k_is); clear $(Lean.mkIdent `hA):ident; intro $(Lean.mkIdent `t9):ident $(Lean.mkIdent `s9):ident $(Lean.mkIdent `hA):ident))
local macro_rules | `(tactic| walk_at "getAttr ref") => `(tactic| ((with_reducible rename At _ _ _ _ => $(Lean.mkIdent `hA):ident); refine' r_fqp (K := ?K) ?W $(Lean.mkIdent `hA):ident ?h1 ?h2 ?h3 ?h4 ?hm ?he ?_; (case W => assumption); (case he => exact rfl); (case hm => k_extra "m mem"); (case h1 => k_is); (case h2 => k_is); (case h3 => k_is); (case h4 => k_is); clear $(Lean.mkIdent `hA):ident; intro $(Lean.mkIdent `t9):ident $(Lean.mkIdent `s9):ident $(Lean.mkIdent `hA):ident))
local macro_rules | `(tactic| walk_at "getAttr ref") => `(tactic| ((with_reducible rename At _ _ _ _ => $(Lean.mkIdent `hA):ident); refine' r_op (K := ?K) ?W $(Lean.mkIdent `hA):ident ?h1 ?h2 ?h3 ?h4 ?hm ?he ?_; (case W => assumption); (case he => exact rfl); (case hm => k_extra "m mem"); (case h1 => k_is); (case h2 => k_is); (case h3 => k_is); (case h4 => k_is); clear $(Lean.mkIdent `hA):ident; intro $(Lean.mkIdent `t9):ident $(Lean.mkIdent `s9):ident $(Lean.mkIdent `hA):ident))
local macro_rules | `(tactic| walk_at "getAttr ref") => `(tactic| ((with_reducible rename At _ _ _ _ => $(Lean.mkIdent `hA):ident); refine' r_od (K := ?K) ?W $(Lean.mkIdent `hA):ident ?h1 ?h2 ?h3 ?h4 ?hm ?he ?_; (case W => assumption); (case he => exact rfl); (case hm => k_extra "m mem"); (case h1 => k_is); (case h2 => k_is); (case h3 => k_is); (case h4 => k_is); clear $(Lean.mkIdent `hA):ident; intro $(Lean.mkIdent `t9):ident $(Lean.mkIdent `s9):ident $(Lean.mkIdent `hA):ident))
local macro_rules | `(tactic| walk_at "getAttr ref") => `(tactic| ((with_reducible rename At _ _ _ _ => $(Lean.mkIdent `hA):ident); refine' r_oc (K := ?K) ?W $(Lean.mkIdent `hA):ident ?h1 ?h2 ?h3 ?h4 ?hm ?he ?_; (case W => assumption); (case he => exact rfl); (case hm => k_extra "m mem"); (case h1 => k_is); (case h2 => k_is); (case h3 => k_is); (case h4 => k_is); clear $(Lean.mkIdent `hA):ident; intro $(Lean.mkIdent `y9):ident $(Lean.mkIdent `v9):ident $(Lean.mkIdent `s9):ident $(Lean.mkIdent `hi9):ident $(Lean.mkIdent `hA):ident))
local macro_rules | `(tactic| walk_at "getAttr ref") => `(tactic| ((with_reducible rename At _ _ _ _ => $(Lean.mkIdent `hA):ident); refine' r_om (K := ?K) ?W $(Lean.mkIdent `hA):ident ?h1 ?h2 ?h3 ?h4 ?hm ?he ?_; (case W => assumption); (case he => exact rfl); (case hm => k_extra "m mem"); (case h1 => k_is); (case h2 => k_is); (case h3 => k_is); (case h4 => k_is); clear $(Lean.mkIdent `hA):ident; intro $(Lean.mkIdent `y9):ident $(Lean.mkIdent `v9):ident $(Lean.mkIdent `s9):ident $(Lean.mkIdent `hi9):ident $(Lean.mkIdent `hA):ident))
local macro_rules | `(tactic| walk_at "getAttr ref") => `(tactic| ((with_reducible rename At _ _ _ _ => $(Lean.mkIdent `hA):ident); refine' r_ot (K := ?K) ?W $(Lean.mkIdent `hA):ident ?h1 ?h2 ?h3 ?h4 ?hm ?he ?_; (case W => assumption); (case he => exact rfl); (case hm => k_extra "m mem"); (case h1 => k_is); (case h2 => k_is); (case h3 => k_is); (case h4 => k_is); clear $(Lean.mkIdent `hA):ident; intro $(Lean.mkIdent `y9):ident $(Lean.mkIdent `v9):ident $(Lean.mkIdent `s9):ident $(Lean.mkIdent `hA):ident))
local macro_rules | `(tactic| walk_at "getAttr ref") => `(tactic| ((with_reducible rename At _ _ _ _ => $(Lean.mkIdent `hA):ident); refine' r_pp (K := ?K) ?W $(Lean.mkIdent `hA):ident ?h1 ?h2 ?h3 ?h4 ?hm ?he ?_; (case W => assumption); (case he => exact rfl); (case hm => k_extra "m mem"); (case h1 => k_is); (case h2 => k_is); (case h3 => k_is); (case h4 => k_is); clear $(Lean.mkIdent `hA):ident; intro $(Lean.mkIdent `t9):ident $(Lean.mkIdent `s9):ident $(Lean.mkIdent `hA):ident))
local macro_rules | `(tactic| walk_at "getAttr ref") => `(tactic| ((with_reducible rename At _ _ _ _ => $(Lean.mkIdent `hA):ident); refine' r_pd (K := ?K) ?W $(Lean.mkIdent `hA):ident ?h1 ?h2 ?h3 ?h4 ?hm ?he ?_; (case W => assumption); (case he => exact rfl); (case hm => k_extra "m mem"); (case h1 => k_is); (case h2 => k_is); (case h3 => k_is); (case h4 => k_is); clear $(Lean.mkIdent `hA):ident; intro $(Lean.mkIdent `t9):ident $(Lean.mkIdent `s9):ident $(Lean.mkIdent `hA):ident))
local macro_rules | `(tactic| walk_at "getAttr ref") => `(tactic| ((with_reducible rename At _ _ _ _ => $(Lean.mkIdent `hA):ident); refine' r_pc (K := ?K) ?W $(Lean.mkIdent `hA):ident ?h1 ?h2 ?h3 ?h4 ?hm ?he ?_; (case W => assumption); (case he => exact rfl); (case hm => k_extra "m mem"); (case h1 => k_is); (case h2 => k_is); (case h3 => k_is); (case h4 => k_is); clear $(Lean.mkIdent `hA):ident; intro $(Lean.mkIdent `y9):ident $(Lean.mkIdent `v9):ident $(Lean.mkIdent `s9):ident $(Lean.mkIdent `hi9):ident $(Lean.mkIdent `hA):ident))
local macro_rules | `(tactic| walk_at "getAttr ref") => `(tactic| ((with_reducible rename At _ _ _ _ => $(Lean.mkIdent `hA):ident); refine' r_pm (K := ?K) ?W $(Lean.mkIdent `hA):ident ?h1 ?h2 ?h3 ?h4 ?hm ?he ?_; (case W => assumption); (case he => exact rfl); (case hm => k_extra "m mem"); (case h1 => k_is); (case h2 => k_is); (case h3 => k_is); (case h4 => k_is); clear $(Lean.mkIdent `hA):ident; intro $(Lean.mkIdent `y9):ident $(Lean.mkIdent `v9):ident $(Lean.mkIdent `s9):ident $(Lean.mkIdent `hi9):ident $(Lean.mkIdent `hA):ident))
local macro_rules | `(tactic| k_extra "m ok") => `(tactic| first | exact Ok.mono $(Lean.mkIdent `hK9):ident (by decide) | exact Ok.mono (by assumption) (by decide))
local macro_rules | `(tactic| walk_at "callWith ref") => `(tactic| ((with_reducible rename At _ _ _ _ => $(Lean.mkIdent `hA):ident); (try dsimp only); (first | refine' callWith_K (K := ?K) ?k1 ?k2 ?_ | refine' callWith_K0 (K := ?K) ?k1 ?k2 ?_); (case k1 => exact At.kin (by assumption) $(Lean.mkIdent `hA):ident); (case k2 => k_is)))
local macro_rules | `(tactic| walk_at "callWith") => `(tactic| ((with_reducible rename At _ _ _ _ => $(Lean.mkIdent `hA):ident); (try dsimp only); (with_reducible show wpAny _ _ (callWith _ (Value.ref _) _ _ _) _ _ _); (first | refine' callWith_K (K := ?K) ?k1 ?k2 ?_ | refine' callWith_K0 (K := ?K) ?k1 ?k2 ?_); (case k1 => exact At.kin (by assumption) $(Lean.mkIdent `hA):ident); (case k2 => k_is)))
local macro_rules | `(tactic| walk_at "And") => `(tactic| ((with_reducible rename At _ _ _ _ => $(Lean.mkIdent `hA):ident); (with_reducible show Frag.In _ _ ∧ _); refine ⟨At.kin (by assumption) $(Lean.mkIdent `hA):ident, ?_⟩; try dsimp only [List.nil_append, List.cons_append]))
local macro_rules | `(tactic| k_extra "m seq") => `(tactic| first | exact .inl (by k_extra "m mem") | exact .inr (by k_extra "m mem") | exact IsSeq.up (by assumption) (by k_extra "m facts"))
local macro_rules | `(tactic| k_extra "m leneq") => `(tactic| first | assumption | omega | (simp; omega))
local macro_rules | `(tactic| walk_at "call type:zip") => `(tactic| ((with_reducible rename At _ _ _ _ => $(Lean.mkIdent `hA):ident); refine' r_zip $(Lean.mkIdent `hA):ident ?h1 ?h2 ?hl ?_; (case h1 => k_extra "m mem"); (case h2 => k_extra "m mem"); (case hl => k_extra "m leneq"); clear $(Lean.mkIdent `hA):ident; intro $(Lean.mkIdent `I9):ident $(Lean.mkIdent `St9):ident $(Lean.mkIdent `N9):ident $(Lean.mkIdent `s9):ident $(Lean.mkIdent `hN9):ident $(Lean.mkIdent `hA):ident))
local macro_rules | `(tactic| walk_at "call type:enumerate") => `(tactic| ((with_reducible rename At _ _ _ _ => $(Lean.mkIdent `hA):ident); refine' r_enumS $(Lean.mkIdent `hA):ident ?h1 ?_; (case h1 => k_extra "m seq"); clear $(Lean.mkIdent `hA):ident; intro $(Lean.mkIdent `I9):ident $(Lean.mkIdent `St9):ident $(Lean.mkIdent `N9):ident $(Lean.mkIdent `s9):ident $(Lean.mkIdent `hN9):ident $(Lean.mkIdent `hA):ident))
local macro_rules | `(tactic| walk_at "pyIter ref") => `(tactic| ((with_reducible rename At _ _ _ _ => $(Lean.mkIdent `hA):ident); refine' r_iterS $(Lean.mkIdent `hA):ident ?h1 ?_; (case h1 => exact IsSeq.up (by assumption) (by k_extra "m facts")); clear $(Lean.mkIdent `hA):ident; intro $(Lean.mkIdent `I9):ident $(Lean.mkIdent `St9):ident $(Lean.mkIdent `N9):ident $(Lean.mkIdent `s9):ident $(Lean.mkIdent `hN9):ident $(Lean.mkIdent `hA):ident))
local macro_rules | `(tactic| walk_at "pyIter ref") => `(tactic| ((with_reducible rename At _ _ _ _ => $(Lean.mkIdent `hA):ident); refine' r_iterN ($(Lean.mkIdent `hN9):ident _) $(Lean.mkIdent `hA):ident ?hh ?hm ?hr ?_; (case hh => k_extra "m hh"); (case hm => k_extra "m mem"); (case hr => k_extra "m mem")))
local macro_rules | `(tactic| walk_at "call builtin:len") => `(tactic| ((with_reducible rename At _ _ _ _ => $(Lean.mkIdent `hA):ident); refine r_lenS $(Lean.mkIdent `hA):ident (IsSeq.up (by assumption) (by k_extra "m facts")) (by k_extra "m size") ?_; clear $(Lean.mkIdent `hA):ident; intro $(Lean.mkIdent `t9):ident $(Lean.mkIdent `s9):ident $(Lean.mkIdent `hA):ident))
local macro_rules | `(tactic| walk_at "call type:tuple") => `(tactic| ((with_reducible rename At _ _ _ _ => $(Lean.mkIdent `hA):ident); (first | refine r_tupS $(Lean.mkIdent `hA):ident (by k_extra "m seq") (by k_extra "m size") ?_ | refine r_tupL $(Lean.mkIdent `hA):ident (by k_extra "m pl") (by k_extra "m size") ?_); clear $(Lean.mkIdent `hA):ident; intro $(Lean.mkIdent `y9):ident $(Lean.mkIdent `s9):ident $(Lean.mkIdent `hA):ident))
local macro_rules | `(tactic| walk_at "call type:list") => `(tactic| ((with_reducible rename At _ _ _ _ => $(Lean.mkIdent `hA):ident); (first | refine r_listT $(Lean.mkIdent `hA):ident (by k_extra "m mem") (by k_extra "m size") ?_ | refine r_listL $(Lean.mkIdent `hA):ident (by k_extra "m pl") (by k_extra "m size") ?_); clear $(Lean.mkIdent `hA):ident; intro $(Lean.mkIdent `l9):ident $(Lean.mkIdent `s9):ident $(Lean.mkIdent `hA):ident))
local macro_rules | `(tactic| walk_at "eval GeneratorExp") => `(tactic| ((with_reducible refine' r_GenExp ?hco ?hc ?hcell ?h0 ?hk ?hA1 ?hs ?_); (case hco => with_unfolding_all exact rfl); (case hc => with_unfolding_all exact rfl); (case hcell => with_unfolding_all decide); (case h0 => with_unfolding_all exact rfl); (case hk => with_unfolding_all exact rfl); (case hA1 => assumption); (case hs => (intro _; with_unfolding_all exact rfl))))
local macro_rules | `(tactic| walk_at "getMethod ref") => `(tactic| ((with_reducible rename At _ _ _ _ => $(Lean.mkIdent `hA):ident); refine' r_methR (K := ?K) ?W $(Lean.mkIdent `hA):ident ?hx ?hm ?h1 ?h2 ?h3 ?hl ?_; (case W => assumption); (case hx => k_extra "m mem"); (case hm => k_extra "m mem"); (case h1 => k_is); (case h2 => k_is); (case h3 => k_is); (case hl => exact rfl)))
local macro_rules | `(tactic| k_extra "m look") => `(tactic| repeat (first | exact if_pos rfl | refine (if_neg (by decide)).trans ?_))
local macro_rules | `(tactic| k_extra "m nolook") => `(tactic| (intros; repeat (first | rfl | (refine (if_neg (by assumption)).trans ?_))))
local macro_rules | `(tactic| walk_at "assign Tuple") => `(tactic| ((with_reducible rename At _ _ _ _ => $(Lean.mkIdent `hA):ident); (first | refine' r_asg2 ?hh $(Lean.mkIdent `hA):ident ?hm ?_ | refine' r_asg3 ?hh $(Lean.mkIdent `hA):ident ?hm ?_); (case hh => k_extra "m hh"); (case hm => k_extra "m mem"); clear $(Lean.mkIdent `hA):ident; intro $(Lean.mkIdent `s9):ident $(Lean.mkIdent `hA):ident))
local macro_rules | `(tactic| k_extra "m tests") => `(tactic| first | with_reducible refine wpAny_tests_nil ?_ | with_reducible refine wpAny_tests_one ?_ | (rw [if_pos rfl]))
local macro_rules | `(tactic| k_extra "wk") => `(tactic| repeat' (first | walk1 | k_extra "m tests"))
local macro_rules | `(tactic| k_extra "m lens") => `(tactic| first | omega | (have hi9L := IntsAre.length $(Lean.mkIdent `hi9):ident; omega) | (simp only [List.length_append, List.length_cons, List.length_nil, List.length_replicate, List.length_map] <;> omega))
local macro_rules | `(tactic| walk_at "subscriptTail") => `(tactic| ((with_reducible rename At _ _ _ _ => $(Lean.mkIdent `hA):ident); (with_reducible show wpAny _ _ (subscriptTail _ _ (Value.ref _) (Value.int _ _)) _ _ _); (first | refine r_itemTQ $(Lean.mkIdent `hA):ident (by k_extra "m mem") (by k_extra "m mem") (by k_extra "m lenI") (by k_extra "m lenI") (by k_extra "m size") ?_ rfl | refine r_itemLQ $(Lean.mkIdent `hA):ident (by k_extra "m pl") (by k_extra "m mem") (by k_extra "m lenI") (by k_extra "m lenI") (by k_extra "m size") ?_ rfl); clear $(Lean.mkIdent `hA):ident; intro $(Lean.mkIdent `x9):ident $(Lean.mkIdent `hA):ident))
local macro_rules | `(tactic| walk_at "getItem ref int") => `(tactic| ((with_reducible rename At _ _ _ _ => $(Lean.mkIdent `hA):ident); (first | (refine r_giLI $(Lean.mkIdent `hA):ident (by k_extra "m pl") (by k_extra "m ints") (by k_extra "m lenI") (by k_extra "m lenI") (by k_extra "m size") ?_; intro $(Lean.mkIdent `t9):ident) | (refine r_giLQ $(Lean.mkIdent `hA):ident (by k_extra "m pl") (by k_extra "m mem") (by k_extra "m lenI") (by k_extra "m lenI") (by k_extra "m size") ?_; clear $(Lean.mkIdent `hA):ident; intro $(Lean.mkIdent `x9):ident $(Lean.mkIdent `hA):ident))))
local macro_rules | `(tactic| walk_at "binaryOp Add ref ref") => `(tactic| ((with_reducible rename At _ _ _ _ => $(Lean.mkIdent `hA):ident); refine r_addL $(Lean.mkIdent `hA):ident (by k_extra "m pl") (by k_extra "m pl") (by k_extra "m size") ?_; clear $(Lean.mkIdent `hA):ident; intro $(Lean.mkIdent `l9):ident $(Lean.mkIdent `s9):ident $(Lean.mkIdent `hA):ident))
local macro_rules | `(tactic| k_extra "m factsD") => `(tactic| first | (refine subf_cons mem_hd ?_; k_extra "m facts") | with_reducible exact subf_refl | with_reducible exact subf_nil | (refine subf_drop ?_; k_extra "m factsD"))
local macro_rules | `(tactic| walk_at "getMethod ref") => `(tactic| ((with_reducible show wpAny _ _ (getMethod (Value.ref _) (Str.ofString "pop") _) _ _ _); refine r_popM (by k_extra "m pl") ?_))
local macro_rules | `(tactic| walk_at "callWith builtin:list.pop") => `(tactic| ((with_reducible rename At _ _ _ _ => $(Lean.mkIdent `hA):ident); with_unfolding_all refine' r_pop $(Lean.mkIdent `hA):ident ?rp ?rb ?_; (case rp => k_extra "m rp"); (case rb => k_extra "m size"); clear $(Lean.mkIdent `hA):ident; intro $(Lean.mkIdent `s9):ident $(Lean.mkIdent `hA):ident))
local macro_rules | `(tactic| walk_at "callWith") => `(tactic| ((with_reducible rename At _ _ _ _ => $(Lean.mkIdent `hA):ident); (try dsimp only); (with_reducible show wpAny _ _ (callWith _ (Value.builtin "list.pop") _ _ _) _ _ _); with_unfolding_all refine' r_pop $(Lean.mkIdent `hA):ident ?rp ?rb ?_; (case rp => k_extra "m rp"); (case rb => k_extra "m size"); clear $(Lean.mkIdent `hA):ident; intro $(Lean.mkIdent `s9):ident $(Lean.mkIdent `hA):ident))
section
variable {prog : Program} {w : World} {A : Around} {E : Value → Shared → Prop} {D : Dat} {Fs : List Fact} {R : List Res} {s : Shared} {Q : Value → Shared → Prop}
theorem kfill_V2 : PySem.Challenge.rw_bq0014_02 = PySem.Challenge.rw_bq0014_02 ∧ hd.heap_39 = hd.heap_39 := by
  k_fill
  exact ⟨rfl, rfl⟩

set_option maxHeartbeats 4000000 in
set_option maxRecDepth 100000 in
theorem s_FQ {k p : Int} {t1 t2 : Tok} (W : Wd (hd.heap_39 w.params) D) (hk : Ok A 10) (H : At D Fs R s) (hp : p ≠ 0)
    (h : ∀ x s', At D (FQF 183 x p (k.fmod p) :: Fs) R s' → Q (.ref x) s') : codeAny (model prog w) A (.call (.ref 183) ⟨[.int k t1, .int p t2], []⟩) (Ret Q) s := by
  refine' r_new W H ?h1 ?h2 ?h3 ?_
  case h1 => k_is
  case h2 => k_is
  case h3 => k_is
  clear H
  intro x dx s H
  refine' v_call [("field_modulus", .int p t2), ("val", .int k t1), ("self", .ref x)] ?W H hk.ty ?ho ?hcd ?hb ?hl ?hm ?_ ?c1 ?c2 ?c3 ?c4
  k_extra "m enter"
  clear H
  repeat' walk1
  refine h _ _ (At.to' (At.mkFQ hA (by k_extra "m mem") (by k_extra "m rm") ⟨_, if_pos rfl⟩ ⟨_, (if_neg (by decide)).trans (if_pos rfl)⟩ (fun z h1 h2 => (if_neg h1).trans (if_neg h2))) (by k_extra "m sub") (by k_extra "m facts"))

local macro_rules | `(tactic| walk_at "call ref") => `(tactic| ((with_reducible rename At _ _ _ _ => $(Lean.mkIdent `hA):ident); refine r_use ?_; refine' s_FQ ?W ?hk $(Lean.mkIdent `hA):ident ?hp ?_; (case W => assumption); (case hk => k_extra "m ok"); (case hp => assumption); clear $(Lean.mkIdent `hA):ident; intro $(Lean.mkIdent `x9):ident $(Lean.mkIdent `s9):ident $(Lean.mkIdent `hA):ident))

set_option maxHeartbeats 4000000 in
set_option maxRecDepth 100000 in
theorem s_FQ_made {x : Addr} {k p j : Int} {t1 : Tok} (W : Wd (hd.heap_39 w.params) D) (hk : Ok A 12) (H : At D Fs R s) (hm : FQF 183 x p j ∈ Fs) (hp : p ≠ 0)
    (h : ∀ x s', At D (FQF 183 x p (k.fmod p) :: Fs) R s' → Q (.ref x) s') : codeAny (model prog w) A (.call (.ref 166) ⟨[.ref x, .int k t1], []⟩) (Ret Q) s := by
  refine' v_call [("val", .int k t1), ("self", .ref x)] ?W H hk ?ho ?hcd ?hb ?hl ?hm ?_ ?c1 ?c2 ?c3 ?c4
  k_extra "m enter"
  clear H
  repeat' walk1
  exact h _ _ (At.to' hA (by k_extra "m sub") (by k_extra "m facts"))
local macro_rules | `(tactic| walk_at "call ref") => `(tactic| ((with_reducible rename At _ _ _ _ => $(Lean.mkIdent `hA):ident); refine r_use ?_; refine' s_FQ_made ?W ?hk $(Lean.mkIdent `hA):ident ?hm ?hp ?_; (case W => assumption); (case hk => k_extra "m ok"); (case hm => k_extra "m mem"); (case hp => assumption); clear $(Lean.mkIdent `hA):ident; intro $(Lean.mkIdent `x9):ident $(Lean.mkIdent `s9):ident $(Lean.mkIdent `hA):ident))

set_option maxHeartbeats 4000000 in
set_option maxRecDepth 100000 in
theorem s_FQ_add {x y : Addr} {k p j : Int} (W : Wd (hd.heap_39 w.params) D) (hk : Ok A 14) (H : At D Fs R s) (hm : FQF 183 x p j ∈ Fs) (hm2 : FQF 183 y p k ∈ Fs) (hp : p ≠ 0) 
    (h : ∀ x s', At D (FQF 183 x p (((j + k).fmod p).fmod p) :: Fs) R s' → Q (.ref x) s') : codeAny (model prog w) A (.call (.ref 61) ⟨[.ref x, .ref y], []⟩) (Ret Q) s := by
  refine' v_call [("other", .ref y), ("self", .ref x)] ?W H hk ?ho ?hcd ?hb ?hl ?hm ?_ ?c1 ?c2 ?c3 ?c4
  k_extra "m enter"
  clear H
  repeat' walk1
  exact h _ _ (At.to' hA (by k_extra "m sub") (by k_extra "m facts"))

set_option maxHeartbeats 4000000 in
set_option maxRecDepth 100000 in
theorem s_FQ_sub {x y : Addr} {k p j : Int} (W : Wd (hd.heap_39 w.params) D) (hk : Ok A 14) (H : At D Fs R s) (hm : FQF 183 x p j ∈ Fs) (hm2 : FQF 183 y p k ∈ Fs) (hp : p ≠ 0) 
    (h : ∀ x s', At D (FQF 183 x p (((j - k).fmod p).fmod p) :: Fs) R s' → Q (.ref x) s') : codeAny (model prog w) A (.call (.ref 96) ⟨[.ref x, .ref y], []⟩) (Ret Q) s := by
  refine' v_call [("other", .ref y), ("self", .ref x)] ?W H hk ?ho ?hcd ?hb ?hl ?hm ?_ ?c1 ?c2 ?c3 ?c4
  k_extra "m enter"
  clear H
  repeat' walk1
  exact h _ _ (At.to' hA (by k_extra "m sub") (by k_extra "m facts"))

set_option maxHeartbeats 4000000 in
set_option maxRecDepth 100000 in
theorem s_FQ_mul {x y : Addr} {k p j : Int} (W : Wd (hd.heap_39 w.params) D) (hk : Ok A 14) (H : At D Fs R s) (hm : FQF 183 x p j ∈ Fs) (hm2 : FQF 183 y p k ∈ Fs) (hp : p ≠ 0) (hj : IntMulOk j k)
    (h : ∀ x s', At D (FQF 183 x p (((j * k).fmod p).fmod p) :: Fs) R s' → Q (.ref x) s') : codeAny (model prog w) A (.call (.ref 68) ⟨[.ref x, .ref y], []⟩) (Ret Q) s := by
  refine' v_call [("other", .ref y), ("self", .ref x)] ?W H hk ?ho ?hcd ?hb ?hl ?hm ?_ ?c1 ?c2 ?c3 ?c4
  k_extra "m enter"
  clear H
  repeat' walk1
  exact h _ _ (At.to' hA (by k_extra "m sub") (by k_extra "m facts"))

set_option maxHeartbeats 4000000 in
set_option maxRecDepth 100000 in
theorem s_FQ_neg {x : Addr} {p j : Int} (W : Wd (hd.heap_39 w.params) D) (hk : Ok A 14) (H : At D Fs R s) (hm : FQF 183 x p j ∈ Fs) (hp : p ≠ 0)
    (h : ∀ x s', At D (FQF 183 x p ((-j).fmod p) :: Fs) R s' → Q (.ref x) s') : codeAny (model prog w) A (.call (.ref 138) ⟨[.ref x], []⟩) (Ret Q) s := by
  refine' v_call [("self", .ref x)] ?W H hk ?ho ?hcd ?hb ?hl ?hm ?_ ?c1 ?c2 ?c3 ?c4
  k_extra "m enter"
  clear H
  repeat' walk1
  exact h _ _ (At.to' hA (by k_extra "m sub") (by k_extra "m facts"))

theorem d_FQ_add {x y : Addr} {k p j : Int} (W : Wd (hd.heap_39 w.params) D) (hk : Ok A 14) (H : At D Fs R s) (hm : FQF 183 x p j ∈ Fs) (hm2 : FQF 183 y p k ∈ Fs) (hp : p ≠ 0) 
    (h : ∀ x s', At D (FQF 183 x p (((j + k).fmod p).fmod p) :: Fs) R s' → Q (.ref x) s') : wpAny (model prog w) A (binaryOp .Add (.ref x) (.ref y)) Q E s := by
  refine' o_bin W H hm .fq ?h1 ?h2 ?h3 hm2 .fq (r_use (s_FQ_add W hk H hm hm2 hp  fun z s' H' => h z s' H'))
  all_goals k_is
local macro_rules | `(tactic| walk_at "binaryOp Add ref ref") => `(tactic| ((with_reducible rename At _ _ _ _ => $(Lean.mkIdent `hA):ident); refine' d_FQ_add ?W ?hk $(Lean.mkIdent `hA):ident ?hm ?hm2 ?hp  ?_; (case W => assumption); (case hk => k_extra "m ok"); (case hm => k_extra "m mem"); (case hm2 => k_extra "m mem"); (case hp => assumption);  clear $(Lean.mkIdent `hA):ident; intro $(Lean.mkIdent `x9):ident $(Lean.mkIdent `s9):ident $(Lean.mkIdent `hA):ident))
theorem i_FQ_add {x y : Addr} {k p j : Int} (W : Wd (hd.heap_39 w.params) D) (hk : Ok A 14) (H : At D Fs R s) (hm : FQF 183 x p j ∈ Fs) (hm2 : FQF 183 y p k ∈ Fs) (hp : p ≠ 0)
    (h : ∀ x s', At D (FQF 183 x p (((j + k).fmod p).fmod p) :: Fs) R s' → Q (.ref x) s') : wpAny (model prog w) A (inplaceOp .Add (.ref x) (.ref y)) Q E s := by
  refine' o_inpl W H hm .fq ?h1 ?h2 ?h3 hm2 .fq ?h4 ?h0 ?h5 ?h6 (r_use (s_FQ_add W hk H hm hm2 hp fun z s' H' => h z s' H'))
  case h4 => k_is
  case h0 => rfl
  all_goals k_is
local macro_rules | `(tactic| walk_at "inplaceOp Add ref ref") => `(tactic| ((with_reducible rename At _ _ _ _ => $(Lean.mkIdent `hA):ident); refine' i_FQ_add ?W ?hk $(Lean.mkIdent `hA):ident ?hm ?hm2 ?hp ?_; (case W => assumption); (case hk => k_extra "m ok"); (case hm => k_extra "m mem"); (case hm2 => k_extra "m mem"); (case hp => assumption); clear $(Lean.mkIdent `hA):ident; intro $(Lean.mkIdent `x9):ident $(Lean.mkIdent `s9):ident $(Lean.mkIdent `hA):ident))

theorem d_FQ_sub {x y : Addr} {k p j : Int} (W : Wd (hd.heap_39 w.params) D) (hk : Ok A 14) (H : At D Fs R s) (hm : FQF 183 x p j ∈ Fs) (hm2 : FQF 183 y p k ∈ Fs) (hp : p ≠ 0) 
    (h : ∀ x s', At D (FQF 183 x p (((j - k).fmod p).fmod p) :: Fs) R s' → Q (.ref x) s') : wpAny (model prog w) A (binaryOp .Sub (.ref x) (.ref y)) Q E s := by
  refine' o_bin W H hm .fq ?h1 ?h2 ?h3 hm2 .fq (r_use (s_FQ_sub W hk H hm hm2 hp  fun z s' H' => h z s' H'))
  all_goals k_is
local macro_rules | `(tactic| walk_at "binaryOp Sub ref ref") => `(tactic| ((with_reducible rename At _ _ _ _ => $(Lean.mkIdent `hA):ident); refine' d_FQ_sub ?W ?hk $(Lean.mkIdent `hA):ident ?hm ?hm2 ?hp  ?_; (case W => assumption); (case hk => k_extra "m ok"); (case hm => k_extra "m mem"); (case hm2 => k_extra "m mem"); (case hp => assumption);  clear $(Lean.mkIdent `hA):ident; intro $(Lean.mkIdent `x9):ident $(Lean.mkIdent `s9):ident $(Lean.mkIdent `hA):ident))
theorem i_FQ_sub {x y : Addr} {k p j : Int} (W : Wd (hd.heap_39 w.params) D) (hk : Ok A 14) (H : At D Fs R s) (hm : FQF 183 x p j ∈ Fs) (hm2 : FQF 183 y p k ∈ Fs) (hp : p ≠ 0)
    (h : ∀ x s', At D (FQF 183 x p (((j - k).fmod p).fmod p) :: Fs) R s' → Q (.ref x) s') : wpAny (model prog w) A (inplaceOp .Sub (.ref x) (.ref y)) Q E s := by
  refine' o_inpl W H hm .fq ?h1 ?h2 ?h3 hm2 .fq ?h4 ?h0 ?h5 ?h6 (r_use (s_FQ_sub W hk H hm hm2 hp fun z s' H' => h z s' H'))
  case h4 => k_is
  case h0 => rfl
  all_goals k_is
local macro_rules | `(tactic| walk_at "inplaceOp Sub ref ref") => `(tactic| ((with_reducible rename At _ _ _ _ => $(Lean.mkIdent `hA):ident); refine' i_FQ_sub ?W ?hk $(Lean.mkIdent `hA):ident ?hm ?hm2 ?hp ?_; (case W => assumption); (case hk => k_extra "m ok"); (case hm => k_extra "m mem"); (case hm2 => k_extra "m mem"); (case hp => assumption); clear $(Lean.mkIdent `hA):ident; intro $(Lean.mkIdent `x9):ident $(Lean.mkIdent `s9):ident $(Lean.mkIdent `hA):ident))

theorem d_FQ_mul {x y : Addr} {k p j : Int} (W : Wd (hd.heap_39 w.params) D) (hk : Ok A 14) (H : At D Fs R s) (hm : FQF 183 x p j ∈ Fs) (hm2 : FQF 183 y p k ∈ Fs) (hp : p ≠ 0) (hj : IntMulOk j k)
    (h : ∀ x s', At D (FQF 183 x p (((j * k).fmod p).fmod p) :: Fs) R s' → Q (.ref x) s') : wpAny (model prog w) A (binaryOp .Mult (.ref x) (.ref y)) Q E s := by
  refine' o_bin W H hm .fq ?h1 ?h2 ?h3 hm2 .fq (r_use (s_FQ_mul W hk H hm hm2 hp hj fun z s' H' => h z s' H'))
  all_goals k_is
local macro_rules | `(tactic| walk_at "binaryOp Mult ref ref") => `(tactic| ((with_reducible rename At _ _ _ _ => $(Lean.mkIdent `hA):ident); refine' d_FQ_mul ?W ?hk $(Lean.mkIdent `hA):ident ?hm ?hm2 ?hp ?hj ?_; (case W => assumption); (case hk => k_extra "m ok"); (case hm => k_extra "m mem"); (case hm2 => k_extra "m mem"); (case hp => assumption); (case hj => k_extra "m mulok"); clear $(Lean.mkIdent `hA):ident; intro $(Lean.mkIdent `x9):ident $(Lean.mkIdent `s9):ident $(Lean.mkIdent `hA):ident))

theorem d_FQ_neg {x : Addr} {p j : Int} (W : Wd (hd.heap_39 w.params) D) (hk : Ok A 14) (H : At D Fs R s) (hm : FQF 183 x p j ∈ Fs) (hp : p ≠ 0)
    (h : ∀ x s', At D (FQF 183 x p ((-j).fmod p) :: Fs) R s' → Q (.ref x) s') : wpAny (model prog w) A (unaryOp .USub (.ref x)) Q E s := by
  refine' o_neg W H hm .fq ?h1 ?h2 (r_use (s_FQ_neg W hk H hm hp fun z s' H' => h z s' H'))
  all_goals k_is
local macro_rules | `(tactic| walk_at "unaryOp USub ref") => `(tactic| ((with_reducible rename At _ _ _ _ => $(Lean.mkIdent `hA):ident); refine' d_FQ_neg ?W ?hk $(Lean.mkIdent `hA):ident ?hm ?hp ?_; (case W => assumption); (case hk => k_extra "m ok"); (case hm => k_extra "m mem"); (case hp => assumption); clear $(Lean.mkIdent `hA):ident; intro $(Lean.mkIdent `x9):ident $(Lean.mkIdent `s9):ident $(Lean.mkIdent `hA):ident))
end
section
local macro_rules | `(tactic| walk_at "call ref") => `(tactic| ((with_reducible rename At _ _ _ _ => $(Lean.mkIdent `hA):ident); refine r_use ?_; refine' s_FQ ?W ?hk $(Lean.mkIdent `hA):ident ?hp ?_; (case W => assumption); (case hk => k_extra "m ok"); (case hp => assumption); clear $(Lean.mkIdent `hA):ident; intro $(Lean.mkIdent `x9):ident $(Lean.mkIdent `s9):ident $(Lean.mkIdent `hA):ident))
local macro_rules | `(tactic| walk_at "call ref") => `(tactic| ((with_reducible rename At _ _ _ _ => $(Lean.mkIdent `hA):ident); refine r_use ?_; refine' s_FQ_made ?W ?hk $(Lean.mkIdent `hA):ident ?hm ?hp ?_; (case W => assumption); (case hk => k_extra "m ok"); (case hm => k_extra "m mem"); (case hp => assumption); clear $(Lean.mkIdent `hA):ident; intro $(Lean.mkIdent `x9):ident $(Lean.mkIdent `s9):ident $(Lean.mkIdent `hA):ident))
local macro_rules | `(tactic| walk_at "binaryOp Add ref ref") => `(tactic| ((with_reducible rename At _ _ _ _ => $(Lean.mkIdent `hA):ident); refine' d_FQ_add ?W ?hk $(Lean.mkIdent `hA):ident ?hm ?hm2 ?hp  ?_; (case W => assumption); (case hk => k_extra "m ok"); (case hm => k_extra "m mem"); (case hm2 => k_extra "m mem"); (case hp => assumption);  clear $(Lean.mkIdent `hA):ident; intro $(Lean.mkIdent `x9):ident $(Lean.mkIdent `s9):ident $(Lean.mkIdent `hA):ident))
local macro_rules | `(tactic| walk_at "inplaceOp Add ref ref") => `(tactic| ((with_reducible rename At _ _ _ _ => $(Lean.mkIdent `hA):ident); refine' i_FQ_add ?W ?hk $(Lean.mkIdent `hA):ident ?hm ?hm2 ?hp ?_; (case W => assumption); (case hk => k_extra "m ok"); (case hm => k_extra "m mem"); (case hm2 => k_extra "m mem"); (case hp => assumption); clear $(Lean.mkIdent `hA):ident; intro $(Lean.mkIdent `x9):ident $(Lean.mkIdent `s9):ident $(Lean.mkIdent `hA):ident))
local macro_rules | `(tactic| walk_at "binaryOp Sub ref ref") => `(tactic| ((with_reducible rename At _ _ _ _ => $(Lean.mkIdent `hA):ident); refine' d_FQ_sub ?W ?hk $(Lean.mkIdent `hA):ident ?hm ?hm2 ?hp  ?_; (case W => assumption); (case hk => k_extra "m ok"); (case hm => k_extra "m mem"); (case hm2 => k_extra "m mem"); (case hp => assumption);  clear $(Lean.mkIdent `hA):ident; intro $(Lean.mkIdent `x9):ident $(Lean.mkIdent `s9):ident $(Lean.mkIdent `hA):ident))
local macro_rules | `(tactic| walk_at "inplaceOp Sub ref ref") => `(tactic| ((with_reducible rename At _ _ _ _ => $(Lean.mkIdent `hA):ident); refine' i_FQ_sub ?W ?hk $(Lean.mkIdent `hA):ident ?hm ?hm2 ?hp ?_; (case W => assumption); (case hk => k_extra "m ok"); (case hm => k_extra "m mem"); (case hm2 => k_extra "m mem"); (case hp => assumption); clear $(Lean.mkIdent `hA):ident; intro $(Lean.mkIdent `x9):ident $(Lean.mkIdent `s9):ident $(Lean.mkIdent `hA):ident))
local macro_rules | `(tactic| walk_at "binaryOp Mult ref ref") => `(tactic| ((with_reducible rename At _ _ _ _ => $(Lean.mkIdent `hA):ident); refine' d_FQ_mul ?W ?hk $(Lean.mkIdent `hA):ident ?hm ?hm2 ?hp ?hj ?_; (case W => assumption); (case hk => k_extra "m ok"); (case hm => k_extra "m mem"); (case hm2 => k_extra "m mem"); (case hp => assumption); (case hj => k_extra "m mulok"); clear $(Lean.mkIdent `hA):ident; intro $(Lean.mkIdent `x9):ident $(Lean.mkIdent `s9):ident $(Lean.mkIdent `hA):ident))
local macro_rules | `(tactic| walk_at "unaryOp USub ref") => `(tactic| ((with_reducible rename At _ _ _ _ => $(Lean.mkIdent `hA):ident); refine' d_FQ_neg ?W ?hk $(Lean.mkIdent `hA):ident ?hm ?hp ?_; (case W => assumption); (case hk => k_extra "m ok"); (case hm => k_extra "m mem"); (case hp => assumption); clear $(Lean.mkIdent `hA):ident; intro $(Lean.mkIdent `x9):ident $(Lean.mkIdent `s9):ident $(Lean.mkIdent `hA):ident))
section
variable {prog : Program} {w : World} {A : Around} {E : Value → Shared → Prop} {D : Dat} {Fs : List Fact} {R : List Res} {s : Shared} {Q : Value → Shared → Prop}
def WT : List Tab := [⟨200, 196, #[]⟩, ⟨312, 310, #[]⟩]
set_option maxHeartbeats 4000000 in
set_option maxRecDepth 100000 in
theorem s_FQq {a : Addr} {k p : Int} {t2 : Tok} (W : Wd (hd.heap_39 w.params) D) (hk : Ok A 10) (H : At D Fs R s) (hm : FQF 183 a p k ∈ Fs)
    (h : ∀ x s', At D (FQF 183 x p k :: Fs) R s' → Q (.ref x) s') : codeAny (model prog w) A (.call (.ref 183) ⟨[.ref a, .int p t2], []⟩) (Ret Q) s := by
  refine' r_new W H ?h1 ?h2 ?h3 ?_
  case h1 => k_is
  case h2 => k_is
  case h3 => k_is
  clear H
  intro x dx s H
  refine' v_call [("field_modulus", .int p t2), ("val", .ref a), ("self", .ref x)] ?W H hk.ty ?ho ?hcd ?hb ?hl ?hm ?_ ?c1 ?c2 ?c3 ?c4
  k_extra "m enter"
  clear H
  repeat' walk1
  refine h _ _ (At.to' (At.mkFQ hA (by k_extra "m mem") (by k_extra "m rm") ⟨_, if_pos rfl⟩ ⟨_, (if_neg (by decide)).trans (if_pos rfl)⟩ (fun z h1 h2 => (if_neg h1).trans (if_neg h2))) (by k_extra "m sub") (by k_extra "m facts"))
theorem s_FQs {v : Value} {n p : Int} {t2 : Tok} (W : Wd (hd.heap_39 w.params) D) (hk : Ok A 10) (H : At D Fs R s) (hp : p ≠ 0) (hm : SchF 183 p v n ∈ Fs)
    (h : ∀ x s', At D (FQF 183 x p n :: Fs) R s' → Q (.ref x) s') : codeAny (model prog w) A (.call (.ref 183) ⟨[v, .int p t2], []⟩) (Ret Q) s := by
  rcases (H.facts _ hm : Sch _ _ _ _ _) with ⟨k, t, rfl, rfl⟩ | ⟨a, rfl, q⟩
  · exact s_FQ W hk H hp h
  · have H1 : At D (FQF 183 a p n :: Fs) R s := ⟨H.os, H.gens, H.tab, H.cs, H.nodup, H.res, H.base, fun F hF => by
      rcases List.mem_cons.mp hF with rfl | hF
      · exact q
      · exact H.facts F hF⟩
    exact s_FQq W hk H1 (.head _) fun x s' H' => h x s' (H'.sub (by k_extra "m facts"))
local macro_rules | `(tactic| walk_at "call ref") => `(tactic| ((with_reducible rename At _ _ _ _ => $(Lean.mkIdent `hA):ident); refine r_use ?_; refine' s_FQs ?W ?hk $(Lean.mkIdent `hA):ident ?hp ?hm ?_; (case W => assumption); (case hk => k_extra "m ok"); (case hp => assumption); (case hm => k_extra "m mem"); clear $(Lean.mkIdent `hA):ident; intro $(Lean.mkIdent `x9):ident $(Lean.mkIdent `s9):ident $(Lean.mkIdent `hA):ident))
set_option maxHeartbeats 4000000 in
set_option maxRecDepth 100000 in
theorem s_P_corr0 {x dx : Addr} {v : Value} {n p : Int} {t2 : Tok} {m : Str → Option Value} {ns : List Str} (W : Wd (hd.heap_39 w.params) D) (hk : Ok A 12) (H : At D Fs R s) (hp : p ≠ 0) (hx : Cell x (instObj 297 dx) ∈ Fs) (hd : DRes dx m ns ∈ R) (hmp : m "field_modulus" = some (.int p t2)) (hm : SchF 183 p v n ∈ Fs)
    (h : ∀ x s', At D (FQF 183 x p n :: Fs) R s' → Q (.ref x) s') : codeAny (model prog w) A (.call (.ref 215) ⟨[.ref x, v], []⟩) (Ret Q) s := by
  refine' v_call [("val", v), ("self", .ref x)] ?W H hk ?ho ?hcd ?hb ?hl ?hm ?_ ?c1 ?c2 ?c3 ?c4
  k_extra "m enter"
  clear H
  repeat' walk1
  exact h _ _ (At.to' hA (by k_extra "m sub") (by k_extra "m facts"))
local macro_rules | `(tactic| walk_at "call ref") => `(tactic| ((with_reducible rename At _ _ _ _ => $(Lean.mkIdent `hA):ident); refine r_use ?_; refine' s_P_corr0 ?W ?hk $(Lean.mkIdent `hA):ident ?hp ?hx ?hd ?hmp ?hm ?_; (case W => assumption); (case hk => k_extra "m ok"); (case hp => assumption); (case hx => k_extra "m mem"); (case hd => k_extra "m mem"); (case hmp => exact rfl); (case hm => k_extra "m mem"); clear $(Lean.mkIdent `hA):ident; intro $(Lean.mkIdent `x9):ident $(Lean.mkIdent `s9):ident $(Lean.mkIdent `hA):ident))
set_option maxHeartbeats 4000000 in
set_option maxRecDepth 100000 in
theorem s_P {lc lm : Addr} {vs us : List Value} {ns ms : List Int} {p : Int} {t2 : Tok} (W : Wd (hd.heap_39 w.params) D) (T : ∀ t ∈ WT, t ∈ D.tabs) (hk : Ok A 20) (H : At D Fs R s) (hp : p ≠ 0) (h1 : IsSeq Fs lc vs) (h2 : ScsF 183 p vs ns ∈ Fs) (h3 : IsSeq Fs lm us) (h4 : IntsAre us ms) (h5 : vs.length = us.length) (h6 : us.length < 1000)
    (h : ∀ x s', At D (PlnF 183 297 x p ns ms :: Fs) R s' → Q (.ref x) s') : codeAny (model prog w) A (.call (.ref 297) ⟨[.ref lc, .ref lm, .int p t2], []⟩) (Ret Q) s := by
  refine' r_new W H ?h1 ?h2 ?h3 ?_
  case h1 => k_is
  case h2 => k_is
  case h3 => k_is
  have H0 := H
  clear H
  intro x dx s H
  clear H0
  refine' v_callc [("coeffs", .ref lc), ("modulus_coeffs", .ref lm), ("field_modulus", .int p t2)] (fun L => [(L + 1, .ref x)]) (fun L => []) ?W H hk.ty ?ho ?hcd ?hb ?hl ?hm ?hcm ?hum ?hnd ?hud ?_ ?c2 ?c3 ?c4
  k_extra "m enterc"
  clear H
  repeat' walk1
  · exact absurd h5 (by omega)
  have W2 : ∀ m, Wd (hd.heap_39 w.params) (D.withNg m) := fun m => W.ng
  refine' r_GenK (t := ⟨200, 196, #[]⟩) W hA (T _ (by simp [WT])) rfl rfl ?_
  have hNN := hN9 false
  clear hA hN9
  intro a g C code s hge hA hgen
  repeat' walk1
  have W3 := W2 (g + 1)
  replace hA := hA.to (.cons (.vars .nil) .head (Sub.refl _))
  refine' r_tupgen (k := 13) (G := fun i acc Gs => acc.length = i ∧ i ≤ vs.length ∧ Gs = (if i = 0 then [] else [FQsF 183 p acc (ns.take i)])) W3 hK9 ?g1 (Nat.le_refl _) (hNN _) ?g2 rfl ?g3 hA ⟨rfl, Nat.zero_le _, rfl⟩ hgen ?g4 ?_
  case g1 => k_extra "m mem"
  case g2 => k_extra "m mem"
  case g3 => (rintro i ys Gs ⟨e, e2, _⟩; omega)
  case g4 =>
    clear hA hgen
    intro S A' i acc Gs v F s hA' hi hG hV H
    obtain ⟨hl, hle, rfl⟩ := hG
    obtain ⟨hv, rfl⟩ := hV
    obtain ⟨n, hn, hA⟩ := (H.fqStart hl).pick (by k_extra "m mem") hv
    clear H
    repeat' walk1
    exact ⟨_, _, ⟨by simp [hl], hi, rfl⟩, hA.fqNext (by k_extra "m mem") (by k_extra "m mem") hn (by k_extra "m sub") (by k_extra "m facts")⟩
  clear hA hgen
  rintro tC acc Gs s ⟨hl, _, rfl⟩ H
  have hA := H.fqEnd hl (H.len2 (vs := vs) (p := p) (C := 183) (.tail _ (List.mem_append_right _ (by k_extra "m mem")))) (Nat.le_succ_of_le hge)
  clear H
  repeat' walk1
  refine h _ _ (At.to' (At.mkPln hA (by k_extra "m mem") (by k_extra "m rm") (tC := tC) (vs := acc) (tM := y9) (us := us) (by k_extra "m mem") (by k_extra "m mem") (by k_extra "m mem") h4 ⟨_, by k_extra "m look"⟩ (by k_extra "m look") (by k_extra "m look") ⟨_, by rw [← h4.length]; k_extra "m look"⟩ (by k_extra "m nolook")) (by k_extra "m sub") (by k_extra "m facts"))
local macro_rules | `(tactic| walk_at "call ref") => `(tactic| ((with_reducible rename At _ _ _ _ => $(Lean.mkIdent `hA):ident); refine r_use ?_; refine' s_P ?W ?T ?hk $(Lean.mkIdent `hA):ident ?hp ?h1 ?h2 ?h3 ?h4 ?h5 ?h6 ?_; (case W => assumption); (case T => assumption); (case hk => k_extra "m ok"); (case hp => assumption); (case h2 => k_extra "m mem"); (case h1 => k_extra "m seq"); (case h4 => assumption); (case h3 => k_extra "m seq"); (case h5 => k_extra "m lens"); (case h6 => k_extra "m lens"); clear $(Lean.mkIdent `hA):ident; intro $(Lean.mkIdent `x9):ident $(Lean.mkIdent `s9):ident $(Lean.mkIdent `hA):ident))
end
section
local macro_rules | `(tactic| walk_at "call ref") => `(tactic| ((with_reducible rename At _ _ _ _ => $(Lean.mkIdent `hA):ident); refine r_use ?_; refine' s_FQs ?W ?hk $(Lean.mkIdent `hA):ident ?hp ?hm ?_; (case W => assumption); (case hk => k_extra "m ok"); (case hp => assumption); (case hm => k_extra "m mem"); clear $(Lean.mkIdent `hA):ident; intro $(Lean.mkIdent `x9):ident $(Lean.mkIdent `s9):ident $(Lean.mkIdent `hA):ident))
local macro_rules | `(tactic| walk_at "call ref") => `(tactic| ((with_reducible rename At _ _ _ _ => $(Lean.mkIdent `hA):ident); refine r_use ?_; refine' s_P_corr0 ?W ?hk $(Lean.mkIdent `hA):ident ?hp ?hx ?hd ?hmp ?hm ?_; (case W => assumption); (case hk => k_extra "m ok"); (case hp => assumption); (case hx => k_extra "m mem"); (case hd => k_extra "m mem"); (case hmp => exact rfl); (case hm => k_extra "m mem"); clear $(Lean.mkIdent `hA):ident; intro $(Lean.mkIdent `x9):ident $(Lean.mkIdent `s9):ident $(Lean.mkIdent `hA):ident))
local macro_rules | `(tactic| walk_at "call ref") => `(tactic| ((with_reducible rename At _ _ _ _ => $(Lean.mkIdent `hA):ident); refine r_use ?_; refine' s_P ?W ?T ?hk $(Lean.mkIdent `hA):ident ?hp ?h1 ?h2 ?h3 ?h4 ?h5 ?h6 ?_; (case W => assumption); (case T => assumption); (case hk => k_extra "m ok"); (case hp => assumption); (case h2 => k_extra "m mem"); (case h1 => k_extra "m seq"); (case h4 => assumption); (case h3 => k_extra "m seq"); (case h5 => k_extra "m lens"); (case h6 => k_extra "m lens"); clear $(Lean.mkIdent `hA):ident; intro $(Lean.mkIdent `x9):ident $(Lean.mkIdent `s9):ident $(Lean.mkIdent `hA):ident))
section
variable {prog : Program} {w : World} {A : Around} {E : Value → Shared → Prop} {D : Dat} {Fs : List Fact} {R : List Res} {s : Shared} {Q : Value → Shared → Prop}

set_option maxHeartbeats 4000000 in
set_option maxRecDepth 100000 in
theorem s_P_made {x lc : Addr} {vs : List Value} {ns ns0 ms : List Int} {p : Int} (W : Wd (hd.heap_39 w.params) D) (T : ∀ t ∈ WT, t ∈ D.tabs) (hk : Ok A 22) (H : At D Fs R s) (hp : p ≠ 0) (hm : PlnF 183 297 x p ns0 ms ∈ Fs) (h1 : IsSeq Fs lc vs) (h2 : ScsF 183 p vs ns ∈ Fs) (h5 : vs.length = ms.length) (h6 : ms.length < 1000)
    (h : ∀ x s', At D (PlnF 183 297 x p ns ms :: Fs) R s' → Q (.ref x) s') : codeAny (model prog w) A (.call (.ref 208) ⟨[.ref x, .ref lc], []⟩) (Ret Q) s := by
  refine' v_call [("coeffs", .ref lc), ("self", .ref x)] ?W H hk ?ho ?hcd ?hb ?hl ?hm ?_ ?c1 ?c2 ?c3 ?c4
  k_extra "m enter"
  clear H
  repeat' walk1
  exact h _ _ (At.to' hA (by k_extra "m sub") (by k_extra "m facts"))
local macro_rules | `(tactic| walk_at "call ref") => `(tactic| ((with_reducible rename At _ _ _ _ => $(Lean.mkIdent `hA):ident); refine r_use ?_; refine' s_P_made ?W ?T ?hk $(Lean.mkIdent `hA):ident ?hp ?hm ?h1 ?h2 ?h5 ?h6 ?_; (case W => assumption); (case T => assumption); (case hk => k_extra "m ok"); (case hp => assumption); (case hm => k_extra "m mem"); (case h2 => k_extra "m mem"); (case h1 => k_extra "m seq"); (case h5 => k_extra "m lens"); (case h6 => k_extra "m lens"); clear $(Lean.mkIdent `hA):ident; intro $(Lean.mkIdent `x9):ident $(Lean.mkIdent `s9):ident $(Lean.mkIdent `hA):ident))
def plnZip (f : Int → Int → Int) (p : Int) (xs ys : List Int) : List Int := List.zipWith (fun a b => ((f a b).fmod p).fmod p) xs ys
theorem plnZip_length (f : Int → Int → Int) (p : Int) (xs ys : List Int) : (plnZip f p xs ys).length = min xs.length ys.length := by simp [plnZip]

set_option maxHeartbeats 4000000 in
set_option maxRecDepth 100000 in
theorem s_P_add {x y : Addr} {ns ks ms : List Int} {p : Int} (W : Wd (hd.heap_39 w.params) D) (T : ∀ t ∈ WT, t ∈ D.tabs) (hk : Ok A 24) (H : At D Fs R s) (hp : p ≠ 0) (hm : PlnF 183 297 x p ns ms ∈ Fs) (hm2 : PlnF 183 297 y p ks ms ∈ Fs) (h5 : ns.length = ms.length) (h7 : ks.length = ms.length) (h6 : ms.length < 1000)
    (h : ∀ x s', At D (PlnF 183 297 x p (plnZip (· + ·) p ns ks) ms :: Fs) R s' → Q (.ref x) s') : codeAny (model prog w) A (.call (.ref 220) ⟨[.ref x, .ref y], []⟩) (Ret Q) s := by
  refine' v_call [("other", .ref y), ("self", .ref x)] ?W H hk ?ho ?hcd ?hb ?hl ?hm ?_ ?c1 ?c2 ?c3 ?c4
  k_extra "m enter"
  clear H
  k_extra "wk"
  rename_i _ y1 v1 _ e1 _
  have hlen := plnZip_length (· + ·) p ns ks
  refine' r_mapK (fqG 183 p (plnZip (· + ·) p ns ks)) (hN9 _) ⟨_, _, _, rfl⟩ hK9.handled hA ?g1 (by decide) rfl fqG.zero (fun _ _ _ q => q.len (by omega)) ?step ?done
  case g1 => k_extra "m mem"
  case step =>
    intro C acc i ys Gs v F s hi hG hV H
    obtain ⟨T, a, b, rfl, ha, hb, rfl⟩ := hV
    obtain ⟨a', na, rfl, hna, H2⟩ := (hG.start H).pickQ (vs := v1) (by k_extra "m mem") ha
    obtain ⟨b', nb, rfl, hnb, hA⟩ := H2.pickQ (vs := v9) (by k_extra "m mem") hb
    clear H H2
    k_extra "wk"
    exact ⟨(hG.next hA (by k_extra "m mem") (by k_extra "m mem") (zipWith_get hna hnb) (by k_extra "m sub") (by k_extra "m facts")).elim fun F' q => ⟨F', _, q.1, q.2⟩⟩
  case done =>
    clear hA
    intro C acc ys Gs s hG _ s H
    have H1 := hG.done H (by omega)
    have hA := At.scs (At.fzL H1 .head) (by k_extra "m mem")
    have hle := hA.len2 (vs := ys) (by k_extra "m mem")
    clear H H1
    k_extra "wk"
    exact h _ _ (At.to' hA (by k_extra "m sub") (by k_extra "m facts"))

set_option maxHeartbeats 4000000 in
set_option maxRecDepth 100000 in
theorem s_P_sub {x y : Addr} {ns ks ms : List Int} {p : Int} (W : Wd (hd.heap_39 w.params) D) (T : ∀ t ∈ WT, t ∈ D.tabs) (hk : Ok A 24) (H : At D Fs R s) (hp : p ≠ 0) (hm : PlnF 183 297 x p ns ms ∈ Fs) (hm2 : PlnF 183 297 y p ks ms ∈ Fs) (h5 : ns.length = ms.length) (h7 : ks.length = ms.length) (h6 : ms.length < 1000)
    (h : ∀ x s', At D (PlnF 183 297 x p (plnZip (· - ·) p ns ks) ms :: Fs) R s' → Q (.ref x) s') : codeAny (model prog w) A (.call (.ref 225) ⟨[.ref x, .ref y], []⟩) (Ret Q) s := by
  refine' v_call [("other", .ref y), ("self", .ref x)] ?W H hk ?ho ?hcd ?hb ?hl ?hm ?_ ?c1 ?c2 ?c3 ?c4
  k_extra "m enter"
  clear H
  k_extra "wk"
  rename_i _ y1 v1 _ e1 _
  have hlen := plnZip_length (· - ·) p ns ks
  refine' r_mapK (fqG 183 p (plnZip (· - ·) p ns ks)) (hN9 _) ⟨_, _, _, rfl⟩ hK9.handled hA ?g1 (by decide) rfl fqG.zero (fun _ _ _ q => q.len (by omega)) ?step ?done
  case g1 => k_extra "m mem"
  case step =>
    intro C acc i ys Gs v F s hi hG hV H
    obtain ⟨T, a, b, rfl, ha, hb, rfl⟩ := hV
    obtain ⟨a', na, rfl, hna, H2⟩ := (hG.start H).pickQ (vs := v1) (by k_extra "m mem") ha
    obtain ⟨b', nb, rfl, hnb, hA⟩ := H2.pickQ (vs := v9) (by k_extra "m mem") hb
    clear H H2
    k_extra "wk"
    exact ⟨(hG.next hA (by k_extra "m mem") (by k_extra "m mem") (zipWith_get hna hnb) (by k_extra "m sub") (by k_extra "m facts")).elim fun F' q => ⟨F', _, q.1, q.2⟩⟩
  case done =>
    clear hA
    intro C acc ys Gs s hG _ s H
    have H1 := hG.done H (by omega)
    have hA := At.scs (At.fzL H1 .head) (by k_extra "m mem")
    have hle := hA.len2 (vs := ys) (by k_extra "m mem")
    clear H H1
    k_extra "wk"
    exact h _ _ (At.to' hA (by k_extra "m sub") (by k_extra "m facts"))
end
section
local macro_rules | `(tactic| walk_at "call ref") => `(tactic| ((with_reducible rename At _ _ _ _ => $(Lean.mkIdent `hA):ident); refine r_use ?_; refine' s_P_made ?W ?T ?hk $(Lean.mkIdent `hA):ident ?hp ?hm ?h1 ?h2 ?h5 ?h6 ?_; (case W => assumption); (case T => assumption); (case hk => k_extra "m ok"); (case hp => assumption); (case hm => k_extra "m mem"); (case h2 => k_extra "m mem"); (case h1 => k_extra "m seq"); (case h5 => k_extra "m lens"); (case h6 => k_extra "m lens"); clear $(Lean.mkIdent `hA):ident; intro $(Lean.mkIdent `x9):ident $(Lean.mkIdent `s9):ident $(Lean.mkIdent `hA):ident))
section
variable {prog : Program} {w : World} {A : Around} {E : Value → Shared → Prop} {D : Dat} {Fs : List Fact} {R : List Res} {s : Shared} {Q : Value → Shared → Prop}

set_option maxHeartbeats 4000000 in
set_option maxRecDepth 100000 in
theorem s_P_corr {x : Addr} {k p : Int} {t1 : Tok} {ns ms : List Int} (W : Wd (hd.heap_39 w.params) D) (hk : Ok A 12) (H : At D Fs R s) (hp : p ≠ 0) (hm : PlnF 183 297 x p ns ms ∈ Fs)
    (h : ∀ x s', At D (FQF 183 x p (k.fmod p) :: Fs) R s' → Q (.ref x) s') : codeAny (model prog w) A (.call (.ref 215) ⟨[.ref x, .int k t1], []⟩) (Ret Q) s := by
  refine' v_call [("val", .int k t1), ("self", .ref x)] ?W H hk ?ho ?hcd ?hb ?hl ?hm ?_ ?c1 ?c2 ?c3 ?c4
  k_extra "m enter"
  clear H
  repeat' walk1
  exact h _ _ (At.to' hA (by k_extra "m sub") (by k_extra "m facts"))
local macro_rules | `(tactic| walk_at "call ref") => `(tactic| ((with_reducible rename At _ _ _ _ => $(Lean.mkIdent `hA):ident); refine r_use ?_; refine' s_P_corr ?W ?hk $(Lean.mkIdent `hA):ident ?hp ?hm ?_; (case W => assumption); (case hk => k_extra "m ok"); (case hp => assumption); (case hm => k_extra "m mem"); clear $(Lean.mkIdent `hA):ident; intro $(Lean.mkIdent `x9):ident $(Lean.mkIdent `s9):ident $(Lean.mkIdent `hA):ident))
def plnNeg (p : Int) (xs : List Int) : List Int := xs.map fun a => (-a).fmod p
set_option maxHeartbeats 4000000 in
set_option maxRecDepth 100000 in
theorem s_P_neg {x : Addr} {ns ms : List Int} {p : Int} (W : Wd (hd.heap_39 w.params) D) (T : ∀ t ∈ WT, t ∈ D.tabs) (hk : Ok A 24) (H : At D Fs R s) (hp : p ≠ 0) (hm : PlnF 183 297 x p ns ms ∈ Fs) (h5 : ns.length = ms.length) (h6 : ms.length < 1000)
    (h : ∀ x s', At D (PlnF 183 297 x p (plnNeg p ns) ms :: Fs) R s' → Q (.ref x) s') : codeAny (model prog w) A (.call (.ref 280) ⟨[.ref x], []⟩) (Ret Q) s := by
  refine' v_call [("self", .ref x)] ?W H hk ?ho ?hcd ?hb ?hl ?hm ?_ ?c1 ?c2 ?c3 ?c4
  k_extra "m enter"
  clear H
  k_extra "wk"
  have hlen : (plnNeg p ns).length = ns.length := by simp [plnNeg]
  refine' r_mapK (fqG 183 p (plnNeg p ns)) (hN9 false _) ⟨_, _, rfl⟩ hK9.handled hA ?g1 ?g0 ?g2 fqG.zero (fun _ _ _ q => q.len (by omega)) ?step ?done
  case g0 => decide
  case g2 => rfl
  case g1 => k_extra "m mem"
  case step =>
    intro C acc i ys Gs v F s hi hG hV H
    obtain ⟨hv, rfl⟩ := hV
    obtain ⟨a', na, rfl, hna, hA⟩ := (hG.start H).pickQ (vs := v9) (by k_extra "m mem") hv
    clear H
    k_extra "wk"
    exact ⟨(hG.next hA (by k_extra "m mem") (by k_extra "m mem") (by simp [plnNeg, hna]) (by k_extra "m sub") (by k_extra "m facts")).elim fun F' q => ⟨F', _, q.1, q.2⟩⟩
  case done =>
    clear hA
    intro C acc ys Gs s hG _ s H
    have H1 := hG.done H (by omega)
    have hA := At.scs (At.fzL H1 .head) (by k_extra "m mem")
    have hle := hA.len2 (vs := ys) (by k_extra "m mem")
    clear H H1
    k_extra "wk"
    exact h _ _ (At.to' hA (by k_extra "m sub") (by k_extra "m facts"))
abbrev plnOne (p : Int) (d : Nat) : List Int := ([1] ++ List.replicate (d - 1) (0 : Int)).map fun (k : Int) => k.fmod p
set_option maxHeartbeats 4000000 in
set_option maxRecDepth 100000 in
theorem s_P_one {x : Addr} {ns ms : List Int} {p : Int} (W : Wd (hd.heap_39 w.params) D) (T : ∀ t ∈ WT, t ∈ D.tabs) (hk : Ok A 24) (H : At D Fs R s) (hp : p ≠ 0) (hm : PlnF 183 297 x p ns ms ∈ Fs) (h5 : 0 < ms.length) (h6 : ms.length < 1000)
    (h : ∀ x s', At D (PlnF 183 297 x p (plnOne p ms.length) ms :: Fs) R s' → Q (.ref x) s') : codeAny (model prog w) A (.call (.ref 287) ⟨[.ref x], []⟩) (Ret Q) s := by
  refine' v_call [("self", .ref x)] ?W H hk ?ho ?hcd ?hb ?hl ?hm ?_ ?c1 ?c2 ?c3 ?c4
  k_extra "m enter"
  clear H
  k_extra "wk"
  have eN : ((ms.length : Int) - 1).toNat = ms.length - 1 := by omega
  rw [eN] at hA
  have H1 := hA.listScs (C := 183) (p := p) (ks := [1] ++ List.replicate (ms.length - 1) 0) .head (by k_extra "m ints")
  clear hA
  have hA := H1
  clear H1
  k_extra "wk"
  exact h _ _ (At.to' hA (by k_extra "m sub") (by k_extra "m factsD"))
abbrev plnZero (p : Int) (d : Nat) : List Int := (List.replicate d (0 : Int)).map fun (k : Int) => k.fmod p
set_option maxHeartbeats 4000000 in
set_option maxRecDepth 100000 in
theorem s_P_zero {x : Addr} {ns ms : List Int} {p : Int} (W : Wd (hd.heap_39 w.params) D) (T : ∀ t ∈ WT, t ∈ D.tabs) (hk : Ok A 24) (H : At D Fs R s) (hp : p ≠ 0) (hm : PlnF 183 297 x p ns ms ∈ Fs) (h5 : 0 < ms.length) (h6 : ms.length < 1000)
    (h : ∀ x s', At D (PlnF 183 297 x p (plnZero p ms.length) ms :: Fs) R s' → Q (.ref x) s') : codeAny (model prog w) A (.call (.ref 294) ⟨[.ref x], []⟩) (Ret Q) s := by
  refine' v_call [("self", .ref x)] ?W H hk ?ho ?hcd ?hb ?hl ?hm ?_ ?c1 ?c2 ?c3 ?c4
  k_extra "m enter"
  clear H
  k_extra "wk"
  have eN : ((ms.length : Int)).toNat = ms.length := by omega
  rw [eN] at hA
  have H1 := hA.listScs (C := 183) (p := p) (ks := List.replicate ms.length 0) .head (by k_extra "m ints")
  clear hA
  have hA := H1
  clear H1
  k_extra "wk"
  exact h _ _ (At.to' hA (by k_extra "m sub") (by k_extra "m factsD"))
end
section
local macro_rules | `(tactic| walk_at "call ref") => `(tactic| ((with_reducible rename At _ _ _ _ => $(Lean.mkIdent `hA):ident); refine r_use ?_; refine' s_P_corr ?W ?hk $(Lean.mkIdent `hA):ident ?hp ?hm ?_; (case W => assumption); (case hk => k_extra "m ok"); (case hp => assumption); (case hm => k_extra "m mem"); clear $(Lean.mkIdent `hA):ident; intro $(Lean.mkIdent `x9):ident $(Lean.mkIdent `s9):ident $(Lean.mkIdent `hA):ident))
section
variable {prog : Program} {w : World} {A : Around} {E : Value → Shared → Prop} {D : Dat} {Fs : List Fact} {R : List Res} {s : Shared} {Q : Value → Shared → Prop}

abbrev rr (p x : Int) : Int := (x.fmod p).fmod p
/-- b[k] += v, b[k] -= v, all mod p -/
def addAt (p : Int) (b : List Int) (k : Nat) (v : Int) : List Int := b.set k (rr p (b.getD k 0 + v))
def subAt (p : Int) (b : List Int) (k : Nat) (v : Int) : List Int := b.set k (rr p (b.getD k 0 - v))
def convJ (p : Int) (xs ys : List Int) (i : Nat) (b : List Int) (j : Nat) : List Int := addAt p b (i + j) (rr p (xs.getD i 0 * ys.getD j 0))
def convI (p : Int) (xs ys : List Int) (d : Nat) (b : List Int) (i : Nat) : List Int := (List.range d).foldl (convJ p xs ys i) b
def conv (p : Int) (xs ys : List Int) (d i : Nat) : List Int := (List.range i).foldl (convI p xs ys d) (List.replicate (2 * d - 1) ((0 : Int).fmod p))
theorem foldl_range_succ {α : Type} (f : α → Nat → α) (b : α) (i : Nat) : (List.range (i + 1)).foldl f b = f ((List.range i).foldl f b) i := by rw [List.range_succ, List.foldl_append]; rfl
theorem addAt_length (p : Int) (b : List Int) (k : Nat) (v : Int) : (addAt p b k v).length = b.length := by simp [addAt]
theorem subAt_length (p : Int) (b : List Int) (k : Nat) (v : Int) : (subAt p b k v).length = b.length := by simp [subAt]
theorem foldl_len (f : List Int → Nat → List Int) (hf : ∀ b k, (f b k).length = b.length) (l : List Nat) (b : List Int) : (l.foldl f b).length = b.length := by
  induction l generalizing b with
  | nil => rfl
  | cons a l ih => rw [List.foldl_cons, ih, hf]
theorem convI_length (p : Int) (xs ys : List Int) (d : Nat) (b : List Int) (i : Nat) : (convI p xs ys d b i).length = b.length := foldl_len _ (fun b k => addAt_length ..) _ _
theorem conv_length (p : Int) (xs ys : List Int) (d i : Nat) : (conv p xs ys d i).length = 2 * d - 1 := by unfold conv; rw [foldl_len _ (fun b k => convI_length ..)]; simp
/-- one turn of the reduction: the top coefficient goes -/
def redI (p : Int) (ms : List Int) (e : Nat) (top : Int) (b : List Int) (i : Nat) : List Int := subAt p b (e + i) (rr p (top * ((ms.getD i 0).fmod p)))
def redTop (p : Int) (ms : List Int) (b : List Int) : List Int := (List.range ms.length).foldl (redI p ms (b.length - 1 - ms.length) (b.getD (b.length - 1) 0)) b.dropLast
def redN (p : Int) (ms : List Int) : Nat → List Int → List Int
  | 0, b => b
  | n + 1, b => redN p ms n (redTop p ms b)
theorem redTop_length (p : Int) (ms b : List Int) : (redTop p ms b).length = b.length - 1 := by unfold redTop; rw [foldl_len _ (fun b k => by unfold redI; exact subAt_length ..)]; simp
def plnMul (p : Int) (xs ys ms : List Int) : List Int := redN p ms (ms.length - 1) (conv p xs ys ms.length ms.length)
theorem rr_bd {x p : Int} (h0 : 0 < p) (h1 : p < 2 ^ 60) : -(2 ^ 60) < rr p x ∧ rr p x < 2 ^ 60 := fmod_bd h0 h1

set_option maxHeartbeats 4000000 in
set_option maxRecDepth 100000 in
theorem s_P_mul {x y : Addr} {ns ks ms : List Int} {p : Int} (W : Wd (hd.heap_39 w.params) D) (T : ∀ t ∈ WT, t ∈ D.tabs) (hk : Ok A 24) (H : At D Fs R s) (hp0 : 0 < p) (hp1 : p < 2 ^ 60) (hm : PlnF 183 297 x p ns ms ∈ Fs) (hm2 : PlnF 183 297 y p ks ms ∈ Fs) (h5 : ns.length = ms.length) (h7 : ks.length = ms.length) (h6 : ms.length < 1000) (h8 : 0 < ms.length) (hb : Bd ks)
    (h : ∀ x s', At D (PlnF 183 297 x p (plnMul p ns ks ms) ms :: Fs) R s' → Q (.ref x) s') : codeAny (model prog w) A (.call (.ref 230) ⟨[.ref x, .ref y], []⟩) (Ret Q) s := by
  have hp : p ≠ 0 := by omega
  refine' v_callc [] (fun L => [(L + 2, .ref y), (L + 1, .ref x)]) (fun L => []) ?W H hk ?ho ?hcd ?hb ?hl ?hm ?hcm ?hum ?hnd ?hud ?_ ?c2 ?c3 ?c4
  k_extra "m enterc"
  clear H
  k_extra "wk"
  have hn : ((ms.length : Int) * 2 - 1 - 0).toNat = 2 * ms.length - 1 := by omega
  rw [hn] at hA hN9
  have hlen : (List.replicate (2 * ms.length - 1) ((0 : Int).fmod p)).length = 2 * ms.length - 1 := by simp
  refine' r_mapK (fqG 183 p (List.replicate (2 * ms.length - 1) ((0 : Int).fmod p))) (hN9 false _) ⟨_, _, rfl⟩ hK9.handled hA ?g1 ?g0 ?g2 fqG.zero (fun _ _ _ q => q.len (by omega)) ?step ?done
  case g0 => decide
  case g2 => rfl
  case g1 => k_extra "m mem"
  case step =>
    intro C acc i ys Gs v F s hi hG hV H
    obtain ⟨⟨t, rfl⟩, rfl⟩ := hV
    have hA := hG.start H
    clear H
    k_extra "wk"
    exact ⟨(hG.next hA (by k_extra "m mem") (by k_extra "m mem") (by simp [hi]) (by k_extra "m sub") (by k_extra "m facts")).elim fun F' q => ⟨F', _, q.1, q.2⟩⟩
  case done =>
    clear hA
    intro C acc ys Gs s hG H
    have hA := hG.done H hlen
    clear H
    k_extra "wk"
    change At D _ _ _ at hA
    refine ⟨_, _, _, _, hA, by k_extra "m rm", fun s H => ?_⟩
    clear hA
    have hA : At D _ _ s := H
    clear H hN9
    k_extra "wk"
    have hd : ((ms.length : Int) - 0).toNat = ms.length := by omega
    rw [hd] at hA hN9
    refine r_for (fun i s => ∃ vs, At D (FQsF 183 p vs (conv p ns ks ms.length i) :: Tru :: CellF (L9 + 2) (Value.ref y) :: CellF (L9 + 1) (Value.ref x) :: Fs) (RItR I9 0 1 ms.length i :: Lst acc vs :: Vars L9 [("b", .ref acc)] :: R) s)
      (hN9 false D.ng) ⟨_, _, rfl⟩ hK9.handled ⟨ys, ?_⟩ ?_ ?_
    · have e0 : List.replicate (2 * ms.length - 1) ((0 : Int).fmod p) = conv p ns ks ms.length 0 := rfl
      rw [e0] at hA
      exact hA.to' (by k_extra "m sub") (by k_extra "m facts")
    · clear hA
      obtain ⟨I1, rfl⟩ : ∃ I1, I1 = I9 := ⟨_, rfl⟩
      rintro i s hi ⟨vs, H⟩
      refine ⟨_, _, _, H, .tail _ (.head _), .head, ?_⟩
      rintro v F s ⟨⟨t1, rfl⟩, rfl⟩ hA
      clear H
      simp only [Int.zero_add, Int.mul_one]
      k_extra "wk"
      rw [hd] at hA hN9
      have hcl := conv_length p ns ks ms.length i
      refine r_for (fun j s => ∃ vs, At D (FQsF 183 p vs ((List.range j).foldl (convJ p ns ks i) (conv p ns ks ms.length i)) :: Tru :: CellF (L9 + 2) (Value.ref y) :: CellF (L9 + 1) (Value.ref x) :: Fs) (RItR I9 0 1 ms.length j :: RItR I1 0 1 ms.length (i + 1) :: Lst acc vs :: Vars L9 [("b", .ref acc), ("i", .int i t1)] :: R) s)
        (hN9 false D.ng) ⟨_, _, rfl⟩ hK9.handled ⟨vs, ?_⟩ ?_ ?_
      · have e0 : conv p ns ks ms.length i = (List.range 0).foldl (convJ p ns ks i) (conv p ns ks ms.length i) := rfl
        rw [e0] at hA
        exact hA.to' (by k_extra "m sub") (by k_extra "m facts")
      · clear hA
        rintro j s hj ⟨vs, H⟩
        refine ⟨_, _, _, H, .tail _ (.head _), .head, ?_⟩
        rintro v F s ⟨⟨t2, rfl⟩, rfl⟩ hA
        clear H
        simp only [Int.zero_add, Int.mul_one]
        have hl : ((List.range j).foldl (convJ p ns ks i) (conv p ns ks ms.length i)).length = 2 * ms.length - 1 := by rw [foldl_len _ (fun b k => by unfold convJ; exact addAt_length ..)]; exact hcl
        have hvl := hA.fqLen (vs := vs) (by k_extra "m mem")
        have hmj := mulOk_right (a := ns.getD (i : Int).toNat 0) (hb.getD (j : Int).toNat)
        k_extra "wk"
        have e1 : ((i : Int) + (j : Int)).toNat = i + j := by omega
        have e2 : ((i : Int)).toNat = i := by omega
        have e3 : ((j : Int)).toNat = j := by omega
        rw [e1, e2, e3] at hA
        rw [foldl_range_succ]
        exact ⟨_, (hA.fqSet (vs := vs) (j := i + j) (by k_extra "m mem") mem_hd).to' (by k_extra "m sub") (by k_extra "m factsD")⟩
      · clear hA
        rintro s ⟨vs, H⟩
        refine ⟨_, _, _, H, .tail _ (.head _), .head, fun s hA => ?_⟩
        clear H
        show wpAny _ _ _ _ _ _
        k_extra "wk"
        have e4 : conv p ns ks ms.length (i + 1) = (List.range ms.length).foldl (convJ p ns ks i) (conv p ns ks ms.length i) := by unfold conv; rw [foldl_range_succ]; rfl
        rw [e4]
        exact ⟨_, hA.to' (by k_extra "m sub") (by k_extra "m facts")⟩
    · clear hA
      rintro s ⟨vs, H⟩
      refine ⟨_, _, _, H, .tail _ (.head _), .head, fun s hA => ?_⟩
      clear H
      show wpAny _ _ _ _ _ _
      k_extra "wk"
      change At D _ _ _ at hA
      refine r_while (fun k s => ∃ vs b, b.length = ms.length + k ∧ k ≤ ms.length ∧ redN p ms k b = plnMul p ns ks ms ∧ At D (FQsF 183 p vs b :: Tru :: CellF (L9 + 2) (Value.ref y) :: CellF (L9 + 1) (Value.ref x) :: Fs) (Lst acc vs :: Vars L9 [("b", .ref acc)] :: R) s) ?_ (ms.length - 1) ⟨vs, conv p ns ks ms.length ms.length, by rw [conv_length]; omega, by omega, rfl, hA.to' (by k_extra "m sub") (by k_extra "m facts")⟩
      clear hA
      rintro k s ⟨vs, b, hbl, hkl, hbe, hA⟩
      have hvl := hA.fqLen (vs := vs) (by k_extra "m mem")
      cases k with
      | zero =>
        k_extra "wk"
        · exact absurd hvl (by omega)
        have e0 : b = plnMul p ns ks ms := hbe
        rw [e0] at hA hbl
        have H1 := At.scs (At.fzL hA .head) (by k_extra "m mem")
        clear hA
        have hA := H1
        clear H1
        have hle := hA.len2 (vs := vs) (by k_extra "m mem")
        show wpAny _ _ _ _ _ _
        k_extra "wk"
        exact h _ _ (At.to' hA (by k_extra "m sub") (by k_extra "m facts"))
      | succ k =>
        obtain ⟨vs', yv, rfl⟩ : ∃ vs' yv, vs = vs' ++ [yv] := by
          rcases List.eq_nil_or_concat vs with rfl | ⟨a, b, e⟩
          · simp at hvl; omega
          · exact ⟨a, b, by simpa using e⟩
        obtain ⟨b', n, a, rfl, rfl, H2⟩ := hA.fqSnocInv (vs := vs') (by k_extra "m mem")
        clear hA
        have hA := H2
        clear H2
        have hl' : vs'.length = ms.length + k := by simp at hvl hbl; omega
        k_extra "wk"
        rotate_left
        · exact absurd hvl (by omega)
        refine r_unpk hK9.handled hA (.head _) ?_ ?_
        · rfl
        clear hA
        intro s hA
        with_unfolding_all refine r_aio2 ?_
        k_extra "wk"
        have he : ((vs' ++ [Value.ref a]).length : Int) - ms.length - 1 = k := by simp; omega
        rw [he] at hA
        have hd2 : ((ms.length : Int) - 0).toNat = ms.length := by omega
        rw [hd2] at hA hN9
        have hb' : b'.length = ms.length + k := by simp at hbl; omega
        have hmp := fun j => mulOk_right (a := n) (fmod_bd (x := ms.getD j 0) hp0 hp1)
        refine r_for (fun j s => ∃ vs2 t, At D (FQsF 183 p vs2 ((List.range j).foldl (redI p ms k n) b') :: FQF 183 a p n :: Tru :: CellF (L9 + 2) (Value.ref y) :: CellF (L9 + 1) (Value.ref x) :: Fs) (RItR I9 0 1 ms.length j :: Lst acc vs2 :: Vars L9 [("b", .ref acc), ("top", .ref a), ("exp", .int k t)] :: R) s)
          (hN9 false D.ng) ⟨_, _, rfl⟩ hK9.handled ?_ ?_ ?_
        · have e0 : b' = (List.range 0).foldl (redI p ms k n) b' := rfl
          rw [e0] at hA
          exact ⟨vs', _, hA.to' (by k_extra "m sub") (by k_extra "m facts")⟩
        · clear hA
          rintro j s hj ⟨vs2, t, H⟩
          refine ⟨_, _, _, H, .tail _ (.tail _ (.head _)), .head, ?_⟩
          rintro v F s ⟨⟨t2, rfl⟩, rfl⟩ hA
          clear H
          simp only [Int.zero_add, Int.mul_one]
          have hl : ((List.range j).foldl (redI p ms k n) b').length = ms.length + k := by rw [foldl_len _ (fun b k => by unfold redI; exact subAt_length ..)]; exact hb'
          have hvl2 := hA.fqLen (vs := vs2) (by k_extra "m mem")
          have hmj := hmp (j : Int).toNat
          k_extra "wk"
          have e1 : ((k : Int) + (j : Int)).toNat = k + j := by omega
          have e3 : ((j : Int)).toNat = j := by omega
          rw [e1, e3] at hA
          rw [foldl_range_succ]
          exact ⟨_, _, (hA.fqSet (vs := vs2) (j := k + j) (by k_extra "m mem") mem_hd).to' (by k_extra "m sub") (by k_extra "m factsD")⟩
        · clear hA
          rintro s ⟨vs2, t, H⟩
          refine ⟨_, _, _, H, .tail _ (.tail _ (.head _)), .head, fun s hA => ?_⟩
          clear H
          show wpAny _ _ _ _ _ _
          k_extra "wk"
          have eT : redTop p ms (b' ++ [n]) = (List.range ms.length).foldl (redI p ms k n) b' := by
            unfold redTop
            have q1 : (b' ++ [n]).length - 1 - ms.length = k := by simp; omega
            have q2 : (b' ++ [n]).getD ((b' ++ [n]).length - 1) 0 = n := by simp
            have q3 : (b' ++ [n]).dropLast = b' := by simp
            rw [q1, q2, q3]
          rw [← eT] at hA
          exact ⟨k, Nat.lt_succ_self _, _, _, by rw [redTop_length]; omega, by omega, hbe, hA.to' (by k_extra "m sub") (by k_extra "m facts")⟩
end
section
variable {prog : Program} {w : World} {A : Around} {E : Value → Shared → Prop} {D : Dat} {Fs : List Fact} {R : List Res} {s : Shared} {Q : Value → Shared → Prop}
/-- reduced mod p -/
def InR (p : Int) (l : List Int) : Prop := ∀ x ∈ l, 0 ≤ x ∧ x < p
theorem InR.bd {p : Int} {l : List Int} (h : InR p l) (hp : p < 2 ^ 60) : Bd l := fun x hx => by have := h x hx; omega
theorem InR.set {p : Int} {l : List Int} (h : InR p l) (k : Nat) {v : Int} (hv : 0 ≤ v ∧ v < p) : InR p (l.set k v) := fun x hx => by
  rcases List.mem_or_eq_of_mem_set hx with q | q
  · exact h x q
  · exact q ▸ hv
theorem rr_in {p x : Int} (h0 : 0 < p) : 0 ≤ rr p x ∧ rr p x < p := ⟨Int.fmod_nonneg_of_pos _ h0, Int.fmod_lt_of_pos _ h0⟩
theorem fmod_in {p x : Int} (h0 : 0 < p) : 0 ≤ x.fmod p ∧ x.fmod p < p := ⟨Int.fmod_nonneg_of_pos _ h0, Int.fmod_lt_of_pos _ h0⟩
theorem foldl_in {p : Int} (f : List Int → Nat → List Int) (hf : ∀ b k, InR p b → InR p (f b k)) (l : List Nat) (b : List Int) (h : InR p b) : InR p (l.foldl f b) := by
  induction l generalizing b with
  | nil => exact h
  | cons a l ih => exact ih _ (hf _ _ h)
theorem conv_in {p : Int} (h0 : 0 < p) (xs ys : List Int) (d i : Nat) : InR p (conv p xs ys d i) := by
  unfold conv
  refine foldl_in _ (fun b k hb => ?_) _ _ (fun x hx => ?_)
  · unfold convI
    exact foldl_in _ (fun b k hb => by unfold convJ addAt; exact hb.set _ (rr_in h0)) _ _ hb
  · rw [(List.mem_replicate.mp hx).2]; exact fmod_in h0
theorem redTop_in {p : Int} (h0 : 0 < p) (ms b : List Int) (hb : InR p b) : InR p (redTop p ms b) := by
  unfold redTop
  exact foldl_in _ (fun b k hb => by unfold redI subAt; exact hb.set _ (rr_in h0)) _ _ fun x hx => hb x ((List.dropLast_sublist b).subset hx)
theorem redN_in {p : Int} (h0 : 0 < p) (ms : List Int) (n : Nat) (b : List Int) (hb : InR p b) : InR p (redN p ms n b) := by
  induction n generalizing b with
  | zero => exact hb
  | succ n ih => exact ih _ (redTop_in h0 ms b hb)
theorem redN_length (p : Int) (ms : List Int) (n : Nat) (b : List Int) : (redN p ms n b).length = b.length - n := by
  induction n generalizing b with
  | zero => rfl
  | succ n ih => show (redN p ms n (redTop p ms b)).length = _; rw [ih, redTop_length]; omega
theorem plnMul_in {p : Int} (h0 : 0 < p) (xs ys ms : List Int) : InR p (plnMul p xs ys ms) := redN_in h0 ms _ _ (conv_in h0 xs ys ms.length ms.length)
theorem plnMul_length (p : Int) (xs ys ms : List Int) (h : 0 < ms.length) : (plnMul p xs ys ms).length = ms.length := by unfold plnMul; rw [redN_length, conv_length]; omega
def plnPow (p : Int) (ms : List Int) : Nat → List Int → List Int
  | 0, _ => plnOne p ms.length
  | 1, xs => xs
  | n + 2, xs => if (n + 2) % 2 = 0 then plnPow p ms ((n + 2) / 2) (plnMul p xs xs ms) else plnMul p (plnPow p ms ((n + 2) / 2) (plnMul p xs xs ms)) xs ms
termination_by n => n
decreasing_by all_goals omega

theorem d_P_mul {x y : Addr} {ns ks ms : List Int} {p : Int} (W : Wd (hd.heap_39 w.params) D) (T : ∀ t ∈ WT, t ∈ D.tabs) (hk : Ok A 24) (H : At D Fs R s) (hp0 : 0 < p) (hp1 : p < 2 ^ 60) (hm : PlnF 183 297 x p ns ms ∈ Fs) (hm2 : PlnF 183 297 y p ks ms ∈ Fs) (h5 : ns.length = ms.length) (h7 : ks.length = ms.length) (h6 : ms.length < 1000) (h8 : 0 < ms.length) (hb : Bd ks)
    (h : ∀ x s', At D (PlnF 183 297 x p (plnMul p ns ks ms) ms :: Fs) R s' → Q (.ref x) s') : wpAny (model prog w) A (binaryOp .Mult (.ref x) (.ref y)) Q E s := by
  refine' o_bin W H hm .pln ?h1 ?h2 ?h3 hm2 .pln (r_use (s_P_mul W T hk H hp0 hp1 hm hm2 h5 h7 h6 h8 hb fun z s' H' => h z s' H'))
  all_goals k_is
theorem d_P_add {x y : Addr} {ns ks ms : List Int} {p : Int} (W : Wd (hd.heap_39 w.params) D) (T : ∀ t ∈ WT, t ∈ D.tabs) (hk : Ok A 24) (H : At D Fs R s) (hp : p ≠ 0) (hm : PlnF 183 297 x p ns ms ∈ Fs) (hm2 : PlnF 183 297 y p ks ms ∈ Fs) (h5 : ns.length = ms.length) (h7 : ks.length = ms.length) (h6 : ms.length < 1000)
    (h : ∀ x s', At D (PlnF 183 297 x p (plnZip (· + ·) p ns ks) ms :: Fs) R s' → Q (.ref x) s') : wpAny (model prog w) A (binaryOp .Add (.ref x) (.ref y)) Q E s := by
  refine' o_bin W H hm .pln ?h1 ?h2 ?h3 hm2 .pln (r_use (s_P_add W T hk H hp hm hm2 h5 h7 h6 fun z s' H' => h z s' H'))
  all_goals k_is
theorem d_P_sub {x y : Addr} {ns ks ms : List Int} {p : Int} (W : Wd (hd.heap_39 w.params) D) (T : ∀ t ∈ WT, t ∈ D.tabs) (hk : Ok A 24) (H : At D Fs R s) (hp : p ≠ 0) (hm : PlnF 183 297 x p ns ms ∈ Fs) (hm2 : PlnF 183 297 y p ks ms ∈ Fs) (h5 : ns.length = ms.length) (h7 : ks.length = ms.length) (h6 : ms.length < 1000)
    (h : ∀ x s', At D (PlnF 183 297 x p (plnZip (· - ·) p ns ks) ms :: Fs) R s' → Q (.ref x) s') : wpAny (model prog w) A (binaryOp .Sub (.ref x) (.ref y)) Q E s := by
  refine' o_bin W H hm .pln ?h1 ?h2 ?h3 hm2 .pln (r_use (s_P_sub W T hk H hp hm hm2 h5 h7 h6 fun z s' H' => h z s' H'))
  all_goals k_is
theorem d_P_neg {x : Addr} {ns ms : List Int} {p : Int} (W : Wd (hd.heap_39 w.params) D) (T : ∀ t ∈ WT, t ∈ D.tabs) (hk : Ok A 24) (H : At D Fs R s) (hp : p ≠ 0) (hm : PlnF 183 297 x p ns ms ∈ Fs) (h5 : ns.length = ms.length) (h6 : ms.length < 1000)
    (h : ∀ x s', At D (PlnF 183 297 x p (plnNeg p ns) ms :: Fs) R s' → Q (.ref x) s') : wpAny (model prog w) A (unaryOp .USub (.ref x)) Q E s := by
  refine' o_neg W H hm .pln ?h1 ?h2 (r_use (s_P_neg W T hk H hp hm h5 h6 fun z s' H' => h z s' H'))
  all_goals k_is
local macro_rules | `(tactic| walk_at "binaryOp Mult ref ref") => `(tactic| ((with_reducible rename At _ _ _ _ => $(Lean.mkIdent `hA):ident); refine' d_P_mul ?W ?T ?hk $(Lean.mkIdent `hA):ident ?hp0 ?hp1 ?hm ?hm2 ?h5 ?h7 ?h6 ?h8 ?hb ?_; (case W => assumption); (case T => assumption); (case hk => k_extra "m ok"); (case hp0 => assumption); (case hp1 => assumption); (case hm => k_extra "m mem"); (case hm2 => k_extra "m mem"); (case h5 => k_extra "m lens"); (case h7 => k_extra "m lens"); (case h6 => assumption); (case h8 => assumption); (case hb => assumption); clear $(Lean.mkIdent `hA):ident; intro $(Lean.mkIdent `x9):ident $(Lean.mkIdent `s9):ident $(Lean.mkIdent `hA):ident))
end
section
local macro_rules | `(tactic| walk_at "binaryOp Mult ref ref") => `(tactic| ((with_reducible rename At _ _ _ _ => $(Lean.mkIdent `hA):ident); refine' d_P_mul ?W ?T ?hk $(Lean.mkIdent `hA):ident ?hp0 ?hp1 ?hm ?hm2 ?h5 ?h7 ?h6 ?h8 ?hb ?_; (case W => assumption); (case T => assumption); (case hk => k_extra "m ok"); (case hp0 => assumption); (case hp1 => assumption); (case hm => k_extra "m mem"); (case hm2 => k_extra "m mem"); (case h5 => k_extra "m lens"); (case h7 => k_extra "m lens"); (case h6 => assumption); (case h8 => assumption); (case hb => assumption); clear $(Lean.mkIdent `hA):ident; intro $(Lean.mkIdent `x9):ident $(Lean.mkIdent `s9):ident $(Lean.mkIdent `hA):ident))
variable {prog : Program} {w : World} {A : Around} {E : Value → Shared → Prop} {D : Dat} {Fs : List Fact} {R : List Res} {s : Shared} {Q : Value → Shared → Prop}
local macro_rules | `(tactic| walk_at "binaryOp FloorDiv int int") => `(tactic| ((with_reducible rename At _ _ _ _ => $(Lean.mkIdent `hA):ident); refine r_fdiv $(Lean.mkIdent `hA):ident (by omega) (by exact PyProof.noPylong_small (by omega)) ?_; clear $(Lean.mkIdent `hA):ident; intro $(Lean.mkIdent `t9):ident $(Lean.mkIdent `s9):ident $(Lean.mkIdent `hA):ident))
theorem plnPow_length (p : Int) (ms : List Int) (h8 : 0 < ms.length) (n : Nat) : ∀ (xs : List Int), xs.length = ms.length → (plnPow p ms n xs).length = ms.length := by
  induction n using Nat.strongRecOn with
  | ind n ih =>
    intro xs hx
    match n, ih with
    | 0, _ => rw [plnPow]; simp [plnOne]; omega
    | 1, _ => rw [plnPow]; exact hx
    | k + 2, ih =>
      rw [plnPow]
      split
      · exact ih _ (by omega) _ (plnMul_length _ _ _ _ h8)
      · exact plnMul_length _ _ _ _ h8
set_option maxHeartbeats 4000000 in
set_option maxRecDepth 100000 in
theorem s_P_pow (n : Nat) : ∀ {A : Around} {Fs : List Fact} {R : List Res} {s : Shared} {Q : Value → Shared → Prop} {x : Addr} {t1 : Tok} {ns ms : List Int} {p : Int} (_ : Wd (hd.heap_39 w.params) D) (_ : ∀ t ∈ WT, t ∈ D.tabs) (_ : Ok A (30 + 2 * n)) (_ : n < 64) (_ : At D Fs R s) (_ : 0 < p) (_ : p < 2 ^ 60) (_ : PlnF 183 297 x p ns ms ∈ Fs) (_ : ns.length = ms.length) (_ : ms.length < 1000) (_ : 0 < ms.length) (_ : Bd ns)
    (_ : ∀ x s', At D (PlnF 183 297 x p (plnPow p ms n ns) ms :: Fs) R s' → Q (.ref x) s'), codeAny (model prog w) A (.call (.ref 249) ⟨[.ref x, .int n t1], []⟩) (Ret Q) s := by
  induction n using Nat.strongRecOn with
  | ind n ih =>
    intro A Fs R s Q x t1 ns ms p W T hk hn H hp0 hp1 hm h5 h6 h8 hb h
    have hp : p ≠ 0 := by omega
    refine' v_call [("other", .int n t1), ("self", .ref x)] ?W H (n := 29 + 2 * n) (hk.mono (by omega)) ?ho ?hcd ?hb ?hl ?hm ?_ ?c1 ?c2 ?c3 ?c4
    k_extra "m enter"
    clear H
    have hK8 : Ok (A.deeper (envOf _ _ L9 249 _)) 29 := hK9.mono (by omega)
    k_extra "wk"
    · have n0 : n = 0 := by omega
      subst n0
      have eN : ((ms.length : Int) - 1).toNat = ms.length - 1 := by omega
      rw [eN] at hA
      have H1 := hA.listScs (C := 183) (p := p) (ks := [1] ++ List.replicate (ms.length - 1) 0) .head (by k_extra "m ints")
      clear hA
      have hA := H1
      clear H1
      k_extra "wk"
      refine h _ _ ?_
      rw [plnPow]
      exact At.to' hA (by k_extra "m sub") (by k_extra "m facts")
    · have n1 : n = 1 := by omega
      subst n1
      have H1 := hA.scs (vs := v9) (by k_extra "m mem")
      clear hA
      have hA := H1
      clear H1
      have e9 : v9.length = ms.length := by omega
      refine r_use (s_P_made W T (hK8.mono (by omega)) hA hp (by k_extra "m mem") (by k_extra "m seq") (by k_extra "m mem") e9 h6 ?_)
      clear hA
      intro x9 s9 hA
      refine h _ _ ?_
      rw [plnPow]
      exact At.to' hA (by k_extra "m sub") (by k_extra "m facts")
    all_goals
      have e2 : ((n : Int)).fdiv 2 = ((n / 2 : Nat) : Int) := by rw [Int.fdiv_eq_ediv_of_nonneg _ (by decide)]; omega
      have e3 : ((n : Int)).fmod 2 = ((n % 2 : Nat) : Int) := by rw [Int.fmod_eq_emod_of_nonneg _ (by decide)]; omega
      rw [e2]
      obtain ⟨k, rfl⟩ : ∃ k, n = k + 2 := ⟨n - 2, by omega⟩
      refine' o_binT W hA (F := PlnF 183 297 x9 p (plnMul p ns ns ms) ms) (.head _) .pln ?q1 ?q2 ?q3 (T := "int") rfl ?q4 (.inl rfl) ?q5 ?q6 ?q7 (r_use (ih ((k + 2) / 2) (by omega) W T (hK9.mono (by omega)) (by omega) hA hp0 hp1 (.head _) (plnMul_length _ _ _ _ h8) h6 h8 (InR.bd (plnMul_in hp0 ns ns ms) hp1) ?_))
      case q1 => k_is
      case q2 => k_is
      case q3 => k_is
      case q4 => k_is
      case q5 => k_is
      case q6 => k_is
      case q7 => k_is
      clear hA
      intro x9 s9 hA
    · refine h _ _ ?_
      rw [plnPow, if_pos (by omega)]
      exact At.to' hA (by k_extra "m sub") (by k_extra "m facts")
    · show wpAny _ _ _ _ _ _
      have e8 : (plnPow p ms ((k + 2) / 2) (plnMul p ns ns ms)).length = ms.length := plnPow_length _ _ h8 _ _ (plnMul_length _ _ _ _ h8)
      k_extra "wk"
      refine d_P_mul W T (hK9.mono (by omega)) hA hp0 hp1 (by k_extra "m mem") (by k_extra "m mem") e8 h5 h6 h8 hb ?_
      clear hA
      intro x9 s9 hA
      refine h _ _ ?_
      rw [plnPow, if_neg (by omega)]
      exact At.to' hA (by k_extra "m sub") (by k_extra "m facts")
end
end
end
section
variable {prog : Program} {w : World} {A : Around} {E : Value → Shared → Prop} {D : Dat} {Fs : List Fact} {R : List Res} {s : Shared} {Q : Value → Shared → Prop}
set_option maxHeartbeats 4000000 in
set_option maxRecDepth 100000 in
theorem s_O {lc lm : Addr} {vs us : List Value} {ns ms : List Int} {p : Int} {t2 : Tok} (W : Wd (hd.heap_39 w.params) D) (T : ∀ t ∈ WT, t ∈ D.tabs) (hk : Ok A 20) (H : At D Fs R s) (hp : p ≠ 0) (h1 : ListF lc vs ∈ Fs) (h2 : IntsAre vs ns) (h3 : IsSeq Fs lm us) (h4 : IntsAre us ms) (h5 : vs.length = us.length) (h6 : us.length < 1000) (h8 : 0 < us.length)
    (h : ∀ x s', At D (OptF 422 x p (ns.map fun k => k.fmod p) ms :: Fs) R s' → Q (.ref x) s') : codeAny (model prog w) A (.call (.ref 422) ⟨[.ref lc, .ref lm, .int p t2], []⟩) (Ret Q) s := by
  refine' r_new W H ?h1 ?h2 ?h3 ?_
  case h1 => k_is
  case h2 => k_is
  case h3 => k_is
  have H0 := H
  clear H
  intro x dx s H
  clear H0
  refine' v_callc [("coeffs", .ref lc), ("modulus_coeffs", .ref lm), ("field_modulus", .int p t2)] (fun L => [(L + 1, .ref x)]) (fun L => []) ?W H hk.ty ?ho ?hcd ?hb ?hl ?hm ?hcm ?hum ?hnd ?hud ?_ ?c2 ?c3 ?c4
  k_extra "m enterc"
  clear H
  repeat' walk1
  refine' r_mapK (prG ms) (hN9 D.ng) ⟨_, _, _, rfl⟩ hK9.handled hA ?g1 (by decide) rfl prG.zero (fun _ _ _ q => q.len (by rw [← h4.length]; omega)) ?step ?done
  case g1 => k_extra "m mem"
  case step =>
    clear hA
    intro C acc i ys Gs v F s hi hG hV H
    obtain ⟨T', vals, rfl, ⟨t, c', hx, rfl⟩, rfl⟩ := hV
    obtain ⟨c, tc, rfl, hc⟩ := h4.at i c' (by simpa using hx)
    have H1 : At D (TupF T' [.int i t, .int c tc] :: (Gs ++ _)) _ s := H
    have hA := hG.fact H1 (fun F hF => .tail _ (List.mem_append_left _ hF))
    clear H H1
    k_extra "wk"
    · refine' hG.holdT hc (by assumption) hA ?u1 ?u2 ?u3
      case u1 => k_extra "m mem"
      case u2 => k_extra "m mem"
      case u3 => (intro F hF; repeat (first | exact List.mem_append_right _ hF | refine List.mem_cons_of_mem _ ?_))
    · rename_i c0
      subst c0
      refine' hG.holdS hc hA ?u1 ?u3
      case u1 => k_extra "m mem"
      case u3 => (intro F hF; repeat (first | exact List.mem_append_right _ hF | refine List.mem_cons_of_mem _ ?_))
  case done =>
    clear hA
    intro C acc ys Gs s hG _ s H
    have hA := hG.done H h4.length.symm
    clear H
    have e7 := h2.length
    have e6 : 0 < ns.length := by omega
    k_extra "wk"
    · exact absurd h5 (by omega)
    have W2 : ∀ m, Wd (hd.heap_39 w.params) (D.withNg m) := fun m => W.ng
    refine' r_GenK (t := ⟨312, 310, #[]⟩) W hA (T _ (by simp [WT])) rfl rfl ?_
    have hNN := hN9 false
    clear hA hN9
    intro a g C code s hge hA hgen
    k_extra "wk"
    have W3 := W2 (g + 1)
    replace hA := hA.to (.cons (.vars .nil) .head (Sub.refl _))
    have el : (ns.map fun k => k.fmod p).length = vs.length := by simp; omega
    refine' r_tupgen (k := 13) (G := inG (ns.map fun k => k.fmod p)) W3 hK9 ?g1 (Nat.le_refl _) (hNN _) ?g2 rfl ?g3 hA inG.zero hgen ?g4 ?_
    case g1 => k_extra "m mem"
    case g2 => k_extra "m mem"
    case g3 => exact fun _ _ _ q => q.len (by omega)
    case g4 =>
      clear hA hgen
      intro S A' i acc Gs v F s hA' hi hG hV H
      have hG' := hG
      obtain ⟨_, _, rfl⟩ := hG'
      obtain ⟨hv, rfl⟩ := hV
      obtain ⟨n, t, rfl, hn⟩ := h2.at i v hv
      have hA := H
      clear H
      rw [List.nil_append] at hA
      k_extra "wk"
      exact hG.hold (by rw [List.getElem?_map, hn]; rfl) hA (by k_extra "m facts")
    clear hA hgen
    rintro tC acc2 Gs2 s hG2 H
    have hi2 := hG2.done (by omega)
    obtain ⟨_, _, rfl⟩ := hG2
    have hA := (H.ofNg (D := D) (Nat.le_succ_of_le hge)).nil1 rfl
    clear H
    k_extra "wk"
    have hB := At.fzL hA .head
    refine h _ _ (At.to' (At.mkOpt hB (by k_extra "m mem") (by k_extra "m rm") (tC := tC) (vs := acc2) (tM := y9) (us := us) (lw := acc) (ws := ys) (by k_extra "m mem") hi2 (by k_extra "m mem") h4 (by k_extra "m mem") (by k_extra "m mem") ⟨_, by k_extra "m look"⟩ (by k_extra "m look") (by k_extra "m look") ⟨_, by rw [← h4.length]; k_extra "m look"⟩ (by k_extra "m look") (by k_extra "m nolook")) (by k_extra "m sub") (by k_extra "m facts"))
local macro_rules | `(tactic| walk_at "call ref") => `(tactic| ((with_reducible rename At _ _ _ _ => $(Lean.mkIdent `hA):ident); refine r_use ?_; refine' s_O ?W ?T ?hk $(Lean.mkIdent `hA):ident ?hp ?h1 ?h2 ?h3 ?h4 ?h5 ?h6 ?h8 ?_; (case W => assumption); (case T => assumption); (case hk => k_extra "m ok"); (case hp => assumption); (case h1 => k_extra "m mem"); (case h2 => k_extra "m ints"); (case h4 => assumption); (case h3 => k_extra "m seq"); (case h5 => k_extra "m lens"); (case h6 => k_extra "m lens"); (case h8 => k_extra "m lens"); clear $(Lean.mkIdent `hA):ident; intro $(Lean.mkIdent `x9):ident $(Lean.mkIdent `s9):ident $(Lean.mkIdent `hA):ident))
end
section
local macro_rules | `(tactic| walk_at "call ref") => `(tactic| ((with_reducible rename At _ _ _ _ => $(Lean.mkIdent `hA):ident); refine r_use ?_; refine' s_O ?W ?T ?hk $(Lean.mkIdent `hA):ident ?hp ?h1 ?h2 ?h3 ?h4 ?h5 ?h6 ?h8 ?_; (case W => assumption); (case T => assumption); (case hk => k_extra "m ok"); (case hp => assumption); (case h1 => k_extra "m mem"); (case h2 => k_extra "m ints"); (case h4 => assumption); (case h3 => k_extra "m seq"); (case h5 => k_extra "m lens"); (case h6 => k_extra "m lens"); (case h8 => k_extra "m lens"); clear $(Lean.mkIdent `hA):ident; intro $(Lean.mkIdent `x9):ident $(Lean.mkIdent `s9):ident $(Lean.mkIdent `hA):ident))
section
variable {prog : Program} {w : World} {A : Around} {E : Value → Shared → Prop} {D : Dat} {Fs : List Fact} {R : List Res} {s : Shared} {Q : Value → Shared → Prop}
set_option maxHeartbeats 4000000 in
set_option maxRecDepth 100000 in
theorem s_F {lc lm : Addr} {vs us : List Value} {ns ms : List Int} {p : Int} {t2 : Tok} (W : Wd (hd.heap_39 w.params) D) (T : ∀ t ∈ WT, t ∈ D.tabs) (hk : Ok A 20) (H : At D Fs R s) (hp : p ≠ 0) (h1 : ListF lc vs ∈ Fs) (h2 : IntsAre vs ns) (h3 : IsSeq Fs lm us) (h4 : IntsAre us ms) (h5 : vs.length = us.length) (h6 : us.length < 1000) (h8 : 0 < us.length)
    (h : ∀ x s', At D (OptF 451 x p (ns.map fun k => k.fmod p) ms :: Fs) R s' → Q (.ref x) s') : codeAny (model prog w) A (.call (.ref 451) ⟨[.ref lc, .ref lm, .int p t2], []⟩) (Ret Q) s := by
  refine' r_new W H ?h1 ?h2 ?h3 ?_
  case h1 => k_is
  case h2 => k_is
  case h3 => k_is
  have H0 := H
  clear H
  intro x dx s H
  clear H0
  refine' v_callc [("coeffs", .ref lc), ("modulus_coeffs", .ref lm), ("field_modulus", .int p t2)] (fun L => [(L + 1, .ref x)]) (fun L => []) ?W H hk.ty ?ho ?hcd ?hb ?hl ?hm ?hcm ?hum ?hnd ?hud ?_ ?c2 ?c3 ?c4
  k_extra "m enterc"
  clear H
  repeat' walk1
  refine' r_mapK (prG ms) (hN9 D.ng) ⟨_, _, _, rfl⟩ hK9.handled hA ?g1 (by decide) rfl prG.zero (fun _ _ _ q => q.len (by rw [← h4.length]; omega)) ?step ?done
  case g1 => k_extra "m mem"
  case step =>
    clear hA
    intro C acc i ys Gs v F s hi hG hV H
    obtain ⟨T', vals, rfl, ⟨t, c', hx, rfl⟩, rfl⟩ := hV
    obtain ⟨c, tc, rfl, hc⟩ := h4.at i c' (by simpa using hx)
    have H1 : At D (TupF T' [.int i t, .int c tc] :: (Gs ++ _)) _ s := H
    have hA := hG.fact H1 (fun F hF => .tail _ (List.mem_append_left _ hF))
    clear H H1
    k_extra "wk"
    · refine' hG.holdT hc (by assumption) hA ?u1 ?u2 ?u3
      case u1 => k_extra "m mem"
      case u2 => k_extra "m mem"
      case u3 => (intro F hF; repeat (first | exact List.mem_append_right _ hF | refine List.mem_cons_of_mem _ ?_))
    · rename_i c0
      subst c0
      refine' hG.holdS hc hA ?u1 ?u3
      case u1 => k_extra "m mem"
      case u3 => (intro F hF; repeat (first | exact List.mem_append_right _ hF | refine List.mem_cons_of_mem _ ?_))
  case done =>
    clear hA
    intro C acc ys Gs s hG _ s H
    have hA := hG.done H h4.length.symm
    clear H
    have e7 := h2.length
    have e6 : 0 < ns.length := by omega
    k_extra "wk"
    · exact absurd h5 (by omega)
    have W2 : ∀ m, Wd (hd.heap_39 w.params) (D.withNg m) := fun m => W.ng
    refine' r_GenK (t := ⟨312, 310, #[]⟩) W hA (T _ (by simp [WT])) rfl rfl ?_
    have hNN := hN9 false
    clear hA hN9
    intro a g C code s hge hA hgen
    k_extra "wk"
    have W3 := W2 (g + 1)
    replace hA := hA.to (.cons (.vars .nil) .head (Sub.refl _))
    have el : (ns.map fun k => k.fmod p).length = vs.length := by simp; omega
    refine' r_tupgen (k := 13) (G := inG (ns.map fun k => k.fmod p)) W3 hK9 ?g1 (Nat.le_refl _) (hNN _) ?g2 rfl ?g3 hA inG.zero hgen ?g4 ?_
    case g1 => k_extra "m mem"
    case g2 => k_extra "m mem"
    case g3 => exact fun _ _ _ q => q.len (by omega)
    case g4 =>
      clear hA hgen
      intro S A' i acc Gs v F s hA' hi hG hV H
      have hG' := hG
      obtain ⟨_, _, rfl⟩ := hG'
      obtain ⟨hv, rfl⟩ := hV
      obtain ⟨n, t, rfl, hn⟩ := h2.at i v hv
      have hA := H
      clear H
      rw [List.nil_append] at hA
      k_extra "wk"
      exact hG.hold (by rw [List.getElem?_map, hn]; rfl) hA (by k_extra "m facts")
    clear hA hgen
    rintro tC acc2 Gs2 s hG2 H
    have hi2 := hG2.done (by omega)
    obtain ⟨_, _, rfl⟩ := hG2
    have hA := (H.ofNg (D := D) (Nat.le_succ_of_le hge)).nil1 rfl
    clear H
    k_extra "wk"
    have hB := At.fzL hA .head
    refine h _ _ (At.to' (At.mkOpt hB (by k_extra "m mem") (by k_extra "m rm") (tC := tC) (vs := acc2) (tM := y9) (us := us) (lw := acc) (ws := ys) (by k_extra "m mem") hi2 (by k_extra "m mem") h4 (by k_extra "m mem") (by k_extra "m mem") ⟨_, by k_extra "m look"⟩ (by k_extra "m look") (by k_extra "m look") ⟨_, by rw [← h4.length]; k_extra "m look"⟩ (by k_extra "m look") (by k_extra "m nolook")) (by k_extra "m sub") (by k_extra "m facts"))
local macro_rules | `(tactic| walk_at "call ref") => `(tactic| ((with_reducible rename At _ _ _ _ => $(Lean.mkIdent `hA):ident); refine r_use ?_; refine' s_F ?W ?T ?hk $(Lean.mkIdent `hA):ident ?hp ?h1 ?h2 ?h3 ?h4 ?h5 ?h6 ?h8 ?_; (case W => assumption); (case T => assumption); (case hk => k_extra "m ok"); (case hp => assumption); (case h1 => k_extra "m mem"); (case h2 => k_extra "m ints"); (case h4 => assumption); (case h3 => k_extra "m seq"); (case h5 => k_extra "m lens"); (case h6 => k_extra "m lens"); (case h8 => k_extra "m lens"); clear $(Lean.mkIdent `hA):ident; intro $(Lean.mkIdent `x9):ident $(Lean.mkIdent `s9):ident $(Lean.mkIdent `hA):ident))
end
section
variable {prog : Program} {w : World} {A : Around} {E : Value → Shared → Prop} {D : Dat} {Fs : List Fact} {R : List Res} {s : Shared} {Q : Value → Shared → Prop}
set_option maxHeartbeats 4000000 in
set_option maxRecDepth 100000 in
theorem s_O_made {x lc : Addr} {vs : List Value} {ns ns0 ms : List Int} {p : Int} (W : Wd (hd.heap_39 w.params) D) (T : ∀ t ∈ WT, t ∈ D.tabs) (hk : Ok A 22) (H : At D Fs R s) (hp : p ≠ 0) (hm : OptF 422 x p ns0 ms ∈ Fs) (h1 : ListF lc vs ∈ Fs) (h2 : IntsAre vs ns) (h5 : vs.length = ms.length) (h6 : ms.length < 1000) (h8 : 0 < ms.length)
    (h : ∀ x s', At D (OptF 422 x p (ns.map fun k => k.fmod p) ms :: Fs) R s' → Q (.ref x) s') : codeAny (model prog w) A (.call (.ref 320) ⟨[.ref x, .ref lc], []⟩) (Ret Q) s := by
  refine' v_call [("coeffs", .ref lc), ("self", .ref x)] ?W H hk ?ho ?hcd ?hb ?hl ?hm ?_ ?c1 ?c2 ?c3 ?c4
  k_extra "m enter"
  clear H
  repeat' walk1
  exact h _ _ (At.to' hA (by k_extra "m sub") (by k_extra "m facts"))
local macro_rules | `(tactic| walk_at "call ref") => `(tactic| ((with_reducible rename At _ _ _ _ => $(Lean.mkIdent `hA):ident); refine r_use ?_; refine' s_O_made ?W ?T ?hk $(Lean.mkIdent `hA):ident ?hp ?hm ?h1 ?h2 ?h5 ?h6 ?h8 ?_; (case W => assumption); (case T => assumption); (case hk => k_extra "m ok"); (case hp => assumption); (case hm => k_extra "m mem"); (case h1 => k_extra "m mem"); (case h2 => k_extra "m ints"); (case h5 => k_extra "m lens"); (case h6 => k_extra "m lens"); (case h8 => k_extra "m lens"); clear $(Lean.mkIdent `hA):ident; intro $(Lean.mkIdent `x9):ident $(Lean.mkIdent `s9):ident $(Lean.mkIdent `hA):ident))
end
section
local macro_rules | `(tactic| walk_at "call ref") => `(tactic| ((with_reducible rename At _ _ _ _ => $(Lean.mkIdent `hA):ident); refine r_use ?_; refine' s_O_made ?W ?T ?hk $(Lean.mkIdent `hA):ident ?hp ?hm ?h1 ?h2 ?h5 ?h6 ?h8 ?_; (case W => assumption); (case T => assumption); (case hk => k_extra "m ok"); (case hp => assumption); (case hm => k_extra "m mem"); (case h1 => k_extra "m mem"); (case h2 => k_extra "m ints"); (case h5 => k_extra "m lens"); (case h6 => k_extra "m lens"); (case h8 => k_extra "m lens"); clear $(Lean.mkIdent `hA):ident; intro $(Lean.mkIdent `x9):ident $(Lean.mkIdent `s9):ident $(Lean.mkIdent `hA):ident))
local macro_rules | `(tactic| walk_at "call ref") => `(tactic| ((with_reducible rename At _ _ _ _ => $(Lean.mkIdent `hA):ident); refine r_use ?_; refine' s_F ?W ?T ?hk $(Lean.mkIdent `hA):ident ?hp ?h1 ?h2 ?h3 ?h4 ?h5 ?h6 ?h8 ?_; (case W => assumption); (case T => assumption); (case hk => k_extra "m ok"); (case hp => assumption); (case h1 => k_extra "m mem"); (case h2 => k_extra "m ints"); (case h4 => assumption); (case h3 => k_extra "m seq"); (case h5 => k_extra "m lens"); (case h6 => k_extra "m lens"); (case h8 => k_extra "m lens"); clear $(Lean.mkIdent `hA):ident; intro $(Lean.mkIdent `x9):ident $(Lean.mkIdent `s9):ident $(Lean.mkIdent `hA):ident))
variable {prog : Program} {w : World} {A : Around} {E : Value → Shared → Prop} {D : Dat} {Fs : List Fact} {R : List Res} {s : Shared} {Q : Value → Shared → Prop}
set_option maxHeartbeats 4000000 in
set_option maxRecDepth 100000 in
theorem s_F_made {x lc : Addr} {vs : List Value} {ns ns0 ms : List Int} {p : Int} (W : Wd (hd.heap_39 w.params) D) (T : ∀ t ∈ WT, t ∈ D.tabs) (hk : Ok A 22) (H : At D Fs R s) (hp : p ≠ 0) (hm : OptF 451 x p ns0 ms ∈ Fs) (h1 : ListF lc vs ∈ Fs) (h2 : IntsAre vs ns) (h5 : vs.length = ms.length) (h6 : ms.length < 1000) (h8 : 0 < ms.length)
    (h : ∀ x s', At D (OptF 451 x p (ns.map fun k => k.fmod p) ms :: Fs) R s' → Q (.ref x) s') : codeAny (model prog w) A (.call (.ref 440) ⟨[.ref x, .ref lc], []⟩) (Ret Q) s := by
  refine' v_call [("coeffs", .ref lc), ("self", .ref x)] ?W H hk ?ho ?hcd ?hb ?hl ?hm ?_ ?c1 ?c2 ?c3 ?c4
  k_extra "m enter"
  clear H
  repeat' walk1
  exact h _ _ (At.to' hA (by k_extra "m sub") (by k_extra "m facts"))
local macro_rules | `(tactic| walk_at "call ref") => `(tactic| ((with_reducible rename At _ _ _ _ => $(Lean.mkIdent `hA):ident); refine r_use ?_; refine' s_F_made ?W ?T ?hk $(Lean.mkIdent `hA):ident ?hp ?hm ?h1 ?h2 ?h5 ?h6 ?h8 ?_; (case W => assumption); (case T => assumption); (case hk => k_extra "m ok"); (case hp => assumption); (case hm => k_extra "m mem"); (case h1 => k_extra "m mem"); (case h2 => k_extra "m ints"); (case h5 => k_extra "m lens"); (case h6 => k_extra "m lens"); (case h8 => k_extra "m lens"); clear $(Lean.mkIdent `hA):ident; intro $(Lean.mkIdent `x9):ident $(Lean.mkIdent `s9):ident $(Lean.mkIdent `hA):ident))
end
end
section
local macro_rules | `(tactic| walk_at "call ref") => `(tactic| ((with_reducible rename At _ _ _ _ => $(Lean.mkIdent `hA):ident); refine r_use ?_; refine' s_P_made ?W ?T ?hk $(Lean.mkIdent `hA):ident ?hp ?hm ?h1 ?h2 ?h5 ?h6 ?_; (case W => assumption); (case T => assumption); (case hk => k_extra "m ok"); (case hp => assumption); (case hm => k_extra "m mem"); (case h2 => k_extra "m mem"); (case h1 => k_extra "m seq"); (case h5 => k_extra "m lens"); (case h6 => k_extra "m lens"); clear $(Lean.mkIdent `hA):ident; intro $(Lean.mkIdent `x9):ident $(Lean.mkIdent `s9):ident $(Lean.mkIdent `hA):ident))
section
variable {prog : Program} {w : World} {A : Around} {E : Value → Shared → Prop} {D : Dat} {Fs : List Fact} {R : List Res} {s : Shared} {Q : Value → Shared → Prop}
theorem zip_eq (f : Int → Int → Int) (p : Int) (xs ys : List Int) : (List.zipWith (fun a b => (f a b).fmod p) xs ys).map (fun k => k.fmod p) = plnZip f p xs ys := by
  unfold plnZip; rw [List.map_zipWith]

/-- what the methods of the optimized form ask of a class of it -/
structure OC (P : Params) (C mk : Addr) : Prop where
  g1 : plainGet (hd.heap_39 P) C "field_modulus" = true
  g2 : plainGet (hd.heap_39 P) C "coeffs" = true
  g3 : plainGet (hd.heap_39 P) C "modulus_coeffs" = true
  g4 : plainGet (hd.heap_39 P) C "degree" = true
  g5 : plainGet (hd.heap_39 P) C "mc_tuples" = true
  f1 : findIn (hd.heap_39 P) (.ref C) "field_modulus" = some none
  f2 : findIn (hd.heap_39 P) (.ref C) "coeffs" = some none
  f3 : findIn (hd.heap_39 P) (.ref C) "modulus_coeffs" = some none
  f4 : findIn (hd.heap_39 P) (.ref C) "degree" = some none
  f5 : findIn (hd.heap_39 P) (.ref C) "mc_tuples" = some none
  dct : hasDictIn (hd.heap_39 P) C = true
  m1 : plainGet (hd.heap_39 P) C "made" = true
  m2 : findIn (hd.heap_39 P) (.ref C) "made" = some (some (.ref mk))
  m3 : isFn (hd.heap_39 P) (.ref mk) = true
  m4 : keepIn (hd.heap_39 P) (.ref mk) = true
  k1 : plainGet (hd.heap_39 P) C "__class__" = true
  k2 : findIn (hd.heap_39 P) (.ref C) "__class__" = some (some (.builtin "object.__class__"))
  k3 : mroIn (hd.heap_39 P) C (.type "object") = some true
  i1 : kitOne (hd.heap_39 P) (.ref C) (.type "int") = some false
  i2 : kitOne (hd.heap_39 P) (.ref C) (.ref 422) = some true
def MadeOk (C mk : Addr) : Prop := ∀ {prog : Program} {w : World} {A : Around} {D : Dat} {Fs : List Fact} {R : List Res} {s : Shared} {Q : Value → Shared → Prop} {x lc : Addr} {vs : List Value} {ns ns0 ms : List Int} {p : Int} (_ : Wd (hd.heap_39 w.params) D) (_ : ∀ t ∈ WT, t ∈ D.tabs) (_ : Ok A 22) (_ : At D Fs R s) (_ : p ≠ 0) (_ : OptF C x p ns0 ms ∈ Fs) (_ : ListF lc vs ∈ Fs) (_ : IntsAre vs ns) (_ : vs.length = ms.length) (_ : ms.length < 1000) (_ : 0 < ms.length)
    (_ : ∀ x s', At D (OptF C x p (ns.map fun k => k.fmod p) ms :: Fs) R s' → Q (.ref x) s'), codeAny (model prog w) A (.call (.ref mk) ⟨[.ref x, .ref lc], []⟩) (Ret Q) s
theorem madeO : MadeOk 422 320 := s_O_made
theorem madeF : MadeOk 451 440 := s_F_made
theorem ocO (P : Params) : OC P 422 320 := by
  constructor
  all_goals (first | k_is | kit_is)
theorem ocF (P : Params) : OC P 451 440 := by
  constructor
  all_goals (first | k_is | kit_is)
local macro_rules | `(tactic| walk_at "call builtin:isinstance") => `(tactic| ((with_reducible rename At _ _ _ _ => $(Lean.mkIdent `hA):ident); refine' o_isi (K := ?K) (F := OptF _ _ _ _ _) ?W $(Lean.mkIdent `hA):ident ?hm ?ho ?e ?h1 ?h2 ?h3 ?h4 ?h5 ?h6 ?_; (case W => assumption); (case ho => k_extra "m obj"); (case hm => k_extra "m mem"); (case e => assumption); (case h1 => first | assumption | k_is); (case h2 => first | assumption | k_is); (case h3 => first | assumption | k_is); (case h4 => first | assumption | k_is); (case h5 => first | assumption | k_is); (case h6 => first | assumption | k_is); clear $(Lean.mkIdent `hA):ident; intro $(Lean.mkIdent `s9):ident $(Lean.mkIdent `hA):ident))
local macro_rules | `(tactic| walk_at "call builtin:isinstance") => `(tactic| ((with_reducible rename At _ _ _ _ => $(Lean.mkIdent `hA):ident); refine' o_isiT (K := ?K) (F := OptF _ _ _ _ _) ?W $(Lean.mkIdent `hA):ident ?hm ?ho ?hc ?e ?h1 ?h2 ?h3 ?h4 ?h5 ?h6 ?_; (case W => assumption); (case ho => k_extra "m obj"); (case hm => k_extra "m mem"); (case hc => k_extra "m mem"); (case e => assumption); (case h1 => first | assumption | k_is); (case h2 => first | assumption | k_is); (case h3 => first | assumption | k_is); (case h4 => first | assumption | k_is); (case h5 => first | assumption | k_is); (case h6 => first | assumption | k_is); clear $(Lean.mkIdent `hA):ident; intro $(Lean.mkIdent `s9):ident $(Lean.mkIdent `hA):ident))
local macro_rules | `(tactic| walk_at "getMethod ref") => `(tactic| ((with_reducible rename At _ _ _ _ => $(Lean.mkIdent `hA):ident); refine' o_meth (K := ?K) (F := OptF _ _ _ _ _) ?W $(Lean.mkIdent `hA):ident ?hm ?ho ?h1 ?h2 ?h3 ?h4 ?_; (case W => assumption); (case ho => k_extra "m obj"); (case hm => k_extra "m mem"); (case h1 => first | assumption | k_is); (case h2 => first | assumption | k_is); (case h3 => first | assumption | k_is); (case h4 => decide)))
local macro_rules | `(tactic| walk_at "getAttr ref") => `(tactic| ((with_reducible rename At _ _ _ _ => $(Lean.mkIdent `hA):ident); refine' r_op (K := ?K) ?W $(Lean.mkIdent `hA):ident ?h1 ?h2 ?h3 ?h4 ?hm ?he ?_; (case W => assumption); (case he => exact rfl); (case hm => k_extra "m mem"); (case h1 => first | assumption | k_is); (case h2 => first | assumption | k_is); (case h3 => first | assumption | k_is); (case h4 => first | assumption | k_is); clear $(Lean.mkIdent `hA):ident; intro $(Lean.mkIdent `t9):ident $(Lean.mkIdent `s9):ident $(Lean.mkIdent `hA):ident))
local macro_rules | `(tactic| walk_at "getAttr ref") => `(tactic| ((with_reducible rename At _ _ _ _ => $(Lean.mkIdent `hA):ident); refine' r_od (K := ?K) ?W $(Lean.mkIdent `hA):ident ?h1 ?h2 ?h3 ?h4 ?hm ?he ?_; (case W => assumption); (case he => exact rfl); (case hm => k_extra "m mem"); (case h1 => first | assumption | k_is); (case h2 => first | assumption | k_is); (case h3 => first | assumption | k_is); (case h4 => first | assumption | k_is); clear $(Lean.mkIdent `hA):ident; intro $(Lean.mkIdent `t9):ident $(Lean.mkIdent `s9):ident $(Lean.mkIdent `hA):ident))
local macro_rules | `(tactic| walk_at "getAttr ref") => `(tactic| ((with_reducible rename At _ _ _ _ => $(Lean.mkIdent `hA):ident); refine' r_oc (K := ?K) ?W $(Lean.mkIdent `hA):ident ?h1 ?h2 ?h3 ?h4 ?hm ?he ?_; (case W => assumption); (case he => exact rfl); (case hm => k_extra "m mem"); (case h1 => first | assumption | k_is); (case h2 => first | assumption | k_is); (case h3 => first | assumption | k_is); (case h4 => first | assumption | k_is); clear $(Lean.mkIdent `hA):ident; intro $(Lean.mkIdent `y9):ident $(Lean.mkIdent `v9):ident $(Lean.mkIdent `s9):ident $(Lean.mkIdent `hi9):ident $(Lean.mkIdent `hA):ident))
local macro_rules | `(tactic| walk_at "getAttr ref") => `(tactic| ((with_reducible rename At _ _ _ _ => $(Lean.mkIdent `hA):ident); refine' r_om (K := ?K) ?W $(Lean.mkIdent `hA):ident ?h1 ?h2 ?h3 ?h4 ?hm ?he ?_; (case W => assumption); (case he => exact rfl); (case hm => k_extra "m mem"); (case h1 => first | assumption | k_is); (case h2 => first | assumption | k_is); (case h3 => first | assumption | k_is); (case h4 => first | assumption | k_is); clear $(Lean.mkIdent `hA):ident; intro $(Lean.mkIdent `y9):ident $(Lean.mkIdent `v9):ident $(Lean.mkIdent `s9):ident $(Lean.mkIdent `hi9):ident $(Lean.mkIdent `hA):ident))
local macro_rules | `(tactic| walk_at "getAttr ref") => `(tactic| ((with_reducible rename At _ _ _ _ => $(Lean.mkIdent `hA):ident); refine' r_ot (K := ?K) ?W $(Lean.mkIdent `hA):ident ?h1 ?h2 ?h3 ?h4 ?hm ?he ?_; (case W => assumption); (case he => exact rfl); (case hm => k_extra "m mem"); (case h1 => first | assumption | k_is); (case h2 => first | assumption | k_is); (case h3 => first | assumption | k_is); (case h4 => first | assumption | k_is); clear $(Lean.mkIdent `hA):ident; intro $(Lean.mkIdent `y9):ident $(Lean.mkIdent `v9):ident $(Lean.mkIdent `s9):ident $(Lean.mkIdent `hA):ident))
local macro_rules | `(tactic| walk_at "callWith ref") => `(tactic| ((with_reducible rename At _ _ _ _ => $(Lean.mkIdent `hA):ident); (try dsimp only); (first | refine' callWith_K (K := ?K) ?k1 ?k2 ?_ | refine' callWith_K0 (K := ?K) ?k1 ?k2 ?_); (case k1 => exact At.kin (by assumption) $(Lean.mkIdent `hA):ident); (case k2 => first | assumption | k_is)))
local macro_rules | `(tactic| walk_at "callWith") => `(tactic| ((with_reducible rename At _ _ _ _ => $(Lean.mkIdent `hA):ident); (try dsimp only); (with_reducible show wpAny _ _ (callWith _ (Value.ref _) _ _ _) _ _ _); (first | refine' callWith_K (K := ?K) ?k1 ?k2 ?_ | refine' callWith_K0 (K := ?K) ?k1 ?k2 ?_); (case k1 => exact At.kin (by assumption) $(Lean.mkIdent `hA):ident); (case k2 => first | assumption | k_is)))
local macro_rules | `(tactic| walk_at "call ref") => `(tactic| ((with_reducible rename At _ _ _ _ => $(Lean.mkIdent `hA):ident); refine r_use ?_; refine' (show MadeOk _ _ by assumption) ?W ?T ?hk $(Lean.mkIdent `hA):ident ?hp ?hm ?h1 ?h2 ?h5 ?h6 ?h8 ?_; (case W => assumption); (case T => assumption); (case hk => k_extra "m ok"); (case hp => assumption); (case hm => k_extra "m mem"); (case h1 => k_extra "m mem"); (case h2 => k_extra "m ints"); (case h5 => k_extra "m lens"); (case h6 => k_extra "m lens"); (case h8 => k_extra "m lens"); clear $(Lean.mkIdent `hA):ident; intro $(Lean.mkIdent `x9):ident $(Lean.mkIdent `s9):ident $(Lean.mkIdent `hA):ident))
set_option maxHeartbeats 4000000 in
set_option maxRecDepth 100000 in
theorem s_G_add {C mk : Addr} (hC : OC w.params C mk) (hMk : MadeOk C mk) {x y : Addr} {ns ks ms : List Int} {p : Int} (W : Wd (hd.heap_39 w.params) D) (T : ∀ t ∈ WT, t ∈ D.tabs) (hk : Ok A 24) (H : At D Fs R s) (hp : p ≠ 0) (hm : OptF C x p ns ms ∈ Fs) (hm2 : OptF C y p ks ms ∈ Fs) (h5 : ns.length = ms.length) (h7 : ks.length = ms.length) (h6 : ms.length < 1000) (h8 : 0 < ms.length)
    (h : ∀ x s', At D (OptF C x p (plnZip (· + ·) p ns ks) ms :: Fs) R s' → Q (.ref x) s') : codeAny (model prog w) A (.call (.ref 325) ⟨[.ref x, .ref y], []⟩) (Ret Q) s := by
  obtain ⟨g1, g2, g3, g4, g5, f1, f2, f3, f4, f5, dct, m1, m2, m3, m4, k1, k2, k3, i1, i2⟩ := hC
  refine' v_callc [("other", .ref y)] (fun L => [(L + 1, .ref x)]) (fun L => []) ?W H hk ?ho ?hcd ?hb ?hl ?hm ?hcm ?hum ?hnd ?hud ?_ ?c2 ?c3 ?c4
  k_extra "m enterc"
  clear H
  k_extra "wk"
  rename_i y1 v1 s1 e1
  have l1 := e1.length
  have l2 := hi9.length
  k_extra "wk"
  have hlen : (List.zipWith (fun a b : Int => (a + b).fmod p) ns ks).length = v1.length := by simp; omega
  refine' r_mapK (inG (List.zipWith (fun a b : Int => (a + b).fmod p) ns ks)) (hN9 _) ⟨_, _, _, rfl⟩ hK9.handled hA ?g1 (by decide) rfl inG.zero (fun _ _ _ q => q.len (by omega)) ?step ?done
  case g1 => k_extra "m mem"
  case step =>
    clear hA
    intro C acc i ys Gs v F s hi hG hV H
    obtain ⟨T, a, b, rfl, ha, hb, rfl⟩ := hV
    obtain ⟨na, ta, rfl, hna⟩ := e1.at i a ha
    obtain ⟨nb, tb, rfl, hnb⟩ := hi9.at i b hb
    have hA := H.nil1 hG.2.2
    clear H
    k_extra "wk"
    exact hG.hold (zipWith_get hna hnb) hA (by k_extra "m facts")
  case done =>
    clear hA
    intro C acc ys Gs s hG _ s H
    have hI := hG.done hlen
    have H1 := H.nil0 hG.2.2
    have hA := At.fzL H1 .head
    have hle := hI.length
    clear H H1
    k_extra "wk"
    refine h _ _ ?_
    rw [← zip_eq]
    exact At.to' hA (by k_extra "m sub") (by k_extra "m facts")
set_option maxHeartbeats 4000000 in
set_option maxRecDepth 100000 in
theorem s_G_sub {C mk : Addr} (hC : OC w.params C mk) (hMk : MadeOk C mk) {x y : Addr} {ns ks ms : List Int} {p : Int} (W : Wd (hd.heap_39 w.params) D) (T : ∀ t ∈ WT, t ∈ D.tabs) (hk : Ok A 24) (H : At D Fs R s) (hp : p ≠ 0) (hm : OptF C x p ns ms ∈ Fs) (hm2 : OptF C y p ks ms ∈ Fs) (h5 : ns.length = ms.length) (h7 : ks.length = ms.length) (h6 : ms.length < 1000) (h8 : 0 < ms.length)
    (h : ∀ x s', At D (OptF C x p (plnZip (· - ·) p ns ks) ms :: Fs) R s' → Q (.ref x) s') : codeAny (model prog w) A (.call (.ref 330) ⟨[.ref x, .ref y], []⟩) (Ret Q) s := by
  obtain ⟨g1, g2, g3, g4, g5, f1, f2, f3, f4, f5, dct, m1, m2, m3, m4, k1, k2, k3, i1, i2⟩ := hC
  refine' v_callc [("other", .ref y)] (fun L => [(L + 1, .ref x)]) (fun L => []) ?W H hk ?ho ?hcd ?hb ?hl ?hm ?hcm ?hum ?hnd ?hud ?_ ?c2 ?c3 ?c4
  k_extra "m enterc"
  clear H
  k_extra "wk"
  rename_i y1 v1 s1 e1
  have l1 := e1.length
  have l2 := hi9.length
  k_extra "wk"
  have hlen : (List.zipWith (fun a b : Int => (a - b).fmod p) ns ks).length = v1.length := by simp; omega
  refine' r_mapK (inG (List.zipWith (fun a b : Int => (a - b).fmod p) ns ks)) (hN9 _) ⟨_, _, _, rfl⟩ hK9.handled hA ?g1 (by decide) rfl inG.zero (fun _ _ _ q => q.len (by omega)) ?step ?done
  case g1 => k_extra "m mem"
  case step =>
    clear hA
    intro C acc i ys Gs v F s hi hG hV H
    obtain ⟨T, a, b, rfl, ha, hb, rfl⟩ := hV
    obtain ⟨na, ta, rfl, hna⟩ := e1.at i a ha
    obtain ⟨nb, tb, rfl, hnb⟩ := hi9.at i b hb
    have hA := H.nil1 hG.2.2
    clear H
    k_extra "wk"
    exact hG.hold (zipWith_get hna hnb) hA (by k_extra "m facts")
  case done =>
    clear hA
    intro C acc ys Gs s hG _ s H
    have hI := hG.done hlen
    have H1 := H.nil0 hG.2.2
    have hA := At.fzL H1 .head
    have hle := hI.length
    clear H H1
    k_extra "wk"
    refine h _ _ ?_
    rw [← zip_eq]
    exact At.to' hA (by k_extra "m sub") (by k_extra "m facts")

set_option maxHeartbeats 4000000 in
set_option maxRecDepth 100000 in
theorem s_G_neg {C mk : Addr} (hC : OC w.params C mk) (hMk : MadeOk C mk) {x : Addr} {ns ms : List Int} {p : Int} (W : Wd (hd.heap_39 w.params) D) (T : ∀ t ∈ WT, t ∈ D.tabs) (hk : Ok A 24) (H : At D Fs R s) (hp : p ≠ 0) (hm : OptF C x p ns ms ∈ Fs) (h5 : ns.length = ms.length) (h6 : ms.length < 1000) (h8 : 0 < ms.length)
    (h : ∀ x s', At D (OptF C x p (plnNeg p ns) ms :: Fs) R s' → Q (.ref x) s') : codeAny (model prog w) A (.call (.ref 397) ⟨[.ref x], []⟩) (Ret Q) s := by
  obtain ⟨g1, g2, g3, g4, g5, f1, f2, f3, f4, f5, dct, m1, m2, m3, m4, k1, k2, k3, i1, i2⟩ := hC
  refine' v_call [("self", .ref x)] ?W H hk ?ho ?hcd ?hb ?hl ?hm ?_ ?c1 ?c2 ?c3 ?c4
  k_extra "m enter"
  clear H
  k_extra "wk"
  have l2 := hi9.length
  have hlen : (ns.map fun a => -a).length = v9.length := by simp; omega
  refine' r_mapK (inG (ns.map fun a => -a)) (hN9 false _) ⟨_, _, rfl⟩ hK9.handled hA ?g1 ?g0 ?g2 inG.zero (fun _ _ _ q => q.len (by omega)) ?step ?done
  case g0 => decide
  case g2 => rfl
  case g1 => k_extra "m mem"
  case step =>
    clear hA
    intro C acc i ys Gs v F s hi hG hV H
    obtain ⟨hv, rfl⟩ := hV
    obtain ⟨na, ta, rfl, hna⟩ := hi9.at i v hv
    have hA := H.nil1 hG.2.2
    clear H
    k_extra "wk"
    exact hG.hold (by rw [List.getElem?_map, hna]; rfl) hA (by k_extra "m facts")
  case done =>
    clear hA
    intro C acc ys Gs s hG _ s H
    have hI := hG.done hlen
    have H1 := H.nil0 hG.2.2
    have hA := At.fzL H1 .head
    have hle := hI.length
    clear H H1
    k_extra "wk"
    refine h _ _ ?_
    have e : plnNeg p ns = (ns.map fun a => -a).map (fun k => k.fmod p) := by simp [plnNeg]
    rw [e]
    exact At.to' hA (by k_extra "m sub") (by k_extra "m facts")
set_option maxHeartbeats 4000000 in
set_option maxRecDepth 100000 in
theorem s_G_one {C mk : Addr} (hC : OC w.params C mk) (hMk : MadeOk C mk) {x : Addr} {ns ms : List Int} {p : Int} (W : Wd (hd.heap_39 w.params) D) (T : ∀ t ∈ WT, t ∈ D.tabs) (hk : Ok A 24) (H : At D Fs R s) (hp : p ≠ 0) (hm : OptF C x p ns ms ∈ Fs) (h8 : 0 < ms.length) (h6 : ms.length < 1000)
    (h : ∀ x s', At D (OptF C x p (plnOne p ms.length) ms :: Fs) R s' → Q (.ref x) s') : codeAny (model prog w) A (.call (.ref 412) ⟨[.ref x], []⟩) (Ret Q) s := by
  obtain ⟨g1, g2, g3, g4, g5, f1, f2, f3, f4, f5, dct, m1, m2, m3, m4, k1, k2, k3, i1, i2⟩ := hC
  refine' v_call [("self", .ref x)] ?W H hk ?ho ?hcd ?hb ?hl ?hm ?_ ?c1 ?c2 ?c3 ?c4
  k_extra "m enter"
  clear H
  k_extra "wk"
  have eN : ((ms.length : Int) - 1).toNat = ms.length - 1 := by omega
  rw [eN] at hA
  have H1 := At.fzL hA .head
  clear hA
  have hA := H1
  clear H1
  k_extra "wk"
  exact h _ _ (At.to' hA (by k_extra "m sub") (by k_extra "m facts"))
set_option maxHeartbeats 4000000 in
set_option maxRecDepth 100000 in
theorem s_G_zero {C mk : Addr} (hC : OC w.params C mk) (hMk : MadeOk C mk) {x : Addr} {ns ms : List Int} {p : Int} (W : Wd (hd.heap_39 w.params) D) (T : ∀ t ∈ WT, t ∈ D.tabs) (hk : Ok A 24) (H : At D Fs R s) (hp : p ≠ 0) (hm : OptF C x p ns ms ∈ Fs) (h8 : 0 < ms.length) (h6 : ms.length < 1000)
    (h : ∀ x s', At D (OptF C x p (plnZero p ms.length) ms :: Fs) R s' → Q (.ref x) s') : codeAny (model prog w) A (.call (.ref 419) ⟨[.ref x], []⟩) (Ret Q) s := by
  obtain ⟨g1, g2, g3, g4, g5, f1, f2, f3, f4, f5, dct, m1, m2, m3, m4, k1, k2, k3, i1, i2⟩ := hC
  refine' v_call [("self", .ref x)] ?W H hk ?ho ?hcd ?hb ?hl ?hm ?_ ?c1 ?c2 ?c3 ?c4
  k_extra "m enter"
  clear H
  k_extra "wk"
  have eN : ((ms.length : Int)).toNat = ms.length := by omega
  rw [eN] at hA
  have H1 := At.fzL hA .head
  clear hA
  have hA := H1
  clear H1
  k_extra "wk"
  exact h _ _ (At.to' hA (by k_extra "m sub") (by k_extra "m facts"))

theorem ints_snoc_inv {vs : List Value} {b : List Int} {n : Int} (h : IntsAre vs (b ++ [n])) : ∃ vs' t, vs = vs' ++ [.int n t] ∧ IntsAre vs' b := by
  have hl := h.length
  rcases List.eq_nil_or_concat vs with rfl | ⟨a, v, e⟩
  · simp at hl
  · rw [List.concat_eq_append] at e
    subst e
    simp at hl
    obtain ⟨c, t, e1, e2⟩ := h.at a.length v (by simp)
    have : c = n := by rw [hl] at e2; simpa using e2.symm
    subst this
    refine ⟨a, t, by rw [e1], ?_⟩
    have q := h.take a.length
    rw [List.take_left] at q
    rw [hl, List.take_left] at q
    exact q
/-- one step of the product, no reduction -/
def cvJ (xs ys : List Int) (i : Nat) (b : List Int) (j : Nat) : List Int := b.set (i + j) (b.getD (i + j) 0 + xs.getD i 0 * ys.getD j 0)
def cvI (xs ys : List Int) (d : Nat) (b : List Int) (i : Nat) : List Int := (List.range d).foldl (cvJ xs ys i) b
def cv (xs ys : List Int) (d i : Nat) : List Int := (List.range i).foldl (cvI xs ys d) (List.replicate (2 * d - 1) 0)
theorem cvI_length (xs ys : List Int) (d : Nat) (b : List Int) (i : Nat) : (cvI xs ys d b i).length = b.length := foldl_len _ (fun b k => by simp [cvJ]) _ _
theorem cv_length (xs ys : List Int) (d i : Nat) : (cv xs ys d i).length = 2 * d - 1 := by unfold cv; rw [foldl_len _ (fun b k => cvI_length ..)]; simp
def rdP (e : Nat) (top : Int) (b : List Int) (q : Int × Int) : List Int := b.set (e + q.1.toNat) (b.getD (e + q.1.toNat) 0 - top * q.2)
def rdTop (ms : List Int) (b : List Int) : List Int := (mcFrom 0 ms).foldl (rdP (b.length - 1 - ms.length) (b.getD (b.length - 1) 0)) b.dropLast
def rdN (ms : List Int) : Nat → List Int → List Int
  | 0, b => b
  | n + 1, b => rdN ms n (rdTop ms b)
theorem foldl_lenG {α : Type} (f : List Int → α → List Int) (hf : ∀ b k, (f b k).length = b.length) (l : List α) (b : List Int) : (l.foldl f b).length = b.length := by
  induction l generalizing b with
  | nil => rfl
  | cons a l ih => rw [List.foldl_cons, ih, hf]
theorem rdTop_length (ms b : List Int) : (rdTop ms b).length = b.length - 1 := by unfold rdTop; rw [foldl_lenG _ (fun b k => by simp [rdP])]; simp
theorem rdN_length (ms : List Int) (n : Nat) (b : List Int) : (rdN ms n b).length = b.length - n := by
  induction n generalizing b with
  | zero => rfl
  | succ n ih => show (rdN ms n (rdTop ms b)).length = _; rw [ih, rdTop_length]; omega
def optMul (p : Int) (xs ys ms : List Int) : List Int := (rdN ms (ms.length - 1) (cv xs ys ms.length ms.length)).map fun k => (k.fmod p).fmod p
theorem optMul_length (p : Int) (xs ys ms : List Int) (h : 0 < ms.length) : (optMul p xs ys ms).length = ms.length := by unfold optMul; rw [List.length_map, rdN_length, cv_length]; omega
theorem foldl_take1 {α β : Type} (f : β → α → β) (b : β) (l : List α) (i : Nat) (x : α) (h : l[i]? = some x) : (l.take (i + 1)).foldl f b = f ((l.take i).foldl f b) x := by
  rw [List.take_add_one, h]; simp
theorem mcFrom_mem {k : Int} {ms : List Int} {q : Int × Int} (h : q ∈ mcFrom k ms) : k ≤ q.1 ∧ q.1 < k + ms.length ∧ q.2 ∈ ms := by
  induction ms generalizing k with
  | nil => simp [mcFrom] at h
  | cons a l ih =>
    simp only [mcFrom] at h
    split at h
    · rcases List.mem_cons.mp h with rfl | h
      · simp; omega
      · have := ih h; simp; refine ⟨by omega, by omega, .inr this.2.2⟩
    · have := ih h; simp; refine ⟨by omega, by omega, .inr this.2.2⟩
local macro_rules | `(tactic| walk_at "call type:range") => `(tactic| ((with_reducible rename At _ _ _ _ => $(Lean.mkIdent `hA):ident); refine' r_range3 ?W $(Lean.mkIdent `hA):ident (by decide) ?n ?_; (case W => assumption); (case n => exact PyProof.noPylong_small (by decide)); clear $(Lean.mkIdent `hA):ident; intro $(Lean.mkIdent `r9):ident $(Lean.mkIdent `s9):ident $(Lean.mkIdent `hA):ident))
local macro_rules | `(tactic| walk_at "call type:enumerate") => `(tactic| ((with_reducible rename At _ _ _ _ => $(Lean.mkIdent `hA):ident); refine' r_enumT $(Lean.mkIdent `hA):ident ?h1 ?_; (case h1 => k_extra "m mem"); clear $(Lean.mkIdent `hA):ident; intro $(Lean.mkIdent `I9):ident $(Lean.mkIdent `t9):ident $(Lean.mkIdent `s9):ident $(Lean.mkIdent `hN9):ident $(Lean.mkIdent `hA):ident))
local macro_rules | `(tactic| walk_at "call type:list") => `(tactic| ((with_reducible rename At _ _ _ _ => $(Lean.mkIdent `hA):ident); refine' r_listEnum ?hh $(Lean.mkIdent `hA):ident ?hm ?hi ?h0 ?hz ?_; (case hh => k_extra "m hh"); (case hm => k_extra "m mem"); (case hi => assumption); (case h0 => k_extra "m lens"); (case hz => k_extra "m lens"); clear $(Lean.mkIdent `hA):ident; intro $(Lean.mkIdent `l9):ident $(Lean.mkIdent `v9):ident $(Lean.mkIdent `s9):ident $(Lean.mkIdent `hi9):ident $(Lean.mkIdent `hA):ident))
set_option maxHeartbeats 4000000 in
set_option maxRecDepth 100000 in
theorem s_G_mul {C mk : Addr} (hC : OC w.params C mk) (hMk : MadeOk C mk) {x y : Addr} {ns ks ms : List Int} {p : Int} (W : Wd (hd.heap_39 w.params) D) (T : ∀ t ∈ WT, t ∈ D.tabs) (hk : Ok A 24) (H : At D Fs R s) (hp0 : 0 < p) (hp1 : p < 2 ^ 60) (hm : OptF C x p ns ms ∈ Fs) (hm2 : OptF C y p ks ms ∈ Fs) (h5 : ns.length = ms.length) (h7 : ks.length = ms.length) (h6 : ms.length < 1000) (h8 : 0 < ms.length) (hb : Bd ks) (hbm : Bd ms)
    (h : ∀ x s', At D (OptF C x p (optMul p ns ks ms) ms :: Fs) R s' → Q (.ref x) s') : codeAny (model prog w) A (.call (.ref 342) ⟨[.ref x, .ref y], []⟩) (Ret Q) s := by
  obtain ⟨g1, g2, g3, g4, g5, f1, f2, f3, f4, f5, dct, m1, m2, m3, m4, k1, k2, k3, i1, i2⟩ := hC
  have hp : p ≠ 0 := by omega
  refine' v_callc [] (fun L => [(L + 2, .ref y), (L + 1, .ref x)]) (fun L => []) ?W H hk ?ho ?hcd ?hb ?hl ?hm ?hcm ?hum ?hnd ?hud ?_ ?c2 ?c3 ?c4
  k_extra "m enterc"
  clear H
  k_extra "wk"
  rename_i lb s_a s_b yk vk s_c ek I_k t_k s_d hNk vin s_e ein s_f s_g
  have l1 := ek.length
  have l2 := hi9.length
  have H1 := At.fzL hA (l := l9) (by k_extra "m rm")
  clear hA
  have hA := H1
  clear H1
  have ev : v9.length = ms.length := by omega
  rw [ev] at hN9
  have hn : ((ms.length : Int) * 2 - 1).toNat = 2 * ms.length - 1 := by omega
  rw [hn] at hA
  refine r_for (fun i s => ∃ vs, IntsAre vs (cv ns ks ms.length i) ∧ At D (ListF l9 vin :: TupF y9 v9 :: PrsF vin (enF 0 ks) :: CellF (L9 + 2) (Value.ref y) :: CellF (L9 + 1) (Value.ref x) :: Fs) (EnumR I9 t9 y9 true i :: Lst lb vs :: Vars L9 [("b", .ref lb), ("inner_enumerate", .ref l9)] :: R) s)
      (hN9 D.ng) ⟨_, _, _, rfl⟩ hK9.handled ⟨_, ints_rep _ _ _, hA.to' (by k_extra "m sub") (by k_extra "m facts")⟩ ?_ ?_
  · clear hA
    obtain ⟨I1, rfl⟩ : ∃ I1, I1 = I9 := ⟨_, rfl⟩
    rintro i s hi ⟨vs, hvs, H⟩
    refine ⟨_, _, _, H, .tail _ (.head _), .head, ?_⟩
    rintro v F s ⟨T1, vals, rfl, ⟨ti, c', hx, rfl⟩, rfl⟩ H0
    clear H
    obtain ⟨c, tc, rfl, hc⟩ := hi9.at i c' (by simpa using hx)
    have hA : At D (TupF T1 [.int i ti, .int c tc] :: _) _ s := H0
    clear H0
    k_extra "wk"
    have hcl := cv_length ns ks ms.length i
    have l3 : vin.length = ms.length := by omega
    rw [l3] at hN9
    refine r_for (fun j s => ∃ vs, IntsAre vs ((List.range j).foldl (cvJ ns ks i) (cv ns ks ms.length i)) ∧ At D (ListF l9 vin :: TupF y9 v9 :: PrsF vin (enF 0 ks) :: CellF (L9 + 2) (Value.ref y) :: CellF (L9 + 1) (Value.ref x) :: Fs) (LItR I9 l9 j :: EnumR I1 t9 y9 true (i + 1) :: Lst lb vs :: Vars L9 [("b", .ref lb), ("inner_enumerate", .ref l9), ("i", .int i ti), ("eli", .int c tc)] :: R) s)
        (hN9 true D.ng) ⟨_, _, _, rfl⟩ hK9.handled ⟨vs, hvs, hA.to' (by k_extra "m sub") (by k_extra "m facts")⟩ ?_ ?_
    · clear hA
      rintro j s hj ⟨vs2, hvs2, H⟩
      refine ⟨_, _, _, H, .head _, .head, ?_⟩
      rintro v F s ⟨hv, rfl⟩ H0
      clear H
      obtain ⟨T2, a, b, tb1, tb2, rfl, e2, H1⟩ := H0.prAt (vs := vin) (ps := enF 0 ks) (by k_extra "m mem") hv
      clear H0
      have hkj : ks[j]? = some ks[j] := by simp
      rw [enF_get ks 0 j _ hkj] at e2
      obtain ⟨rfl, rfl⟩ : 0 + (j : Int) = a ∧ ks[j] = b := by simpa using e2
      have hA : At D (TupF T2 [.int (0 + (j : Int)) tb1, .int ks[j] tb2] :: _) _ s := H1
      clear H1
      have hl : ((List.range j).foldl (cvJ ns ks i) (cv ns ks ms.length i)).length = 2 * ms.length - 1 := by rw [foldl_len _ (fun b k => by simp [cvJ])]; exact hcl
      have hvl := hvs2.length
      have hmj := mulOk_right (a := c) (hb _ (List.getElem_mem (l := ks) (by omega : j < ks.length)))
      k_extra "wk"
      have e1 : ((i : Int) + (0 + (j : Int))).toNat = i + j := by omega
      rw [e1] at hA
      have ec : ns.getD i 0 = c := by simp [List.getD, hc]
      have ek2 : ks.getD j 0 = ks[j] := by rw [List.getD_eq_getElem?_getD, hkj]; rfl
      rw [foldl_range_succ]
      refine ⟨_, ?_, hA.to' (by k_extra "m sub") (by k_extra "m facts")⟩
      show IntsAre _ (List.set _ (i + j) (List.getD _ (i + j) 0 + ns.getD i 0 * ks.getD j 0))
      rw [ec, ek2]
      exact ints_set hvs2 _ _ _
    · clear hA
      rintro s ⟨vs, hvs, H⟩
      refine ⟨_, _, _, H, .head _, .head, fun s hA => ?_⟩
      clear H
      show wpAny _ _ _ _ _ _
      k_extra "wk"
      have e4 : cv ns ks ms.length (i + 1) = (List.range ms.length).foldl (cvJ ns ks i) (cv ns ks ms.length i) := by unfold cv; rw [foldl_range_succ]; rfl
      rw [e4]
      exact ⟨_, hvs, hA.to' (by k_extra "m sub") (by k_extra "m facts")⟩
  · clear hA
    rintro s ⟨vs, hvs, H⟩
    refine ⟨_, _, _, H, .tail _ (.head _), .head, fun s hA => ?_⟩
    clear H
    show wpAny _ _ _ _ _ _
    k_extra "wk"
    have hd : ((ms.length : Int) - 2 - -1).toNat = ms.length - 1 := by omega
    rw [hd] at hA hN9
    refine r_for (fun k s => ∃ vs b, IntsAre vs b ∧ b.length = 2 * ms.length - 1 - k ∧ rdN ms (ms.length - 1 - k) b = rdN ms (ms.length - 1) (cv ns ks ms.length ms.length) ∧ At D (Tru :: CellF (L9 + 2) (Value.ref y) :: CellF (L9 + 1) (Value.ref x) :: Fs) (RItR I9 ((ms.length : Int) - 2) (-1) (ms.length - 1) k :: Lst lb vs :: Vars L9 [("b", .ref lb)] :: R) s)
      (hN9 false D.ng) ⟨_, _, rfl⟩ hK9.handled ⟨vs, _, hvs, by rw [cv_length]; rfl, rfl, hA.to' (by k_extra "m sub") (by k_extra "m facts")⟩ ?_ ?_
    · clear hA
      obtain ⟨I1, rfl⟩ : ∃ I1, I1 = I9 := ⟨_, rfl⟩
      rintro k s hkn ⟨vs, b, hvs, hbl, hbe, H⟩
      refine ⟨_, _, _, H, .head _, .head, ?_⟩
      rintro v F s ⟨⟨t2, rfl⟩, rfl⟩ hA
      clear H
      have hexp : (ms.length : Int) - 2 + (k : Int) * -1 = ((ms.length - 2 - k : Nat) : Int) := by omega
      rw [hexp]
      obtain ⟨b', n, rfl⟩ : ∃ b' n, b = b' ++ [n] := by
        rcases List.eq_nil_or_concat b with rfl | ⟨a, b, e⟩
        · simp at hbl; omega
        · exact ⟨a, b, by simpa using e⟩
      obtain ⟨vs', tn, rfl, hvs'⟩ := ints_snoc_inv hvs
      have hl' := hvs'.length
      have hbl' : b'.length = 2 * ms.length - 2 - k := by simp at hbl; omega
      k_extra "wk"
      have hps := hA.prLen (vs := v9) (ps := mcFrom 0 ms) (by k_extra "m mem")
      rw [hps] at hN9
      refine r_for (fun j s => ∃ vs2, IntsAre vs2 (((mcFrom 0 ms).take j).foldl (rdP (ms.length - 2 - k) n) b') ∧ At D (ListF y9 v9 :: PrsF v9 (mcFrom 0 ms) :: Tru :: CellF (L9 + 2) (Value.ref y) :: CellF (L9 + 1) (Value.ref x) :: Fs) (LItR I9 y9 j :: RItR I1 ((ms.length : Int) - 2) (-1) (ms.length - 1) (k + 1) :: Lst lb vs2 :: Vars L9 [("b", .ref lb), ("exp", .int ((ms.length - 2 - k : Nat) : Int) t2), ("top", .int n tn)] :: R) s)
        (hN9 true D.ng) ⟨_, _, _, rfl⟩ hK9.handled ⟨vs', hvs', hA.to' (by k_extra "m sub") (by k_extra "m facts")⟩ ?_ ?_
      · clear hA
        rintro j s hj ⟨vs2, hvs2, H⟩
        refine ⟨_, _, _, H, .head _, .head, ?_⟩
        rintro v F s ⟨hv, rfl⟩ H0
        clear H
        obtain ⟨T2, a, c, tb1, tb2, rfl, e2, H1⟩ := H0.prAt (vs := v9) (ps := mcFrom 0 ms) (by k_extra "m mem") hv
        clear H0
        have hA : At D (TupF T2 [.int a tb1, .int c tb2] :: _) _ s := H1
        clear H1
        have hmm := mcFrom_mem (List.mem_of_getElem? e2)
        have hl : (((mcFrom 0 ms).take j).foldl (rdP (ms.length - 2 - k) n) b').length = 2 * ms.length - 2 - k := by rw [foldl_lenG _ (fun b k => by simp [rdP])]; exact hbl'
        have hvl := hvs2.length
        have ha0 : 0 ≤ a := hmm.1
        have ha1 : a < ms.length := by have := hmm.2.1; omega
        have hmj := mulOk_right (a := n) (hbm _ hmm.2.2)
        k_extra "wk"
        have e1 : (((ms.length - 2 - k : Nat) : Int) + a).toNat = ms.length - 2 - k + a.toNat := by omega
        rw [e1] at hA
        rw [foldl_take1 _ _ _ _ _ e2]
        refine ⟨_, ?_, hA.to' (by k_extra "m sub") (by k_extra "m facts")⟩
        exact ints_set hvs2 _ _ _
      · clear hA
        rintro s ⟨vs2, hvs2, H⟩
        refine ⟨_, _, _, H, .head _, .head, fun s hA => ?_⟩
        clear H
        show wpAny _ _ _ _ _ _
        k_extra "wk"
        have eT : rdTop ms (b' ++ [n]) = ((mcFrom 0 ms).take (mcFrom 0 ms).length).foldl (rdP (ms.length - 2 - k) n) b' := by
          unfold rdTop
          have q1 : (b' ++ [n]).length - 1 - ms.length = ms.length - 2 - k := by simp; omega
          have q2 : (b' ++ [n]).getD ((b' ++ [n]).length - 1) 0 = n := by simp
          have q3 : (b' ++ [n]).dropLast = b' := by simp
          rw [q1, q2, q3, List.take_length]
        rw [← eT] at hvs2
        have q4 : ms.length - 1 - k = (ms.length - 1 - (k + 1)) + 1 := by omega
        rw [q4] at hbe
        exact ⟨_, _, hvs2, by rw [rdTop_length]; omega, hbe, hA.to' (by k_extra "m sub") (by k_extra "m facts")⟩
    · clear hA
      rintro s ⟨vs, b, hvs, hbl, hbe, H⟩
      refine ⟨_, _, _, H, .head _, .head, fun s hA => ?_⟩
      clear H
      have hb0 : b = rdN ms (ms.length - 1) (cv ns ks ms.length ms.length) := by rw [← hbe, Nat.sub_self]; rfl
      have hbl2 : b.length = ms.length := by omega
      have H1 := At.fzL hA .head
      clear hA
      have hA := H1
      clear H1
      show wpAny _ _ _ _ _ _
      have hvl := hvs.length
      k_extra "wk"
      have hlen : (b.map fun a => a.fmod p).length = vs.length := by simp; omega
      refine' r_mapK (inG (b.map fun a => a.fmod p)) (hN9 false _) ⟨_, _, rfl⟩ hK9.handled hA ?g1 ?g0 ?g2 inG.zero (fun _ _ _ q => q.len (by omega)) ?step ?done
      case g0 => decide
      case g2 => rfl
      case g1 => k_extra "m mem"
      case step =>
        clear hA
        intro C acc i ys Gs v F s hi hG hV H
        obtain ⟨hv, rfl⟩ := hV
        obtain ⟨na, ta, rfl, hna⟩ := hvs.at i v hv
        have hA := H.nil1 hG.2.2
        clear H
        k_extra "wk"
        exact hG.hold (by rw [List.getElem?_map, hna]; rfl) hA (by k_extra "m facts")
      case done =>
        clear hA
        intro C acc ys Gs s hG _ s H
        have hI := hG.done hlen
        have H1 := H.nil0 hG.2.2
        have hA := At.fzL H1 .head
        have hle := hI.length
        clear H H1
        k_extra "wk"
        refine h _ _ ?_
        have e : optMul p ns ks ms = (b.map fun a => a.fmod p).map (fun k => k.fmod p) := by unfold optMul; rw [hb0, List.map_map]; rfl
        rw [e]
        exact At.to' hA (by k_extra "m sub") (by k_extra "m facts")
end
section
local macro_rules | `(tactic| walk_at "call ref") => `(tactic| ((with_reducible rename At _ _ _ _ => $(Lean.mkIdent `hA):ident); refine r_use ?_; refine' s_O ?W ?T ?hk $(Lean.mkIdent `hA):ident ?hp ?h1 ?h2 ?h3 ?h4 ?h5 ?h6 ?h8 ?_; (case W => assumption); (case T => assumption); (case hk => k_extra "m ok"); (case hp => assumption); (case h1 => k_extra "m mem"); (case h2 => k_extra "m ints"); (case h4 => assumption); (case h3 => k_extra "m seq"); (case h5 => k_extra "m lens"); (case h6 => k_extra "m lens"); (case h8 => k_extra "m lens"); clear $(Lean.mkIdent `hA):ident; intro $(Lean.mkIdent `x9):ident $(Lean.mkIdent `s9):ident $(Lean.mkIdent `hA):ident))
local macro_rules | `(tactic| walk_at "call ref") => `(tactic| ((with_reducible rename At _ _ _ _ => $(Lean.mkIdent `hA):ident); refine r_use ?_; refine' s_O_made ?W ?T ?hk $(Lean.mkIdent `hA):ident ?hp ?hm ?h1 ?h2 ?h5 ?h6 ?h8 ?_; (case W => assumption); (case T => assumption); (case hk => k_extra "m ok"); (case hp => assumption); (case hm => k_extra "m mem"); (case h1 => k_extra "m mem"); (case h2 => k_extra "m ints"); (case h5 => k_extra "m lens"); (case h6 => k_extra "m lens"); (case h8 => k_extra "m lens"); clear $(Lean.mkIdent `hA):ident; intro $(Lean.mkIdent `x9):ident $(Lean.mkIdent `s9):ident $(Lean.mkIdent `hA):ident))
section
variable {prog : Program} {w : World} {A : Around} {E : Value → Shared → Prop} {D : Dat} {Fs : List Fact} {R : List Res} {s : Shared} {Q : Value → Shared → Prop}
theorem optMul_in {p : Int} (h0 : 0 < p) (xs ys ms : List Int) : InR p (optMul p xs ys ms) := fun x hx => by
  obtain ⟨a, _, rfl⟩ := List.mem_map.mp hx
  exact fmod_in h0
def powW (p : Int) (ms : List Int) : Nat → List Int → List Int → List Int
  | 0, o, _ => o
  | n + 1, o, t => powW p ms ((n + 1) / 2) (if (n + 1) % 2 = 1 then optMul p o t ms else o) (optMul p t t ms)
termination_by n => n
decreasing_by omega
def optPow (p : Int) (ms : List Int) (n : Nat) (xs : List Int) : List Int := powW p ms n (plnOne p ms.length) xs
theorem powW_length (p : Int) (ms : List Int) (h8 : 0 < ms.length) (n : Nat) : ∀ (o t : List Int), o.length = ms.length → (powW p ms n o t).length = ms.length := by
  induction n using Nat.strongRecOn with
  | ind n ih =>
    intro o t ho
    match n, ih with
    | 0, _ => rw [powW]; exact ho
    | k + 1, ih =>
      rw [powW]
      refine ih _ (by omega) _ _ ?_
      split
      · exact optMul_length _ _ _ _ h8
      · exact ho
theorem and_one (k : Nat) : Builtin.bitAnd (k : Int) 1 = ((k % 2 : Nat) : Int) := by
  unfold Builtin.bitAnd
  have h1 : decide (0 ≤ (k : Int)) = true := by simp
  have h2 : decide (0 ≤ (1 : Int)) = true := by decide
  rw [h1, h2]
  show (((k : Int).toNat &&& (1 : Int).toNat : Nat) : Int) = _
  rw [Int.toNat_natCast]
  show ((k &&& 1 : Nat) : Int) = _
  rw [Nat.and_one_is_mod]
theorem half_one (k : Nat) : ((k : Int)).fdiv (2 ^ (1 : Int).toNat) = ((k / 2 : Nat) : Int) := by
  show ((k : Int)).fdiv 2 = _
  rw [Int.fdiv_eq_ediv_of_nonneg _ (by decide)]; omega
theorem d_O_mul {x y : Addr} {ns ks ms : List Int} {p : Int} (W : Wd (hd.heap_39 w.params) D) (T : ∀ t ∈ WT, t ∈ D.tabs) (hk : Ok A 24) (H : At D Fs R s) (hp0 : 0 < p) (hp1 : p < 2 ^ 60) (hm : OptF 422 x p ns ms ∈ Fs) (hm2 : OptF 422 y p ks ms ∈ Fs) (h5 : ns.length = ms.length) (h7 : ks.length = ms.length) (h6 : ms.length < 1000) (h8 : 0 < ms.length) (hb : Bd ks) (hbm : Bd ms)
    (h : ∀ x s', At D (OptF 422 x p (optMul p ns ks ms) ms :: Fs) R s' → Q (.ref x) s') : wpAny (model prog w) A (binaryOp .Mult (.ref x) (.ref y)) Q E s := by
  refine' o_bin W H hm .opt ?h1 ?h2 ?h3 hm2 .opt (r_use (s_G_mul (ocO _) madeO W T hk H hp0 hp1 hm hm2 h5 h7 h6 h8 hb hbm fun z s' H' => h z s' H'))
  all_goals k_is
theorem d_O_add {x y : Addr} {ns ks ms : List Int} {p : Int} (W : Wd (hd.heap_39 w.params) D) (T : ∀ t ∈ WT, t ∈ D.tabs) (hk : Ok A 24) (H : At D Fs R s) (hp : p ≠ 0) (hm : OptF 422 x p ns ms ∈ Fs) (hm2 : OptF 422 y p ks ms ∈ Fs) (h5 : ns.length = ms.length) (h7 : ks.length = ms.length) (h6 : ms.length < 1000) (h8 : 0 < ms.length)
    (h : ∀ x s', At D (OptF 422 x p (plnZip (· + ·) p ns ks) ms :: Fs) R s' → Q (.ref x) s') : wpAny (model prog w) A (binaryOp .Add (.ref x) (.ref y)) Q E s := by
  refine' o_bin W H hm .opt ?h1 ?h2 ?h3 hm2 .opt (r_use (s_G_add (ocO _) madeO W T hk H hp hm hm2 h5 h7 h6 h8 fun z s' H' => h z s' H'))
  all_goals k_is
theorem d_O_sub {x y : Addr} {ns ks ms : List Int} {p : Int} (W : Wd (hd.heap_39 w.params) D) (T : ∀ t ∈ WT, t ∈ D.tabs) (hk : Ok A 24) (H : At D Fs R s) (hp : p ≠ 0) (hm : OptF 422 x p ns ms ∈ Fs) (hm2 : OptF 422 y p ks ms ∈ Fs) (h5 : ns.length = ms.length) (h7 : ks.length = ms.length) (h6 : ms.length < 1000) (h8 : 0 < ms.length)
    (h : ∀ x s', At D (OptF 422 x p (plnZip (· - ·) p ns ks) ms :: Fs) R s' → Q (.ref x) s') : wpAny (model prog w) A (binaryOp .Sub (.ref x) (.ref y)) Q E s := by
  refine' o_bin W H hm .opt ?h1 ?h2 ?h3 hm2 .opt (r_use (s_G_sub (ocO _) madeO W T hk H hp hm hm2 h5 h7 h6 h8 fun z s' H' => h z s' H'))
  all_goals k_is
theorem d_O_neg {x : Addr} {ns ms : List Int} {p : Int} (W : Wd (hd.heap_39 w.params) D) (T : ∀ t ∈ WT, t ∈ D.tabs) (hk : Ok A 24) (H : At D Fs R s) (hp : p ≠ 0) (hm : OptF 422 x p ns ms ∈ Fs) (h5 : ns.length = ms.length) (h6 : ms.length < 1000) (h8 : 0 < ms.length)
    (h : ∀ x s', At D (OptF 422 x p (plnNeg p ns) ms :: Fs) R s' → Q (.ref x) s') : wpAny (model prog w) A (unaryOp .USub (.ref x)) Q E s := by
  refine' o_neg W H hm .opt ?h1 ?h2 (r_use (s_G_neg (ocO _) madeO W T hk H hp hm h5 h6 h8 fun z s' H' => h z s' H'))
  all_goals k_is
local macro_rules | `(tactic| walk_at "binaryOp BitAnd int int") => `(tactic| ((with_reducible rename At _ _ _ _ => $(Lean.mkIdent `hA):ident); refine r_and $(Lean.mkIdent `hA):ident ?_; clear $(Lean.mkIdent `hA):ident; intro $(Lean.mkIdent `t9):ident $(Lean.mkIdent `s9):ident $(Lean.mkIdent `hA):ident))
local macro_rules | `(tactic| walk_at "inplaceOp RShift int int") => `(tactic| ((with_reducible rename At _ _ _ _ => $(Lean.mkIdent `hA):ident); refine r_irsh $(Lean.mkIdent `hA):ident (by decide) ?_; clear $(Lean.mkIdent `hA):ident; intro $(Lean.mkIdent `t9):ident $(Lean.mkIdent `s9):ident $(Lean.mkIdent `hA):ident))
set_option maxHeartbeats 4000000 in
set_option maxRecDepth 100000 in
theorem s_O_pow {x : Addr} {n : Nat} {t1 : Tok} {ns ms : List Int} {p : Int} (W : Wd (hd.heap_39 w.params) D) (T : ∀ t ∈ WT, t ∈ D.tabs) (hk : Ok A 30) (H : At D Fs R s) (hp0 : 0 < p) (hp1 : p < 2 ^ 60) (hm : OptF 422 x p ns ms ∈ Fs) (h5 : ns.length = ms.length) (h6 : ms.length < 1000) (h8 : 0 < ms.length) (hb : Bd ns) (hbm : Bd ms)
    (h : ∀ x s', At D (OptF 422 x p (optPow p ms n ns) ms :: Fs) R s' → Q (.ref x) s') : codeAny (model prog w) A (.call (.ref 361) ⟨[.ref x, .int n t1], []⟩) (Ret Q) s := by
  have hp : p ≠ 0 := by omega
  refine' v_call [("other", .int n t1), ("self", .ref x)] ?W H hk ?ho ?hcd ?hb ?hl ?hm ?_ ?c1 ?c2 ?c3 ?c4
  k_extra "m enter"
  clear H
  k_extra "wk"
  have eN : ((ms.length : Int) - 1).toNat = ms.length - 1 := by omega
  rw [eN] at hA
  have H1 := At.fzL hA .head
  clear hA
  have hA := H1
  clear H1
  k_extra "wk"
  have ho : (plnOne p ms.length).length = ms.length := by simp [plnOne]; omega
  refine r_while (fun k s => ∃ o t xo xt tk, xo.length = ms.length ∧ xt.length = ms.length ∧ Bd xt ∧ powW p ms k xo xt = optPow p ms n ns ∧ At D (OptF 422 o p xo ms :: OptF 422 t p xt ms :: Fs) (Vars L9 [("other", .int k tk), ("o", .ref o), ("t", .ref t)] :: R) s) ?_ n ⟨_, _, _, _, t1, ho, h5, hb, rfl, hA.to' (by k_extra "m sub") (by k_extra "m facts")⟩
  clear hA
  rintro k s ⟨o, t, xo, xt, tk, lo, lt, bt, ek, hA⟩
  k_extra "wk"
  · rename_i hb1
    rw [and_one] at hb1
    have hk1 : k % 2 = 1 := by omega
    refine d_O_mul W T (hK9.mono (by omega)) hA hp0 hp1 (x := o) (y := t) (by k_extra "m mem") (by k_extra "m mem") lo lt h6 h8 bt hbm ?_
    clear hA
    intro x9 s9 hA
    show wpAny _ _ _ _ _ _
    k_extra "wk"
    refine d_O_mul W T (hK9.mono (by omega)) hA hp0 hp1 (x := t) (y := t) (by k_extra "m mem") (by k_extra "m mem") lt lt h6 h8 bt hbm ?_
    clear hA
    obtain ⟨y9, rfl⟩ : ∃ y9, y9 = x9 := ⟨_, rfl⟩
    intro x9 s9 hA
    show wpAny _ _ _ _ _ _
    k_extra "wk"
    rw [half_one] at hA
    refine ⟨k / 2, by omega, y9, x9, optMul p xo xt ms, optMul p xt xt ms, _, optMul_length _ _ _ _ h8, optMul_length _ _ _ _ h8, (optMul_in hp0 _ _ _).bd hp1, ?_, hA.to' (by k_extra "m sub") (by k_extra "m facts")⟩
    obtain ⟨k', rfl⟩ : ∃ k', k = k' + 1 := ⟨k - 1, by omega⟩
    rw [← ek, powW, if_pos hk1]
  · rename_i hb1 _ _ _
    rw [and_one] at hb1
    have hk1 : ¬ k % 2 = 1 := by omega
    refine d_O_mul W T (hK9.mono (by omega)) hA hp0 hp1 (x := t) (y := t) (by k_extra "m mem") (by k_extra "m mem") lt lt h6 h8 bt hbm ?_
    clear hA
    intro x9 s9 hA
    show wpAny _ _ _ _ _ _
    k_extra "wk"
    rw [half_one] at hA
    refine ⟨k / 2, by omega, o, x9, xo, optMul p xt xt ms, _, lo, optMul_length _ _ _ _ h8, (optMul_in hp0 _ _ _).bd hp1, ?_, hA.to' (by k_extra "m sub") (by k_extra "m facts")⟩
    obtain ⟨k', rfl⟩ : ∃ k', k = k' + 1 := ⟨k - 1, by omega⟩
    rw [← ek, powW, if_neg hk1]
  · have k0 : k = 0 := by omega
    subst k0
    rw [powW] at ek
    rw [ek] at hA
    exact h _ _ (At.to' hA (by k_extra "m sub") (by k_extra "m facts"))
end
section
local macro_rules | `(tactic| walk_at "binaryOp BitAnd int int") => `(tactic| ((with_reducible rename At _ _ _ _ => $(Lean.mkIdent `hA):ident); refine r_and $(Lean.mkIdent `hA):ident ?_; clear $(Lean.mkIdent `hA):ident; intro $(Lean.mkIdent `t9):ident $(Lean.mkIdent `s9):ident $(Lean.mkIdent `hA):ident))
local macro_rules | `(tactic| walk_at "inplaceOp RShift int int") => `(tactic| ((with_reducible rename At _ _ _ _ => $(Lean.mkIdent `hA):ident); refine r_irsh $(Lean.mkIdent `hA):ident (by decide) ?_; clear $(Lean.mkIdent `hA):ident; intro $(Lean.mkIdent `t9):ident $(Lean.mkIdent `s9):ident $(Lean.mkIdent `hA):ident))
local macro_rules | `(tactic| walk_at "call ref") => `(tactic| ((with_reducible rename At _ _ _ _ => $(Lean.mkIdent `hA):ident); refine r_use ?_; refine' s_F ?W ?T ?hk $(Lean.mkIdent `hA):ident ?hp ?h1 ?h2 ?h3 ?h4 ?h5 ?h6 ?h8 ?_; (case W => assumption); (case T => assumption); (case hk => k_extra "m ok"); (case hp => assumption); (case h1 => k_extra "m mem"); (case h2 => k_extra "m ints"); (case h4 => assumption); (case h3 => k_extra "m seq"); (case h5 => k_extra "m lens"); (case h6 => k_extra "m lens"); (case h8 => k_extra "m lens"); clear $(Lean.mkIdent `hA):ident; intro $(Lean.mkIdent `x9):ident $(Lean.mkIdent `s9):ident $(Lean.mkIdent `hA):ident))
local macro_rules | `(tactic| walk_at "call ref") => `(tactic| ((with_reducible rename At _ _ _ _ => $(Lean.mkIdent `hA):ident); refine r_use ?_; refine' s_F_made ?W ?T ?hk $(Lean.mkIdent `hA):ident ?hp ?hm ?h1 ?h2 ?h5 ?h6 ?h8 ?_; (case W => assumption); (case T => assumption); (case hk => k_extra "m ok"); (case hp => assumption); (case hm => k_extra "m mem"); (case h1 => k_extra "m mem"); (case h2 => k_extra "m ints"); (case h5 => k_extra "m lens"); (case h6 => k_extra "m lens"); (case h8 => k_extra "m lens"); clear $(Lean.mkIdent `hA):ident; intro $(Lean.mkIdent `x9):ident $(Lean.mkIdent `s9):ident $(Lean.mkIdent `hA):ident))
variable {prog : Program} {w : World} {A : Around} {E : Value → Shared → Prop} {D : Dat} {Fs : List Fact} {R : List Res} {s : Shared} {Q : Value → Shared → Prop}

theorem d_F_mul {x y : Addr} {ns ks ms : List Int} {p : Int} (W : Wd (hd.heap_39 w.params) D) (T : ∀ t ∈ WT, t ∈ D.tabs) (hk : Ok A 24) (H : At D Fs R s) (hp0 : 0 < p) (hp1 : p < 2 ^ 60) (hm : OptF 451 x p ns ms ∈ Fs) (hm2 : OptF 451 y p ks ms ∈ Fs) (h5 : ns.length = ms.length) (h7 : ks.length = ms.length) (h6 : ms.length < 1000) (h8 : 0 < ms.length) (hb : Bd ks) (hbm : Bd ms)
    (h : ∀ x s', At D (OptF 451 x p (optMul p ns ks ms) ms :: Fs) R s' → Q (.ref x) s') : wpAny (model prog w) A (binaryOp .Mult (.ref x) (.ref y)) Q E s := by
  refine' o_bin W H hm .opt ?h1 ?h2 ?h3 hm2 .opt (r_use (s_G_mul (ocF _) madeF W T hk H hp0 hp1 hm hm2 h5 h7 h6 h8 hb hbm fun z s' H' => h z s' H'))
  all_goals k_is
theorem d_F_add {x y : Addr} {ns ks ms : List Int} {p : Int} (W : Wd (hd.heap_39 w.params) D) (T : ∀ t ∈ WT, t ∈ D.tabs) (hk : Ok A 24) (H : At D Fs R s) (hp : p ≠ 0) (hm : OptF 451 x p ns ms ∈ Fs) (hm2 : OptF 451 y p ks ms ∈ Fs) (h5 : ns.length = ms.length) (h7 : ks.length = ms.length) (h6 : ms.length < 1000) (h8 : 0 < ms.length)
    (h : ∀ x s', At D (OptF 451 x p (plnZip (· + ·) p ns ks) ms :: Fs) R s' → Q (.ref x) s') : wpAny (model prog w) A (binaryOp .Add (.ref x) (.ref y)) Q E s := by
  refine' o_bin W H hm .opt ?h1 ?h2 ?h3 hm2 .opt (r_use (s_G_add (ocF _) madeF W T hk H hp hm hm2 h5 h7 h6 h8 fun z s' H' => h z s' H'))
  all_goals k_is
theorem d_F_sub {x y : Addr} {ns ks ms : List Int} {p : Int} (W : Wd (hd.heap_39 w.params) D) (T : ∀ t ∈ WT, t ∈ D.tabs) (hk : Ok A 24) (H : At D Fs R s) (hp : p ≠ 0) (hm : OptF 451 x p ns ms ∈ Fs) (hm2 : OptF 451 y p ks ms ∈ Fs) (h5 : ns.length = ms.length) (h7 : ks.length = ms.length) (h6 : ms.length < 1000) (h8 : 0 < ms.length)
    (h : ∀ x s', At D (OptF 451 x p (plnZip (· - ·) p ns ks) ms :: Fs) R s' → Q (.ref x) s') : wpAny (model prog w) A (binaryOp .Sub (.ref x) (.ref y)) Q E s := by
  refine' o_bin W H hm .opt ?h1 ?h2 ?h3 hm2 .opt (r_use (s_G_sub (ocF _) madeF W T hk H hp hm hm2 h5 h7 h6 h8 fun z s' H' => h z s' H'))
  all_goals k_is
theorem d_F_neg {x : Addr} {ns ms : List Int} {p : Int} (W : Wd (hd.heap_39 w.params) D) (T : ∀ t ∈ WT, t ∈ D.tabs) (hk : Ok A 24) (H : At D Fs R s) (hp : p ≠ 0) (hm : OptF 451 x p ns ms ∈ Fs) (h5 : ns.length = ms.length) (h6 : ms.length < 1000) (h8 : 0 < ms.length)
    (h : ∀ x s', At D (OptF 451 x p (plnNeg p ns) ms :: Fs) R s' → Q (.ref x) s') : wpAny (model prog w) A (unaryOp .USub (.ref x)) Q E s := by
  refine' o_neg W H hm .opt ?h1 ?h2 (r_use (s_G_neg (ocF _) madeF W T hk H hp hm h5 h6 h8 fun z s' H' => h z s' H'))
  all_goals k_is
local macro_rules | `(tactic| walk_at "binaryOp BitAnd int int") => `(tactic| ((with_reducible rename At _ _ _ _ => $(Lean.mkIdent `hA):ident); refine r_and $(Lean.mkIdent `hA):ident ?_; clear $(Lean.mkIdent `hA):ident; intro $(Lean.mkIdent `t9):ident $(Lean.mkIdent `s9):ident $(Lean.mkIdent `hA):ident))
local macro_rules | `(tactic| walk_at "inplaceOp RShift int int") => `(tactic| ((with_reducible rename At _ _ _ _ => $(Lean.mkIdent `hA):ident); refine r_irsh $(Lean.mkIdent `hA):ident (by decide) ?_; clear $(Lean.mkIdent `hA):ident; intro $(Lean.mkIdent `t9):ident $(Lean.mkIdent `s9):ident $(Lean.mkIdent `hA):ident))
set_option maxHeartbeats 4000000 in
set_option maxRecDepth 100000 in
theorem s_F_pow {x : Addr} {n : Nat} {t1 : Tok} {ns ms : List Int} {p : Int} (W : Wd (hd.heap_39 w.params) D) (T : ∀ t ∈ WT, t ∈ D.tabs) (hk : Ok A 30) (H : At D Fs R s) (hp0 : 0 < p) (hp1 : p < 2 ^ 60) (hm : OptF 451 x p ns ms ∈ Fs) (h5 : ns.length = ms.length) (h6 : ms.length < 1000) (h8 : 0 < ms.length) (hb : Bd ns) (hbm : Bd ms)
    (h : ∀ x s', At D (OptF 451 x p (optPow p ms n ns) ms :: Fs) R s' → Q (.ref x) s') : codeAny (model prog w) A (.call (.ref 361) ⟨[.ref x, .int n t1], []⟩) (Ret Q) s := by
  have hp : p ≠ 0 := by omega
  refine' v_call [("other", .int n t1), ("self", .ref x)] ?W H hk ?ho ?hcd ?hb ?hl ?hm ?_ ?c1 ?c2 ?c3 ?c4
  k_extra "m enter"
  clear H
  k_extra "wk"
  have eN : ((ms.length : Int) - 1).toNat = ms.length - 1 := by omega
  rw [eN] at hA
  have H1 := At.fzL hA .head
  clear hA
  have hA := H1
  clear H1
  k_extra "wk"
  have ho : (plnOne p ms.length).length = ms.length := by simp [plnOne]; omega
  refine r_while (fun k s => ∃ o t xo xt tk, xo.length = ms.length ∧ xt.length = ms.length ∧ Bd xt ∧ powW p ms k xo xt = optPow p ms n ns ∧ At D (OptF 451 o p xo ms :: OptF 451 t p xt ms :: Fs) (Vars L9 [("other", .int k tk), ("o", .ref o), ("t", .ref t)] :: R) s) ?_ n ⟨_, _, _, _, t1, ho, h5, hb, rfl, hA.to' (by k_extra "m sub") (by k_extra "m facts")⟩
  clear hA
  rintro k s ⟨o, t, xo, xt, tk, lo, lt, bt, ek, hA⟩
  k_extra "wk"
  · rename_i hb1
    rw [and_one] at hb1
    have hk1 : k % 2 = 1 := by omega
    refine d_F_mul W T (hK9.mono (by omega)) hA hp0 hp1 (x := o) (y := t) (by k_extra "m mem") (by k_extra "m mem") lo lt h6 h8 bt hbm ?_
    clear hA
    intro x9 s9 hA
    show wpAny _ _ _ _ _ _
    k_extra "wk"
    refine d_F_mul W T (hK9.mono (by omega)) hA hp0 hp1 (x := t) (y := t) (by k_extra "m mem") (by k_extra "m mem") lt lt h6 h8 bt hbm ?_
    clear hA
    obtain ⟨y9, rfl⟩ : ∃ y9, y9 = x9 := ⟨_, rfl⟩
    intro x9 s9 hA
    show wpAny _ _ _ _ _ _
    k_extra "wk"
    rw [half_one] at hA
    refine ⟨k / 2, by omega, y9, x9, optMul p xo xt ms, optMul p xt xt ms, _, optMul_length _ _ _ _ h8, optMul_length _ _ _ _ h8, (optMul_in hp0 _ _ _).bd hp1, ?_, hA.to' (by k_extra "m sub") (by k_extra "m facts")⟩
    obtain ⟨k', rfl⟩ : ∃ k', k = k' + 1 := ⟨k - 1, by omega⟩
    rw [← ek, powW, if_pos hk1]
  · rename_i hb1 _ _ _
    rw [and_one] at hb1
    have hk1 : ¬ k % 2 = 1 := by omega
    refine d_F_mul W T (hK9.mono (by omega)) hA hp0 hp1 (x := t) (y := t) (by k_extra "m mem") (by k_extra "m mem") lt lt h6 h8 bt hbm ?_
    clear hA
    intro x9 s9 hA
    show wpAny _ _ _ _ _ _
    k_extra "wk"
    rw [half_one] at hA
    refine ⟨k / 2, by omega, o, x9, xo, optMul p xt xt ms, _, lo, optMul_length _ _ _ _ h8, (optMul_in hp0 _ _ _).bd hp1, ?_, hA.to' (by k_extra "m sub") (by k_extra "m facts")⟩
    obtain ⟨k', rfl⟩ : ∃ k', k = k' + 1 := ⟨k - 1, by omega⟩
    rw [← ek, powW, if_neg hk1]
  · have k0 : k = 0 := by omega
    subst k0
    rw [powW] at ek
    rw [ek] at hA
    exact h _ _ (At.to' hA (by k_extra "m sub") (by k_extra "m facts"))
end
end
end
end
section
variable {prog : Program} {w : World} {A : Around} {E : Value → Shared → Prop} {D : Dat} {Fs : List Fact} {R : List Res} {s : Shared} {Q : Value → Shared → Prop}
theorem r_aio3 {f1 f2 f3 : Value → Sem Unit} {v1 v2 v3 : Value} {Q : Unit → Shared → Prop} (h : wpAny (model prog w) A (f1 v1) (fun _ s1 => wpAny (model prog w) A (f2 v2) (fun _ s2 => wpAny (model prog w) A (f3 v3) Q E s2) E s1) E s) : wpAny (model prog w) A (assignInOrder [f1, f2, f3] [v1, v2, v3]) Q E s := by
  show wpAny _ A (do holding [v2, v3] (f1 v1); do holding [v3] (f2 v2); do holding [] (f3 v3); pure ()) _ _ _
  refine wpAny_bind (wpAny_holding (wpAny_mono h (fun _ s1 q => ?_) fun _ _ e => e))
  refine wpAny_bind (wpAny_holding (wpAny_mono q (fun _ s2 q => ?_) fun _ _ e => e))
  exact wpAny_bind (wpAny_holding (wpAny_mono q (fun _ s2 q => wpAny_pure q) fun _ _ e => e))
theorem r_asg4 {x y z u : Str} {px py pz pu pos : Pos} {env : Env} {k : Nat} {T : Addr} {v1 v2 v3 v4 : Value} {Q : Unit → Shared → Prop} (hh : A.handled = none) (H : At D Fs R s) (hm : TupF T [v1, v2, v3, v4] ∈ Fs)
    (h : ∀ s', At D Fs R s' → wpAny (model prog w) A (storeName env x v1) (fun _ s1 => wpAny (model prog w) A (storeName env y v2) (fun _ s2 => wpAny (model prog w) A (storeName env z v3) (fun _ s3 => wpAny (model prog w) A (storeName env u v4) Q E s3) E s2) E s1) E s') :
    wpAny (model prog w) A (assign (.Tuple [.Name x px, .Name y py, .Name z pz, .Name u pu] k pos) env (.ref T)) Q E s := by
  refine wpAny_assign_Tuple hh (H.fact hm) rfl rfl fun h' hE => ?_
  show wpAny _ A (do holding [v2, v3, v4] (assign (.Name x px) env v1); do holding [v3, v4] (assign (.Name y py) env v2); do holding [v4] (assign (.Name z pz) env v3); do holding [] (assign (.Name u pu) env v4); pure ()) _ _ _
  have H1 : At D Fs R { s with heap := h' } := H.keeps (tk := s.toks) fun b o e => hE b o (Nat.ne_of_lt (Heap.lt_size e)) e
  refine wpAny_bind (wpAny_holding (wpAny_assign_Name (wpAny_mono (h _ H1) (fun _ s1 q => ?_) fun _ _ e => e)))
  refine wpAny_bind (wpAny_holding (wpAny_assign_Name (wpAny_mono q (fun _ s2 q => ?_) fun _ _ e => e)))
  refine wpAny_bind (wpAny_holding (wpAny_assign_Name (wpAny_mono q (fun _ s3 q => ?_) fun _ _ e => e)))
  exact wpAny_bind (wpAny_holding (wpAny_assign_Name (wpAny_mono q (fun _ s4 q => wpAny_pure q) fun _ _ e => e)))
theorem r_aio4 {f1 f2 f3 f4 : Value → Sem Unit} {v1 v2 v3 v4 : Value} {Q : Unit → Shared → Prop} (h : wpAny (model prog w) A (f1 v1) (fun _ s1 => wpAny (model prog w) A (f2 v2) (fun _ s2 => wpAny (model prog w) A (f3 v3) (fun _ s3 => wpAny (model prog w) A (f4 v4) Q E s3) E s2) E s1) E s) : wpAny (model prog w) A (assignInOrder [f1, f2, f3, f4] [v1, v2, v3, v4]) Q E s := by
  show wpAny _ A (do holding [v2, v3, v4] (f1 v1); do holding [v3, v4] (f2 v2); do holding [v4] (f3 v3); do holding [] (f4 v4); pure ()) _ _ _
  refine wpAny_bind (wpAny_holding (wpAny_mono h (fun _ s1 q => ?_) fun _ _ e => e))
  refine wpAny_bind (wpAny_holding (wpAny_mono q (fun _ s2 q => ?_) fun _ _ e => e))
  refine wpAny_bind (wpAny_holding (wpAny_mono q (fun _ s3 q => ?_) fun _ _ e => e))
  exact wpAny_bind (wpAny_holding (wpAny_mono q (fun _ s4 q => wpAny_pure q) fun _ _ e => e))
local macro_rules | `(tactic| walk_at "unpackItems ref") => `(tactic| ((with_reducible rename At _ _ _ _ => $(Lean.mkIdent `hA):ident); (refine' r_unpk (Ok.handled $(Lean.mkIdent `hK9):ident) $(Lean.mkIdent `hA):ident ?hm ?hn ?_); (case hm => exact List.Mem.head _); (case hn => exact rfl); clear $(Lean.mkIdent `hA):ident; intro $(Lean.mkIdent `s9):ident $(Lean.mkIdent `hA):ident))
local macro_rules | `(tactic| walk_at "assignInOrder") => `(tactic| ((with_reducible show wpAny _ _ (assignInOrder _ [_, _]) _ _ _); with_unfolding_all refine r_aio2 ?_))
local macro_rules | `(tactic| walk_at "assignInOrder") => `(tactic| ((with_reducible show wpAny _ _ (assignInOrder _ [_, _, _]) _ _ _); with_unfolding_all refine r_aio3 ?_))
local macro_rules | `(tactic| walk_at "assignInOrder") => `(tactic| ((with_reducible show wpAny _ _ (assignInOrder _ [_, _, _, _]) _ _ _); with_unfolding_all refine r_aio4 ?_))
local macro_rules | `(tactic| walk_at "assign Tuple") => `(tactic| ((with_reducible rename At _ _ _ _ => $(Lean.mkIdent `hA):ident); refine' r_asg4 ?hh $(Lean.mkIdent `hA):ident ?hm ?_; (case hh => k_extra "m hh"); (case hm => k_extra "m mem"); clear $(Lean.mkIdent `hA):ident; intro $(Lean.mkIdent `s9):ident $(Lean.mkIdent `hA):ident))
def pfiF : Nat → Int → Int → Int → Int → Int
  | 0, lm, _, _, _ => lm
  | k + 1, lm, low, hm, high => if low ≤ 1 then lm else pfiF k (hm - lm * high.fdiv low) (high - low * high.fdiv low) lm low
/-- prime_field_inv -/
def pfi (a n : Int) : Int := if a.fmod n = 0 then 0 else (pfiF n.toNat 1 ((a.fmod n).fmod n) 0 n).fmod n
local macro_rules | `(tactic| walk_at "inplaceOp Mod int int") => `(tactic| ((with_reducible rename At _ _ _ _ => $(Lean.mkIdent `hA):ident); refine r_imod $(Lean.mkIdent `hA):ident (by omega) ?_; clear $(Lean.mkIdent `hA):ident; intro $(Lean.mkIdent `t9):ident $(Lean.mkIdent `s9):ident $(Lean.mkIdent `hA):ident))
local macro_rules | `(tactic| walk_at "binaryOp FloorDiv int int") => `(tactic| ((with_reducible rename At _ _ _ _ => $(Lean.mkIdent `hA):ident); refine r_fdiv $(Lean.mkIdent `hA):ident (by omega) (by exact PyProof.noPylong_small (by omega)) ?_; clear $(Lean.mkIdent `hA):ident; intro $(Lean.mkIdent `t9):ident $(Lean.mkIdent `s9):ident $(Lean.mkIdent `hA):ident))
set_option maxHeartbeats 1000000 in
set_option maxRecDepth 100000 in
theorem s_pfi {a n : Int} {t1 t2 : Tok} (W : Wd (hd.heap_39 w.params) D) (hk : Ok A 8) (H : At D Fs R s) (hn : 1 < n) (hn2 : n < 2 ^ 20)
    (h : ∀ t s', At D Fs R s' → Q (.int (pfi a n) t) s') : codeAny (model prog w) A (.call (.ref 28) ⟨[.int a t1, .int n t2], []⟩) (Ret Q) s := by
  refine' v_call [("n", .int n t2), ("a", .int a t1)] ?W H hk ?ho ?hcd ?hb ?hl ?hm ?_ ?c1 ?c2 ?c3 ?c4
  k_extra "m enter"
  clear H
  k_extra "wk"
  · refine fin_int h hA (by k_extra "m sub") (by k_extra "m facts") ?_
    unfold pfi; rw [if_pos (by assumption)]
  · have a0 := Int.fmod_nonneg_of_pos a (show 0 < n by omega)
    have a1 := Int.fmod_lt_of_pos a (show 0 < n by omega)
    have b0 := Int.fmod_nonneg_of_pos (a.fmod n) (show 0 < n by omega)
    have b1 := Int.fmod_lt_of_pos (a.fmod n) (show 0 < n by omega)
    have hne : ¬ a.fmod n = 0 := by assumption
    have ht : pfi a n = (pfiF n.toNat 1 ((a.fmod n).fmod n) 0 n).fmod n := by unfold pfi; rw [if_neg hne]
    generalize hlow : (a.fmod n).fmod n = low at *
    change At D _ _ _ at hA
    refine r_while (fun k s => ∃ lm lo hm hi q1 q2 q3 q4, 0 ≤ lo ∧ lo.toNat ≤ k ∧ lo ≤ n ∧ 0 ≤ hi ∧ hi ≤ n ∧ (pfiF k lm lo hm hi).fmod n = pfi a n ∧ At D Fs (Vars L9 [("n", .int n t2), ("lm", .int lm q1), ("low", .int lo q2), ("hm", .int hm q3), ("high", .int hi q4)] :: R) s) ?_ n.toNat ⟨1, low, 0, n, _, _, _, _, by omega, by omega, by omega, by omega, by omega, ht.symm, hA.to' (by k_extra "m sub") (by k_extra "m facts")⟩
    clear hA
    rintro k s ⟨lm, lo, hm, hi, q1, q2, q3, q4, c0, c1, c2, c3, c4, ek, hA⟩
    have d0 : 0 ≤ hi.fdiv lo := by rw [Int.fdiv_eq_ediv_of_nonneg _ c0]; exact Int.ediv_nonneg c3 c0
    have d1 : hi.fdiv lo ≤ hi := by rw [Int.fdiv_eq_ediv_of_nonneg _ c0]; exact Int.ediv_le_self _ c3
    have e1 := mulOk_right (a := lm) (b := hi.fdiv lo) ⟨by omega, by omega⟩
    have e2 := mulOk_right (a := lo) (b := hi.fdiv lo) ⟨by omega, by omega⟩
    k_extra "wk"
    · have hlo : 1 < lo := by omega
      have g0 : 0 ≤ hi - lo * hi.fdiv lo := by have := Int.fmod_nonneg_of_pos hi (show 0 < lo by omega); rw [Int.fmod_def] at this; exact this
      have g1 : hi - lo * hi.fdiv lo < lo := by have := Int.fmod_lt_of_pos hi (show 0 < lo by omega); rw [Int.fmod_def] at this; exact this
      obtain ⟨k', rfl⟩ : ∃ k', k = k' + 1 := ⟨k - 1, by omega⟩
      rw [pfiF, if_neg (by omega)] at ek
      exact ⟨k', by omega, _, _, _, _, _, _, _, _, g0, by omega, by omega, c0, c2, ek, hA.to' (by k_extra "m sub") (by k_extra "m facts")⟩
    · refine fin_int h hA (by k_extra "m sub") (by k_extra "m facts") ?_
      rw [← ek]
      cases k with
      | zero => rfl
      | succ k => rw [pfiF, if_pos (by omega)]
local macro_rules | `(tactic| walk_at "call ref") => `(tactic| ((with_reducible rename At _ _ _ _ => $(Lean.mkIdent `hA):ident); refine r_use ?_; refine' s_pfi ?W ?hk $(Lean.mkIdent `hA):ident ?hn ?hn2 ?_; (case W => assumption); (case hk => k_extra "m ok"); (case hn => assumption); (case hn2 => assumption); clear $(Lean.mkIdent `hA):ident; intro $(Lean.mkIdent `t9):ident $(Lean.mkIdent `s9):ident $(Lean.mkIdent `hA):ident))
set_option maxHeartbeats 1000000 in
set_option maxRecDepth 100000 in
theorem s_FQ_addI {x : Addr} {k p j : Int} {t1 : Tok} (W : Wd (hd.heap_39 w.params) D) (hk : Ok A 16) (H : At D Fs R s) (hm : FQF 183 x p j ∈ Fs) (hp : p ≠ 0) 
    (h : ∀ x s', At D (FQF 183 x p (((j + k).fmod p).fmod p) :: Fs) R s' → Q (.ref x) s') : codeAny (model prog w) A (.call (.ref 61) ⟨[.ref x, .int k t1], []⟩) (Ret Q) s := by
  refine' v_call [("other", .int k t1), ("self", .ref x)] ?W H hk ?ho ?hcd ?hb ?hl ?hm ?_ ?c1 ?c2 ?c3 ?c4
  k_extra "m enter"
  clear H
  k_extra "wk"
  exact h _ _ (At.to' hA (by k_extra "m sub") (by k_extra "m facts"))
set_option maxHeartbeats 1000000 in
set_option maxRecDepth 100000 in
theorem s_FQ_subI {x : Addr} {k p j : Int} {t1 : Tok} (W : Wd (hd.heap_39 w.params) D) (hk : Ok A 16) (H : At D Fs R s) (hm : FQF 183 x p j ∈ Fs) (hp : p ≠ 0) 
    (h : ∀ x s', At D (FQF 183 x p (((j - k).fmod p).fmod p) :: Fs) R s' → Q (.ref x) s') : codeAny (model prog w) A (.call (.ref 96) ⟨[.ref x, .int k t1], []⟩) (Ret Q) s := by
  refine' v_call [("other", .int k t1), ("self", .ref x)] ?W H hk ?ho ?hcd ?hb ?hl ?hm ?_ ?c1 ?c2 ?c3 ?c4
  k_extra "m enter"
  clear H
  k_extra "wk"
  exact h _ _ (At.to' hA (by k_extra "m sub") (by k_extra "m facts"))
set_option maxHeartbeats 1000000 in
set_option maxRecDepth 100000 in
theorem s_FQ_rsubI {x : Addr} {k p j : Int} {t1 : Tok} (W : Wd (hd.heap_39 w.params) D) (hk : Ok A 16) (H : At D Fs R s) (hm : FQF 183 x p j ∈ Fs) (hp : p ≠ 0) 
    (h : ∀ x s', At D (FQF 183 x p (((k - j).fmod p).fmod p) :: Fs) R s' → Q (.ref x) s') : codeAny (model prog w) A (.call (.ref 89) ⟨[.ref x, .int k t1], []⟩) (Ret Q) s := by
  refine' v_call [("other", .int k t1), ("self", .ref x)] ?W H hk ?ho ?hcd ?hb ?hl ?hm ?_ ?c1 ?c2 ?c3 ?c4
  k_extra "m enter"
  clear H
  k_extra "wk"
  exact h _ _ (At.to' hA (by k_extra "m sub") (by k_extra "m facts"))
set_option maxHeartbeats 1000000 in
set_option maxRecDepth 100000 in
theorem s_FQ_mulI {x : Addr} {k p j : Int} {t1 : Tok} (W : Wd (hd.heap_39 w.params) D) (hk : Ok A 16) (H : At D Fs R s) (hm : FQF 183 x p j ∈ Fs) (hp : p ≠ 0) (hj : IntMulOk j k)
    (h : ∀ x s', At D (FQF 183 x p (((j * k).fmod p).fmod p) :: Fs) R s' → Q (.ref x) s') : codeAny (model prog w) A (.call (.ref 68) ⟨[.ref x, .int k t1], []⟩) (Ret Q) s := by
  refine' v_call [("other", .int k t1), ("self", .ref x)] ?W H hk ?ho ?hcd ?hb ?hl ?hm ?_ ?c1 ?c2 ?c3 ?c4
  k_extra "m enter"
  clear H
  k_extra "wk"
  exact h _ _ (At.to' hA (by k_extra "m sub") (by k_extra "m facts"))
set_option maxHeartbeats 1000000 in
set_option maxRecDepth 100000 in
theorem s_FQ_divI {x : Addr} {k p j : Int} {t1 : Tok} (W : Wd (hd.heap_39 w.params) D) (hk : Ok A 16) (H : At D Fs R s) (hm : FQF 183 x p j ∈ Fs) (hp : p ≠ 0) (hn : 1 < p) (hn2 : p < 2 ^ 20) (hj : IntMulOk j (pfi k p))
    (h : ∀ x s', At D (FQF 183 x p (((j * pfi k p).fmod p).fmod p) :: Fs) R s' → Q (.ref x) s') : codeAny (model prog w) A (.call (.ref 103) ⟨[.ref x, .int k t1], []⟩) (Ret Q) s := by
  refine' v_call [("other", .int k t1), ("self", .ref x)] ?W H hk ?ho ?hcd ?hb ?hl ?hm ?_ ?c1 ?c2 ?c3 ?c4
  k_extra "m enter"
  clear H
  k_extra "wk"
  exact h _ _ (At.to' hA (by k_extra "m sub") (by k_extra "m facts"))
set_option maxHeartbeats 1000000 in
set_option maxRecDepth 100000 in
theorem s_FQ_rdivI {x : Addr} {k p j : Int} {t1 : Tok} (W : Wd (hd.heap_39 w.params) D) (hk : Ok A 16) (H : At D Fs R s) (hm : FQF 183 x p j ∈ Fs) (hp : p ≠ 0) (hn : 1 < p) (hn2 : p < 2 ^ 20) (hj : IntMulOk (pfi j p) k)
    (h : ∀ x s', At D (FQF 183 x p (((pfi j p * k).fmod p).fmod p) :: Fs) R s' → Q (.ref x) s') : codeAny (model prog w) A (.call (.ref 110) ⟨[.ref x, .int k t1], []⟩) (Ret Q) s := by
  refine' v_call [("other", .int k t1), ("self", .ref x)] ?W H hk ?ho ?hcd ?hb ?hl ?hm ?_ ?c1 ?c2 ?c3 ?c4
  k_extra "m enter"
  clear H
  k_extra "wk"
  exact h _ _ (At.to' hA (by k_extra "m sub") (by k_extra "m facts"))
set_option maxHeartbeats 1000000 in
set_option maxRecDepth 100000 in
theorem s_FQ_div {x y : Addr} {k p j : Int} (W : Wd (hd.heap_39 w.params) D) (hk : Ok A 16) (H : At D Fs R s) (hm : FQF 183 x p j ∈ Fs) (hm2 : FQF 183 y p k ∈ Fs) (hp : p ≠ 0) (hn : 1 < p) (hn2 : p < 2 ^ 20) (hj : IntMulOk j (pfi k p))
    (h : ∀ x s', At D (FQF 183 x p (((j * pfi k p).fmod p).fmod p) :: Fs) R s' → Q (.ref x) s') : codeAny (model prog w) A (.call (.ref 103) ⟨[.ref x, .ref y], []⟩) (Ret Q) s := by
  refine' v_call [("other", .ref y), ("self", .ref x)] ?W H hk ?ho ?hcd ?hb ?hl ?hm ?_ ?c1 ?c2 ?c3 ?c4
  k_extra "m enter"
  clear H
  k_extra "wk"
  exact h _ _ (At.to' hA (by k_extra "m sub") (by k_extra "m facts"))
set_option maxHeartbeats 1000000 in
set_option maxRecDepth 100000 in
theorem s_FQ_int {x : Addr} {p j : Int} (W : Wd (hd.heap_39 w.params) D) (hk : Ok A 8) (H : At D Fs R s) (hm : FQF 183 x p j ∈ Fs)
    (h : ∀ t s', At D Fs R s' → Q (.int j t) s') : codeAny (model prog w) A (.call (.ref 152) ⟨[.ref x], []⟩) (Ret Q) s := by
  refine' v_call [("self", .ref x)] ?W H hk ?ho ?hcd ?hb ?hl ?hm ?_ ?c1 ?c2 ?c3 ?c4
  k_extra "m enter"
  clear H
  k_extra "wk"
  exact h _ _ (At.to' hA (by k_extra "m sub") (by k_extra "m facts"))
set_option maxHeartbeats 1000000 in
set_option maxRecDepth 100000 in
theorem s_FQ_eqI {x : Addr} {p j k : Int} {t1 : Tok} (W : Wd (hd.heap_39 w.params) D) (hk : Ok A 8) (H : At D Fs R s) (hm : FQF 183 x p j ∈ Fs)
    (h : ∀ s', At D Fs R s' → Q (.bool (j == k)) s') : codeAny (model prog w) A (.call (.ref 124) ⟨[.ref x, .int k t1], []⟩) (Ret Q) s := by
  refine' v_call [("other", .int k t1), ("self", .ref x)] ?W H hk ?ho ?hcd ?hb ?hl ?hm ?_ ?c1 ?c2 ?c3 ?c4
  k_extra "m enter"
  clear H
  k_extra "wk"
  exact h _ (At.to' hA (by k_extra "m sub") (by k_extra "m facts"))
set_option maxHeartbeats 1000000 in
set_option maxRecDepth 100000 in
theorem s_FQ_eq {x y : Addr} {p j k : Int} (W : Wd (hd.heap_39 w.params) D) (hk : Ok A 8) (H : At D Fs R s) (hm : FQF 183 x p j ∈ Fs) (hm2 : FQF 183 y p k ∈ Fs)
    (h : ∀ s', At D Fs R s' → Q (.bool (j == k)) s') : codeAny (model prog w) A (.call (.ref 124) ⟨[.ref x, .ref y], []⟩) (Ret Q) s := by
  refine' v_call [("other", .ref y), ("self", .ref x)] ?W H hk ?ho ?hcd ?hb ?hl ?hm ?_ ?c1 ?c2 ?c3 ?c4
  k_extra "m enter"
  clear H
  k_extra "wk"
  exact h _ (At.to' hA (by k_extra "m sub") (by k_extra "m facts"))
end
section
local macro_rules | `(tactic| walk_at "unpackItems ref") => `(tactic| ((with_reducible rename At _ _ _ _ => $(Lean.mkIdent `hA):ident); (refine' r_unpk (Ok.handled $(Lean.mkIdent `hK9):ident) $(Lean.mkIdent `hA):ident ?hm ?hn ?_); (case hm => exact List.Mem.head _); (case hn => exact rfl); clear $(Lean.mkIdent `hA):ident; intro $(Lean.mkIdent `s9):ident $(Lean.mkIdent `hA):ident))
local macro_rules | `(tactic| walk_at "assignInOrder") => `(tactic| ((with_reducible show wpAny _ _ (assignInOrder _ [_, _]) _ _ _); with_unfolding_all refine r_aio2 ?_))
local macro_rules | `(tactic| walk_at "assignInOrder") => `(tactic| ((with_reducible show wpAny _ _ (assignInOrder _ [_, _, _]) _ _ _); with_unfolding_all refine r_aio3 ?_))
local macro_rules | `(tactic| walk_at "assignInOrder") => `(tactic| ((with_reducible show wpAny _ _ (assignInOrder _ [_, _, _, _]) _ _ _); with_unfolding_all refine r_aio4 ?_))
local macro_rules | `(tactic| walk_at "assign Tuple") => `(tactic| ((with_reducible rename At _ _ _ _ => $(Lean.mkIdent `hA):ident); refine' r_asg4 ?hh $(Lean.mkIdent `hA):ident ?hm ?_; (case hh => k_extra "m hh"); (case hm => k_extra "m mem"); clear $(Lean.mkIdent `hA):ident; intro $(Lean.mkIdent `s9):ident $(Lean.mkIdent `hA):ident))
local macro_rules | `(tactic| walk_at "inplaceOp Mod int int") => `(tactic| ((with_reducible rename At _ _ _ _ => $(Lean.mkIdent `hA):ident); refine r_imod $(Lean.mkIdent `hA):ident (by omega) ?_; clear $(Lean.mkIdent `hA):ident; intro $(Lean.mkIdent `t9):ident $(Lean.mkIdent `s9):ident $(Lean.mkIdent `hA):ident))
local macro_rules | `(tactic| walk_at "binaryOp FloorDiv int int") => `(tactic| ((with_reducible rename At _ _ _ _ => $(Lean.mkIdent `hA):ident); refine r_fdiv $(Lean.mkIdent `hA):ident (by omega) (by exact PyProof.noPylong_small (by omega)) ?_; clear $(Lean.mkIdent `hA):ident; intro $(Lean.mkIdent `t9):ident $(Lean.mkIdent `s9):ident $(Lean.mkIdent `hA):ident))
local macro_rules | `(tactic| walk_at "call ref") => `(tactic| ((with_reducible rename At _ _ _ _ => $(Lean.mkIdent `hA):ident); refine r_use ?_; refine' s_pfi ?W ?hk $(Lean.mkIdent `hA):ident ?hn ?hn2 ?_; (case W => assumption); (case hk => k_extra "m ok"); (case hn => assumption); (case hn2 => assumption); clear $(Lean.mkIdent `hA):ident; intro $(Lean.mkIdent `t9):ident $(Lean.mkIdent `s9):ident $(Lean.mkIdent `hA):ident))
section
variable {prog : Program} {w : World} {A : Around} {E : Value → Shared → Prop} {D : Dat} {Fs : List Fact} {R : List Res} {s : Shared} {Q : Value → Shared → Prop}
theorem d_FQ_eqI {x : Addr} {p j k : Int} {t1 : Tok} (W : Wd (hd.heap_39 w.params) D) (hk : Ok A 10) (H : At D Fs R s) (hm : FQF 183 x p j ∈ Fs)
    (h : ∀ s', At D Fs R s' → Q (.bool (j == k)) s') : wpAny (model prog w) A (compareOp .Eq (.ref x) (.int k t1)) Q E s := by
  refine cmp_ofEq ?_
  refine' o_cmp (tb := .type "int") W H hk.cl hm .fq (Looks.of_pure rfl) ?h2 ?h3 ?h4 (r_use (s_FQ_eqI W (hk.mono (by omega)) H hm fun s' H' => h s' H'))
  case h2 => k_is
  case h3 => k_is
  case h4 => k_is
theorem d_FQ_rsubI {x : Addr} {p j k : Int} {t1 : Tok} (W : Wd (hd.heap_39 w.params) D) (hk : Ok A 16) (H : At D Fs R s) (hm : FQF 183 x p j ∈ Fs) (hp : p ≠ 0)
    (h : ∀ x s', At D (FQF 183 x p (((k - j).fmod p).fmod p) :: Fs) R s' → Q (.ref x) s') : wpAny (model prog w) A (binaryOp .Sub (.int k t1) (.ref x)) Q E s := by
  refine' o_binL (nm := "sub") W H hm .fq ?h1 rfl ?h2 ?h3 ?h4 F.fills_int_sub ?h5 (fun a b c => try_int_sub a b c) (r_use (s_FQ_rsubI W hk H hm hp fun x s' H' => h x s' H'))
  case h1 => k_is
  case h2 => k_is
  case h3 => k_is
  case h4 => k_is
  case h5 => k_is
theorem d_FQ_rdivI {x : Addr} {p j k : Int} {t1 : Tok} (W : Wd (hd.heap_39 w.params) D) (hk : Ok A 16) (H : At D Fs R s) (hm : FQF 183 x p j ∈ Fs) (hp : p ≠ 0) (hn : 1 < p) (hn2 : p < 2 ^ 20) (hj : IntMulOk (pfi j p) k)
    (h : ∀ x s', At D (FQF 183 x p (((pfi j p * k).fmod p).fmod p) :: Fs) R s' → Q (.ref x) s') : wpAny (model prog w) A (binaryOp .Div (.int k t1) (.ref x)) Q E s := by
  refine' o_binL (nm := "truediv") W H hm .fq ?h1 rfl ?h2 ?h3 ?h4 F.fills_int_truediv ?h5 (fun a b c => try_int_div a b c) (r_use (s_FQ_rdivI W hk H hm hp hn hn2 hj fun x s' H' => h x s' H'))
  case h1 => k_is
  case h2 => k_is
  case h3 => k_is
  case h4 => k_is
  case h5 => k_is
theorem d_FQ_div {x y : Addr} {p j k : Int} (W : Wd (hd.heap_39 w.params) D) (hk : Ok A 16) (H : At D Fs R s) (hm : FQF 183 x p j ∈ Fs) (hm2 : FQF 183 y p k ∈ Fs) (hp : p ≠ 0) (hn : 1 < p) (hn2 : p < 2 ^ 20) (hj : IntMulOk j (pfi k p))
    (h : ∀ x s', At D (FQF 183 x p (((j * pfi k p).fmod p).fmod p) :: Fs) R s' → Q (.ref x) s') : wpAny (model prog w) A (binaryOp .Div (.ref x) (.ref y)) Q E s := by
  refine' o_bin W H hm .fq ?h1 ?h2 ?h3 hm2 .fq (r_use (s_FQ_div W hk H hm hm2 hp hn hn2 hj fun z s' H' => h z s' H'))
  all_goals k_is
theorem d_FQ_divI {x : Addr} {p j k : Int} {t1 : Tok} (W : Wd (hd.heap_39 w.params) D) (hk : Ok A 16) (H : At D Fs R s) (hm : FQF 183 x p j ∈ Fs) (hp : p ≠ 0) (hn : 1 < p) (hn2 : p < 2 ^ 20) (hj : IntMulOk j (pfi k p))
    (h : ∀ x s', At D (FQF 183 x p (((j * pfi k p).fmod p).fmod p) :: Fs) R s' → Q (.ref x) s') : wpAny (model prog w) A (binaryOp .Div (.ref x) (.int k t1)) Q E s := by
  refine' o_binT W H (F := FQF 183 x p j) hm .fq ?q1 ?q2 ?q3 (T := "int") rfl ?q4 (.inr ⟨110, rfl⟩) ?q5 ?q6 ?q7 (r_use (s_FQ_divI W hk H hm hp hn hn2 hj fun z s' H' => h z s' H'))
  case q1 => k_is
  case q2 => k_is
  case q3 => k_is
  case q4 => k_is
  case q5 => k_is
  case q6 => k_is
  case q7 => k_is
theorem d_FQ_mulI {x : Addr} {p j k : Int} {t1 : Tok} (W : Wd (hd.heap_39 w.params) D) (hk : Ok A 16) (H : At D Fs R s) (hm : FQF 183 x p j ∈ Fs) (hp : p ≠ 0) (hj : IntMulOk j k)
    (h : ∀ x s', At D (FQF 183 x p (((j * k).fmod p).fmod p) :: Fs) R s' → Q (.ref x) s') : wpAny (model prog w) A (binaryOp .Mult (.ref x) (.int k t1)) Q E s := by
  refine' o_binT W H (F := FQF 183 x p j) hm .fq ?q1 ?q2 ?q3 (T := "int") rfl ?q4 (.inr ⟨75, rfl⟩) ?q5 ?q6 ?q7 (r_use (s_FQ_mulI W hk H hm hp hj fun z s' H' => h z s' H'))
  case q1 => k_is
  case q2 => k_is
  case q3 => k_is
  case q4 => k_is
  case q5 => k_is
  case q6 => k_is
  case q7 => k_is
theorem d_FQ_subI {x : Addr} {p j k : Int} {t1 : Tok} (W : Wd (hd.heap_39 w.params) D) (hk : Ok A 16) (H : At D Fs R s) (hm : FQF 183 x p j ∈ Fs) (hp : p ≠ 0)
    (h : ∀ x s', At D (FQF 183 x p (((j - k).fmod p).fmod p) :: Fs) R s' → Q (.ref x) s') : wpAny (model prog w) A (binaryOp .Sub (.ref x) (.int k t1)) Q E s := by
  refine' o_binT W H (F := FQF 183 x p j) hm .fq ?q1 ?q2 ?q3 (T := "int") rfl ?q4 (.inr ⟨89, rfl⟩) ?q5 ?q6 ?q7 (r_use (s_FQ_subI W hk H hm hp fun z s' H' => h z s' H'))
  case q1 => k_is
  case q2 => k_is
  case q3 => k_is
  case q4 => k_is
  case q5 => k_is
  case q6 => k_is
  case q7 => k_is
set_option maxHeartbeats 1000000 in
theorem i_FQ_rsubI {x : Addr} {p j k : Int} {t1 : Tok} (W : Wd (hd.heap_39 w.params) D) (hk : Ok A 16) (H : At D Fs R s) (hm : FQF 183 x p j ∈ Fs) (hp : p ≠ 0)
    (h : ∀ x s', At D (FQF 183 x p (((k - j).fmod p).fmod p) :: Fs) R s' → Q (.ref x) s') : wpAny (model prog w) A (inplaceOp .Sub (.int k t1) (.ref x)) Q E s := by
  refine' o_inplL (op := .Sub) (nm := "sub") W H hm .fq ?h1 rfl ?h0 ?h2 ?h3 ?h4 F.fills_int_sub ?h5 (fun a b c => try_int_sub a b c) (r_use (s_FQ_rsubI W hk H hm hp fun x s' H' => h x s' H'))
  case h0 => exact F.noI_int_sub
  case h1 => k_is
  case h2 => k_is
  case h3 => k_is
  case h4 => k_is
  case h5 => k_is
theorem i_FQ_subI {x : Addr} {p j k : Int} {t1 : Tok} (W : Wd (hd.heap_39 w.params) D) (hk : Ok A 16) (H : At D Fs R s) (hm : FQF 183 x p j ∈ Fs) (hp : p ≠ 0)
    (h : ∀ x s', At D (FQF 183 x p (((j - k).fmod p).fmod p) :: Fs) R s' → Q (.ref x) s') : wpAny (model prog w) A (inplaceOp .Sub (.ref x) (.int k t1)) Q E s := by
  refine' o_inplT W H (F := FQF 183 x p j) hm .fq ?q1 ?q2 ?q3 (T := "int") rfl ?q4 (.inr ⟨89, rfl⟩) ?q5 ?q6 ?q7 ?q8 ?q0 ?q9 ?qa (r_use (s_FQ_subI W hk H hm hp fun z s' H' => h z s' H'))
  case q1 => k_is
  case q2 => k_is
  case q3 => k_is
  case q4 => k_is
  case q5 => k_is
  case q6 => k_is
  case q7 => k_is
  case q8 => k_is
  case q0 => rfl
  case q9 => k_is
  case qa => k_is
end
section
variable {prog : Program} {w : World} {A : Around} {E : Value → Shared → Prop} {D : Dat} {Fs : List Fact} {R : List Res} {s : Shared} {Q : Value → Shared → Prop}
local macro_rules | `(tactic| walk_at "compareOp Eq ref int") => `(tactic| ((with_reducible rename At _ _ _ _ => $(Lean.mkIdent `hA):ident); refine' d_FQ_eqI ?W ?hk $(Lean.mkIdent `hA):ident ?hm ?_; (case W => assumption); (case hk => k_extra "m ok"); (case hm => k_extra "m mem"); clear $(Lean.mkIdent `hA):ident; intro $(Lean.mkIdent `s9):ident $(Lean.mkIdent `hA):ident))
def degI (ns : List Int) : Nat → Nat
  | 0 => 0
  | d + 1 => if ns.getD (d + 1) 0 = 0 then degI ns d else d + 1
set_option maxHeartbeats 1000000 in
set_option maxRecDepth 100000 in
theorem s_degI {l : Addr} {vs : List Value} {ns : List Int} (W : Wd (hd.heap_39 w.params) D) (hk : Ok A 12) (H : At D Fs R s) (hm : ListF l vs ∈ Fs) (hi : IntsAre vs ns) (h0 : 0 < ns.length) (h1 : ns.length < 1000)
    (h : ∀ t s', At D Fs R s' → Q (.int (degI ns (ns.length - 1)) t) s') : codeAny (model prog w) A (.call (.ref 35) ⟨[.ref l], []⟩) (Ret Q) s := by
  refine' v_call [("p", .ref l)] ?W H hk ?ho ?hcd ?hb ?hl ?hm ?_ ?c1 ?c2 ?c3 ?c4
  k_extra "m enter"
  clear H
  have hL := hi.length
  k_extra "wk"
  change At D _ _ _ at hA
  refine r_while (fun k s => ∃ t, k < ns.length ∧ degI ns k = degI ns (ns.length - 1) ∧ At D Fs (Vars L9 [("p", .ref l), ("d", .int k t)] :: R) s) ?_ (ns.length - 1) ⟨_, by omega, rfl, by
    have e : ((vs.length : Int) - 1) = ((ns.length - 1 : Nat) : Int) := by omega
    rw [e] at hA
    exact hA.to' (by k_extra "m sub") (by k_extra "m facts")⟩
  clear hA
  rintro k s ⟨t, hk1, ek, hA⟩
  k_extra "wk"
  · obtain ⟨k', rfl⟩ : ∃ k', k = k' + 1 := ⟨k - 1, by omega⟩
    have z : ns.getD (k' + 1) 0 = 0 := by
      have e : (((k' + 1 : Nat) : Int)).toNat = k' + 1 := by omega
      simp only [e] at *
      assumption
    have e2 : (((k' + 1 : Nat) : Int) - 1) = (k' : Int) := by omega
    rw [e2] at hA
    refine ⟨k', by omega, _, by omega, ?_, hA.to' (by k_extra "m sub") (by k_extra "m facts")⟩
    rw [← ek, degI, if_pos z]
  · have k0 : k = 0 := by omega
    subst k0
    exact fin_int h hA (by k_extra "m sub") (by k_extra "m facts") (by rw [← ek]; rfl)
  · refine fin_int h hA (by k_extra "m sub") (by k_extra "m facts") ?_
    rw [← ek]
    cases k with
    | zero => rfl
    | succ k' =>
      have z : ¬ ns.getD (k' + 1) 0 = 0 := by
        have e : (((k' + 1 : Nat) : Int)).toNat = k' + 1 := by omega
        simp only [e] at *
        assumption
      rw [degI, if_neg z]
end
section
variable {prog : Program} {w : World} {A : Around} {E : Value → Shared → Prop} {D : Dat} {Fs : List Fact} {R : List Res} {s : Shared} {Q : Value → Shared → Prop}
def sxMul (p : Int) (x : Sx) (k : Int) : Sx := if x.2 then (rr p (x.1 * k), true) else (x.1 * k, false)
def sxSub (p : Int) (x y : Sx) : Sx := if x.2 || y.2 then (rr p (x.1 - y.1), true) else (x.1 - y.1, false)
def sxDiv (p : Int) (x : Sx) (k : Int) : Int := rr p (x.1 * pfi k p)
theorem At.sxFQ' {C a : Addr} {p n : Int} {y : Sx} {Fs' : List Fact} (H : At D (FQF C a p n :: Fs') R s) (hs : ∀ F ∈ Fs, F ∈ Fs') (e : y = (n, true)) : At D (SxF C p (.ref a) y :: Fs) R s := e ▸ (H.sxFQ mem_hd).sub (subf_cons mem_hd fun F hF => .tail _ (.tail _ (hs F hF)))
section
variable {v v2 : Value} {x y : Sx} {p k : Int} {t1 : Tok}
theorem x_mulI (W : Wd (hd.heap_39 w.params) D) (hk : Ok A 16) (H : At D Fs R s) (hm : SxF 183 p v x ∈ Fs) (hp : p ≠ 0) (hj : IntMulOk x.1 k)
    (h : ∀ v s', At D (SxF 183 p v (sxMul p x k) :: Fs) R s' → Q v s') : wpAny (model prog w) A (binaryOp .Mult v (.int k t1)) Q E s := by
  rcases H.sxCases hm with ⟨t, n, rfl, rfl⟩ | ⟨a, n, rfl, rfl, H⟩
  · exact r_mul H hj fun t' s' H' => h _ _ (H'.sxInt _ _)
  · exact d_FQ_mulI W hk H mem_hd hp hj fun x s' H' => h _ _ (H'.sxFQ' (by k_extra "m facts") rfl)
theorem x_isub (W : Wd (hd.heap_39 w.params) D) (hk : Ok A 16) (H : At D Fs R s) (hm : SxF 183 p v x ∈ Fs) (hm2 : SxF 183 p v2 y ∈ Fs) (hp : p ≠ 0)
    (h : ∀ v s', At D (SxF 183 p v (sxSub p x y) :: Fs) R s' → Q v s') : wpAny (model prog w) A (inplaceOp .Sub v v2) Q E s := by
  rcases H.sxCases hm with ⟨t, n, rfl, rfl⟩ | ⟨a, n, rfl, rfl, H⟩
  · rcases H.sxCases hm2 with ⟨t, m, rfl, rfl⟩ | ⟨a, m, rfl, rfl, H⟩
    · exact r_isub H fun t' s' H' => h _ _ (H'.sxInt _ _)
    · exact i_FQ_rsubI W hk H mem_hd hp fun x s' H' => h _ _ (H'.sxFQ' (by k_extra "m facts") rfl)
  · rcases H.sxCases (.tail _ hm2) with ⟨t, m, rfl, rfl⟩ | ⟨a, m, rfl, rfl, H⟩
    · exact i_FQ_subI W hk H mem_hd hp fun x s' H' => h _ _ (H'.sxFQ' (by k_extra "m facts") rfl)
    · exact i_FQ_sub W (hk.mono (by decide)) H (.tail _ mem_hd) mem_hd hp fun x s' H' => h _ _ (H'.sxFQ' (by k_extra "m facts") rfl)
theorem x_sub (W : Wd (hd.heap_39 w.params) D) (hk : Ok A 16) (H : At D Fs R s) (hm : SxF 183 p v x ∈ Fs) (hm2 : SxF 183 p v2 y ∈ Fs) (hp : p ≠ 0)
    (h : ∀ v s', At D (SxF 183 p v (sxSub p x y) :: Fs) R s' → Q v s') : wpAny (model prog w) A (binaryOp .Sub v v2) Q E s := by
  rcases H.sxCases hm with ⟨t, n, rfl, rfl⟩ | ⟨a, n, rfl, rfl, H⟩
  · rcases H.sxCases hm2 with ⟨t, m, rfl, rfl⟩ | ⟨a, m, rfl, rfl, H⟩
    · exact r_sub H fun t' s' H' => h _ _ (H'.sxInt _ _)
    · exact d_FQ_rsubI W hk H mem_hd hp fun x s' H' => h _ _ (H'.sxFQ' (by k_extra "m facts") rfl)
  · rcases H.sxCases (.tail _ hm2) with ⟨t, m, rfl, rfl⟩ | ⟨a, m, rfl, rfl, H⟩
    · exact d_FQ_subI W hk H mem_hd hp fun x s' H' => h _ _ (H'.sxFQ' (by k_extra "m facts") rfl)
    · exact d_FQ_sub W (hk.mono (by decide)) H (.tail _ mem_hd) mem_hd hp fun x s' H' => h _ _ (H'.sxFQ' (by k_extra "m facts") rfl)
theorem pfi_in {a n : Int} (hn : 1 < n) : 0 ≤ pfi a n ∧ pfi a n < n := by
  unfold pfi
  split
  · omega
  · exact ⟨Int.fmod_nonneg_of_pos _ (by omega), Int.fmod_lt_of_pos _ (by omega)⟩
theorem x_div (W : Wd (hd.heap_39 w.params) D) (hk : Ok A 16) (H : At D Fs R s) (hm : SxF 183 p v x ∈ Fs) (hm2 : SxF 183 p v2 y ∈ Fs) (hy : y.2 = true) (hn : 1 < p) (hn2 : p < 2 ^ 20)
    (h : ∀ v s', At D (SxF 183 p v (sxDiv p x y.1, true) :: Fs) R s' → Q v s') : wpAny (model prog w) A (binaryOp .Div v v2) Q E s := by
  have hp : p ≠ 0 := by omega
  rcases H.sxCases hm2 with ⟨t, m, rfl, rfl⟩ | ⟨b, m, rfl, rfl, H⟩
  · cases hy
  have hb := pfi_in (a := m) hn
  rcases H.sxCases (.tail _ hm) with ⟨t, n, rfl, rfl⟩ | ⟨a, n, rfl, rfl, H⟩
  · refine d_FQ_rdivI W hk H mem_hd hp hn hn2 (mulOk_left (by omega)) fun x s' H' => h _ _ ?_
    have e : sxDiv p (n, false) (m, true).1 = ((pfi m p * n).fmod p).fmod p := by unfold sxDiv rr; rw [Int.mul_comm]
    exact H'.sxFQ' (by k_extra "m facts") (by rw [e])
  · exact d_FQ_div W hk H mem_hd (.tail _ mem_hd) hp hn hn2 (mulOk_right (by omega)) fun x s' H' => h _ _ (H'.sxFQ' (by k_extra "m facts") rfl)
theorem x_int (W : Wd (hd.heap_39 w.params) D) (hk : Ok A 12) (H : At D Fs R s) (hm : SxF 183 p v x ∈ Fs)
    (h : ∀ t s', At D Fs R s' → Q (.int x.1 t) s') : wpAny (model prog w) A (call (.type "int") [v]) Q E s := by
  rcases H.sxCases hm with ⟨t, n, rfl, rfl⟩ | ⟨a, n, rfl, rfl, H⟩
  · exact call_int_int (h _ _ H)
  · refine' o_int W H (F := FQF 183 a p n) mem_hd .fq ?h1 ?h2 (r_use (s_FQ_int W (hk.in1.in1.mono (by decide)) H mem_hd fun t s' H' => h _ _ (H'.sub (by k_extra "m facts"))))
    case h1 => k_is
    case h2 => k_is
theorem x_eqI (W : Wd (hd.heap_39 w.params) D) (hk : Ok A 10) (H : At D Fs R s) (hm : SxF 183 p v x ∈ Fs)
    (h : ∀ s', At D Fs R s' → Q (.bool (x.1 == k)) s') : wpAny (model prog w) A (compareOp .Eq v (.int k t1)) Q E s := by
  rcases H.sxCases hm with ⟨t, n, rfl, rfl⟩ | ⟨a, n, rfl, rfl, H⟩
  · walk1
    exact h _ H
  · exact d_FQ_eqI W hk H mem_hd fun s' H' => h _ (H'.sub (by k_extra "m facts"))
end
local macro_rules | `(tactic| walk_at "compareOp Eq int") => `(tactic| ((with_reducible rename At _ _ _ _ => $(Lean.mkIdent `hA):ident); refine' x_eqI ?W ?hk $(Lean.mkIdent `hA):ident ?hm ?_; (case W => assumption); (case hk => k_extra "m ok"); (case hm => k_extra "m mem"); clear $(Lean.mkIdent `hA):ident; intro $(Lean.mkIdent `s9):ident $(Lean.mkIdent `hA):ident))
local macro_rules | `(tactic| walk_at "subscriptTail") => `(tactic| ((with_reducible rename At _ _ _ _ => $(Lean.mkIdent `hA):ident); (with_reducible show wpAny _ _ (subscriptTail _ _ (Value.ref _) (Value.int _ _)) _ _ _); (first | refine r_itemTX $(Lean.mkIdent `hA):ident (by k_extra "m mem") (by k_extra "m mem") (by k_extra "m lenI") (by k_extra "m lenI") (by k_extra "m size") ?_ rfl | refine r_itemLX $(Lean.mkIdent `hA):ident (by k_extra "m pl") (by k_extra "m mem") (by k_extra "m lenI") (by k_extra "m lenI") (by k_extra "m size") ?_ rfl); clear $(Lean.mkIdent `hA):ident; intro $(Lean.mkIdent `v9):ident $(Lean.mkIdent `hA):ident))
local macro_rules | `(tactic| walk_at "getItem ref int") => `(tactic| ((with_reducible rename At _ _ _ _ => $(Lean.mkIdent `hA):ident); (refine r_giLX $(Lean.mkIdent `hA):ident (by k_extra "m pl") (by k_extra "m mem") (by k_extra "m lenI") (by k_extra "m lenI") (by k_extra "m size") ?_; clear $(Lean.mkIdent `hA):ident; intro $(Lean.mkIdent `v9):ident $(Lean.mkIdent `hA):ident)))
local macro_rules | `(tactic| walk_at "inplaceOp Sub") => `(tactic| ((with_reducible rename At _ _ _ _ => $(Lean.mkIdent `hA):ident); refine' x_isub ?W ?hk $(Lean.mkIdent `hA):ident ?hm ?hm2 ?hp ?_; (case W => assumption); (case hk => k_extra "m ok"); (case hm => k_extra "m mem"); (case hm2 => k_extra "m mem"); (case hp => assumption); clear $(Lean.mkIdent `hA):ident; intro $(Lean.mkIdent `v9):ident $(Lean.mkIdent `s9):ident $(Lean.mkIdent `hA):ident))
local macro_rules | `(tactic| walk_at "binaryOp Mult int") => `(tactic| ((with_reducible rename At _ _ _ _ => $(Lean.mkIdent `hA):ident); refine' x_mulI ?W ?hk $(Lean.mkIdent `hA):ident ?hm ?hp ?hj ?_; (case W => assumption); (case hk => k_extra "m ok"); (case hm => k_extra "m mem"); (case hp => assumption); (case hj => k_extra "m mulok"); clear $(Lean.mkIdent `hA):ident; intro $(Lean.mkIdent `v9):ident $(Lean.mkIdent `s9):ident $(Lean.mkIdent `hA):ident))
local macro_rules | `(tactic| walk_at "binaryOp Div") => `(tactic| ((with_reducible rename At _ _ _ _ => $(Lean.mkIdent `hA):ident); refine' x_div ?W ?hk $(Lean.mkIdent `hA):ident ?hm ?hm2 ?hy ?hn ?hn2 ?_; (case W => assumption); (case hk => k_extra "m ok"); (case hm => k_extra "m mem"); (case hm2 => k_extra "m mem"); (case hy => assumption); (case hn => assumption); (case hn2 => assumption); clear $(Lean.mkIdent `hA):ident; intro $(Lean.mkIdent `v9):ident $(Lean.mkIdent `s9):ident $(Lean.mkIdent `hA):ident))
local macro_rules | `(tactic| walk_at "call type:int") => `(tactic| ((with_reducible rename At _ _ _ _ => $(Lean.mkIdent `hA):ident); refine' x_int ?W ?hk $(Lean.mkIdent `hA):ident ?hm ?_; (case W => assumption); (case hk => k_extra "m ok"); (case hm => k_extra "m mem"); clear $(Lean.mkIdent `hA):ident; intro $(Lean.mkIdent `t9):ident $(Lean.mkIdent `s9):ident $(Lean.mkIdent `hA):ident))
def degX (xs : List Sx) : Nat → Nat
  | 0 => 0
  | d + 1 => if (xs.getD (d + 1) (0, false)).1 = 0 then degX xs d else d + 1
set_option maxHeartbeats 1000000 in
set_option maxRecDepth 100000 in
theorem s_degX {l : Addr} {vs : List Value} {xs : List Sx} {p : Int} (W : Wd (hd.heap_39 w.params) D) (hk : Ok A 12) (H : At D Fs R s) (hm : ListF l vs ∈ Fs) (hi : SxsF 183 p vs xs ∈ Fs) (h0 : 0 < xs.length) (h1 : xs.length < 1000)
    (h : ∀ t s', At D Fs R s' → Q (.int (degX xs (xs.length - 1)) t) s') : codeAny (model prog w) A (.call (.ref 35) ⟨[.ref l], []⟩) (Ret Q) s := by
  refine' v_call [("p", .ref l)] ?W H hk ?ho ?hcd ?hb ?hl ?hm ?_ ?c1 ?c2 ?c3 ?c4
  k_extra "m enter"
  have hL := H.sxLen hi
  clear H
  k_extra "wk"
  change At D _ _ _ at hA
  refine r_while (fun k s => ∃ t, k < xs.length ∧ degX xs k = degX xs (xs.length - 1) ∧ At D Fs (Vars L9 [("p", .ref l), ("d", .int k t)] :: R) s) ?_ (xs.length - 1) ⟨_, by omega, rfl, by
    have e : ((vs.length : Int) - 1) = ((xs.length - 1 : Nat) : Int) := by omega
    rw [e] at hA
    exact hA.to' (by k_extra "m sub") (by k_extra "m facts")⟩
  clear hA
  rintro k s ⟨t, hk1, ek, hA⟩
  k_extra "wk"
  · obtain ⟨k', rfl⟩ : ∃ k', k = k' + 1 := ⟨k - 1, by omega⟩
    have z : (xs.getD (k' + 1) (0, false)).1 = 0 := by
      have e : (((k' + 1 : Nat) : Int)).toNat = k' + 1 := by omega
      simp only [e] at *
      assumption
    have e2 : (((k' + 1 : Nat) : Int) - 1) = (k' : Int) := by omega
    rw [e2] at hA
    refine ⟨k', by omega, _, by omega, ?_, hA.to' (by k_extra "m sub") (by k_extra "m facts")⟩
    rw [← ek, degX, if_pos z]
  · have k0 : k = 0 := by omega
    subst k0
    exact fin_int h hA (by k_extra "m sub") (by k_extra "m facts") (by rw [← ek]; rfl)
  · refine fin_int h hA (by k_extra "m sub") (by k_extra "m facts") ?_
    rw [← ek]
    cases k with
    | zero => rfl
    | succ k' =>
      have z : ¬ (xs.getD (k' + 1) (0, false)).1 = 0 := by
        have e : (((k' + 1 : Nat) : Int)).toNat = k' + 1 := by omega
        simp only [e] at *
        assumption
      rw [degX, if_neg z]
local macro_rules | `(tactic| walk_at "call ref") => `(tactic| ((with_reducible rename At _ _ _ _ => $(Lean.mkIdent `hA):ident); refine r_use ?_; refine' s_degX ?W ?hk $(Lean.mkIdent `hA):ident ?hm ?hi ?h0 ?h1 ?_; (case W => assumption); (case hk => k_extra "m ok"); (case hm => k_extra "m mem"); (case hi => k_extra "m mem"); (case h0 => k_extra "m lens"); (case h1 => k_extra "m lens"); clear $(Lean.mkIdent `hA):ident; intro $(Lean.mkIdent `t9):ident $(Lean.mkIdent `s9):ident $(Lean.mkIdent `hA):ident))
end
section
local macro_rules | `(tactic| walk_at "compareOp Eq int") => `(tactic| ((with_reducible rename At _ _ _ _ => $(Lean.mkIdent `hA):ident); refine' x_eqI ?W ?hk $(Lean.mkIdent `hA):ident ?hm ?_; (case W => assumption); (case hk => k_extra "m ok"); (case hm => k_extra "m mem"); clear $(Lean.mkIdent `hA):ident; intro $(Lean.mkIdent `s9):ident $(Lean.mkIdent `hA):ident))
local macro_rules | `(tactic| walk_at "subscriptTail") => `(tactic| ((with_reducible rename At _ _ _ _ => $(Lean.mkIdent `hA):ident); (with_reducible show wpAny _ _ (subscriptTail _ _ (Value.ref _) (Value.int _ _)) _ _ _); (first | refine r_itemTX $(Lean.mkIdent `hA):ident (by k_extra "m mem") (by k_extra "m mem") (by k_extra "m lenI") (by k_extra "m lenI") (by k_extra "m size") ?_ rfl | refine r_itemLX $(Lean.mkIdent `hA):ident (by k_extra "m pl") (by k_extra "m mem") (by k_extra "m lenI") (by k_extra "m lenI") (by k_extra "m size") ?_ rfl); clear $(Lean.mkIdent `hA):ident; intro $(Lean.mkIdent `v9):ident $(Lean.mkIdent `hA):ident))
local macro_rules | `(tactic| walk_at "getItem ref int") => `(tactic| ((with_reducible rename At _ _ _ _ => $(Lean.mkIdent `hA):ident); (refine r_giLX $(Lean.mkIdent `hA):ident (by k_extra "m pl") (by k_extra "m mem") (by k_extra "m lenI") (by k_extra "m lenI") (by k_extra "m size") ?_; clear $(Lean.mkIdent `hA):ident; intro $(Lean.mkIdent `v9):ident $(Lean.mkIdent `hA):ident)))
local macro_rules | `(tactic| walk_at "inplaceOp Sub") => `(tactic| ((with_reducible rename At _ _ _ _ => $(Lean.mkIdent `hA):ident); refine' x_isub ?W ?hk $(Lean.mkIdent `hA):ident ?hm ?hm2 ?hp ?_; (case W => assumption); (case hk => k_extra "m ok"); (case hm => k_extra "m mem"); (case hm2 => k_extra "m mem"); (case hp => assumption); clear $(Lean.mkIdent `hA):ident; intro $(Lean.mkIdent `v9):ident $(Lean.mkIdent `s9):ident $(Lean.mkIdent `hA):ident))
local macro_rules | `(tactic| walk_at "binaryOp Mult int") => `(tactic| ((with_reducible rename At _ _ _ _ => $(Lean.mkIdent `hA):ident); refine' x_mulI ?W ?hk $(Lean.mkIdent `hA):ident ?hm ?hp ?hj ?_; (case W => assumption); (case hk => k_extra "m ok"); (case hm => k_extra "m mem"); (case hp => assumption); (case hj => k_extra "m mulok"); clear $(Lean.mkIdent `hA):ident; intro $(Lean.mkIdent `v9):ident $(Lean.mkIdent `s9):ident $(Lean.mkIdent `hA):ident))
local macro_rules | `(tactic| walk_at "binaryOp Div") => `(tactic| ((with_reducible rename At _ _ _ _ => $(Lean.mkIdent `hA):ident); refine' x_div ?W ?hk $(Lean.mkIdent `hA):ident ?hm ?hm2 ?hy ?hn ?hn2 ?_; (case W => assumption); (case hk => k_extra "m ok"); (case hm => k_extra "m mem"); (case hm2 => k_extra "m mem"); (case hy => assumption); (case hn => assumption); (case hn2 => assumption); clear $(Lean.mkIdent `hA):ident; intro $(Lean.mkIdent `v9):ident $(Lean.mkIdent `s9):ident $(Lean.mkIdent `hA):ident))
local macro_rules | `(tactic| walk_at "call type:int") => `(tactic| ((with_reducible rename At _ _ _ _ => $(Lean.mkIdent `hA):ident); refine' x_int ?W ?hk $(Lean.mkIdent `hA):ident ?hm ?_; (case W => assumption); (case hk => k_extra "m ok"); (case hm => k_extra "m mem"); clear $(Lean.mkIdent `hA):ident; intro $(Lean.mkIdent `t9):ident $(Lean.mkIdent `s9):ident $(Lean.mkIdent `hA):ident))
local macro_rules | `(tactic| walk_at "call ref") => `(tactic| ((with_reducible rename At _ _ _ _ => $(Lean.mkIdent `hA):ident); refine r_use ?_; refine' s_degX ?W ?hk $(Lean.mkIdent `hA):ident ?hm ?hi ?h0 ?h1 ?_; (case W => assumption); (case hk => k_extra "m ok"); (case hm => k_extra "m mem"); (case hi => k_extra "m mem"); (case h0 => k_extra "m lens"); (case h1 => k_extra "m lens"); clear $(Lean.mkIdent `hA):ident; intro $(Lean.mkIdent `t9):ident $(Lean.mkIdent `s9):ident $(Lean.mkIdent `hA):ident))
variable {prog : Program} {w : World} {A : Around} {E : Value → Shared → Prop} {D : Dat} {Fs : List Fact} {R : List Res} {s : Shared} {Q : Value → Shared → Prop}
section
variable {v : Value} {x : Sx} {p k : Int} {t1 : Tok}
theorem x_isubI (W : Wd (hd.heap_39 w.params) D) (hk : Ok A 16) (H : At D Fs R s) (hm : SxF 183 p v x ∈ Fs) (hp : p ≠ 0)
    (h : ∀ v s', At D (SxF 183 p v (sxSub p x (k, false)) :: Fs) R s' → Q v s') : wpAny (model prog w) A (inplaceOp .Sub v (.int k t1)) Q E s :=
  x_isub W hk (H.sxInt k t1) (.tail _ hm) mem_hd hp fun v s' H' => h v s' (H'.sub (subf_cons mem_hd (subf_drop (subf_drop subf_refl))))
end
local macro_rules | `(tactic| walk_at "inplaceOp Sub int") => `(tactic| ((with_reducible rename At _ _ _ _ => $(Lean.mkIdent `hA):ident); refine' x_isubI ?W ?hk $(Lean.mkIdent `hA):ident ?hm ?hp ?_; (case W => assumption); (case hk => k_extra "m ok"); (case hm => k_extra "m mem"); (case hp => assumption); clear $(Lean.mkIdent `hA):ident; intro $(Lean.mkIdent `v9):ident $(Lean.mkIdent `s9):ident $(Lean.mkIdent `hA):ident))
local macro_rules | `(tactic| k_extra "m upto") => `(tactic| exact slicePick_upto _ _ (by omega))
local macro_rules | `(tactic| walk_at "call type:range") => `(tactic| ((with_reducible rename At _ _ _ _ => $(Lean.mkIdent `hA):ident); refine' r_range3 ?W $(Lean.mkIdent `hA):ident (by decide) ?n ?_; (case W => assumption); (case n => exact PyProof.noPylong_small (by decide)); clear $(Lean.mkIdent `hA):ident; intro $(Lean.mkIdent `r9):ident $(Lean.mkIdent `s9):ident $(Lean.mkIdent `hA):ident))
theorem degX_le (xs : List Sx) (k : Nat) : degX xs k ≤ k := by
  induction k with
  | zero => exact Nat.le_refl _
  | succ k ih => rw [degX]; split <;> omega
theorem degI_le (xs : List Int) (k : Nat) : degI xs k ≤ k := by
  induction k with
  | zero => exact Nat.le_refl _
  | succ k ih => rw [degI]; split <;> omega
local macro_rules | `(tactic| walk_at "call ref") => `(tactic| ((with_reducible rename At _ _ _ _ => $(Lean.mkIdent `hA):ident); refine r_use ?_; refine' s_degI ?W ?hk $(Lean.mkIdent `hA):ident ?hm ?hi ?h0 ?h1 ?_; (case W => assumption); (case hk => k_extra "m ok"); (case hm => k_extra "m mem"); (case hi => k_extra "m ints"); (case h0 => k_extra "m lens"); (case h1 => k_extra "m lens"); clear $(Lean.mkIdent `hA):ident; intro $(Lean.mkIdent `t9):ident $(Lean.mkIdent `s9):ident $(Lean.mkIdent `hA):ident))
/-- poly_rounded_div, plain -/
def prdC (p : Int) (o : List Int) (i : Nat) (tmp : List Sx) (c : Nat) : List Sx := tmp.set (c + i) (sxSub p (tmp.getD (c + i) (0, false)) (o.getD c 0, false))
def prdI (p : Int) (ys : List Sx) (db : Nat) (st : List Int × List Sx) (i : Nat) : List Int × List Sx :=
  (st.1.set i (st.1.getD i 0 + sxDiv p (st.2.getD (db + i) (0, false)) (ys.getD db (0, false)).1),
   (List.range (db + 1)).foldl (prdC p (st.1.set i (st.1.getD i 0 + sxDiv p (st.2.getD (db + i) (0, false)) (ys.getD db (0, false)).1)) i) st.2)
def prdS (p : Int) (xs ys : List Sx) (da db k : Nat) : List Int × List Sx := (List.range k).foldl (fun st j => prdI p ys db st (da - db - j)) (List.replicate xs.length 0, xs)
def prd (p : Int) (xs ys : List Sx) : List Int :=
  let o := (prdS p xs ys (degX xs (xs.length - 1)) (degX ys (ys.length - 1)) (degX xs (xs.length - 1) + 1 - degX ys (ys.length - 1))).1
  o.take (degI o (o.length - 1) + 1)
theorem foldl_range_succG {α : Type} (f : α → Nat → α) (b : α) (i : Nat) : (List.range (i + 1)).foldl f b = f ((List.range i).foldl f b) i := by rw [List.range_succ, List.foldl_append]; rfl
theorem prdC_length (p : Int) (o : List Int) (i : Nat) (l : List Nat) (tmp : List Sx) : (l.foldl (prdC p o i) tmp).length = tmp.length := by
  induction l generalizing tmp with
  | nil => rfl
  | cons a l ih => rw [List.foldl_cons, ih]; simp [prdC]
theorem prdS_length (p : Int) (xs ys : List Sx) (da db k : Nat) : (prdS p xs ys da db k).1.length = xs.length ∧ (prdS p xs ys da db k).2.length = xs.length := by
  induction k with
  | zero => exact ⟨by simp [prdS], rfl⟩
  | succ k ih =>
    unfold prdS at ih ⊢
    rw [foldl_range_succG]
    unfold prdI
    exact ⟨by rw [List.length_set]; exact ih.1, by rw [prdC_length]; exact ih.2⟩
local macro_rules | `(tactic| k_extra "m lenI") => `(tactic| with_reducible assumption)
local macro_rules | `(tactic| k_extra "m size") => `(tactic| with_reducible assumption)
local macro_rules | `(tactic| k_extra "m len") => `(tactic| with_reducible assumption)
set_option maxHeartbeats 4000000 in
set_option maxRecDepth 100000 in
theorem s_prd {la lb : Addr} {va vb : List Value} {xs ys : List Sx} {p : Int} (W : Wd (hd.heap_39 w.params) D) (hk : Ok A 20) (H : At D Fs R s) (hn : 1 < p) (hn2 : p < 2 ^ 20) (hm : ListF la va ∈ Fs) (hi : SxsF 183 p va xs ∈ Fs) (hm2 : ListF lb vb ∈ Fs) (hi2 : SxsF 183 p vb ys ∈ Fs)
    (h0 : 0 < xs.length) (h1 : xs.length < 1000) (h2 : ys.length = xs.length) (hy : (ys.getD (degX ys (ys.length - 1)) (0, false)).2 = true)
    (h : ∀ t vs s', IntsAre vs (prd p xs ys) → At D (TupF t vs :: Fs) R s' → Q (.ref t) s') : codeAny (model prog w) A (.call (.ref 40) ⟨[.ref la, .ref lb], []⟩) (Ret Q) s := by
  have hp : p ≠ 0 := by omega
  refine' v_call [("b", .ref lb), ("a", .ref la)] ?W H hk ?ho ?hcd ?hb ?hl ?hm ?_ ?c1 ?c2 ?c3 ?c4
  k_extra "m enter"
  have hL := H.sxLen hi
  have hL2 := H.sxLen hi2
  clear H
  k_extra "wk"
  refine' r_mapK (cpG va) (hN9 false _) ⟨_, _, rfl⟩ hK9.handled hA ?g1 ?g0 ?g2 cpG.zero (fun _ _ _ q => q.len (by omega)) ?step ?done
  case g0 => decide
  case g2 => rfl
  case g1 => k_extra "m mem"
  case step =>
    clear hA
    intro C acc i ys' Gs v F s hi' hG hV H
    obtain ⟨hv, rfl⟩ := hV
    obtain ⟨_, _, rfl⟩ := id hG
    have hA := H
    clear H
    rw [List.nil_append] at hA
    k_extra "wk"
    exact hG.hold hv hA (by k_extra "m facts")
  case done =>
    clear hA
    intro C tmp ys' Gs s hG H
    obtain ⟨e1, rfl⟩ := hG.done
    rw [e1] at H
    have hA := H
    clear H
    rw [List.nil_append] at hA
    k_extra "wk"
    change At D _ _ _ at hA
    refine ⟨_, _, _, _, hA, by k_extra "m rm", fun s H => ?_⟩
    clear hA
    have hA : At D _ _ s := H
    clear H hN9
    k_extra "wk"
    have hz : (List.replicate xs.length (0 : Int)).length = va.length := by simp; omega
    refine' r_mapK (inG (List.replicate xs.length (0 : Int))) (hN9 false _) ⟨_, _, rfl⟩ hK9.handled hA ?g1 ?g0 ?g2 inG.zero (fun _ _ _ q => q.len (by omega)) ?step ?done
    case g0 => decide
    case g2 => rfl
    case g1 => k_extra "m mem"
    case step =>
      clear hA
      intro C acc i ys' Gs v F s hi' hG hV H
      obtain ⟨hv, rfl⟩ := hV
      have hA := H.nil1 hG.2.2
      clear H
      k_extra "wk"
      exact hG.hold (show (List.replicate xs.length (0 : Int))[i]? = some 0 by rw [List.getElem?_replicate, if_pos (by omega)]) hA (by k_extra "m facts")
    case done =>
    clear hA
    intro C lo vo Gs s hG H
    have hI := hG.done hz
    have hA := H.nil0 hG.2.2
    clear H
    k_extra "wk"
    change At D _ _ _ at hA
    refine ⟨_, _, _, _, hA, by k_extra "m rm", fun s H => ?_⟩
    clear hA
    have hA : At D _ _ s := H
    clear H hN9
    have hda := degX_le xs (xs.length - 1)
    have hdb := degX_le ys (ys.length - 1)
    generalize hea : degX xs (xs.length - 1) = da at *
    generalize heb : degX ys (ys.length - 1) = db at *
    k_extra "wk"
    have hcn : ((da : Int) - (db : Int) - -1).toNat = da + 1 - db := by omega
    rw [hcn] at hA hN9
    have hpl := prdS_length p xs ys da db
    refine r_for (fun j s => ∃ wo wt t1, IntsAre wo (prdS p xs ys da db j).1 ∧ At D (SxsF 183 p wt (prdS p xs ys da db j).2 :: Tru :: Fs) (RItR I9 ((da : Int) - db) (-1) (da + 1 - db) j :: Lst lo wo :: Lst tmp wt :: Vars L9 [("b", .ref lb), ("degb", .int db t1), ("temp", .ref tmp), ("o", .ref lo)] :: R) s)
      (hN9 false D.ng) ⟨_, _, rfl⟩ hK9.handled ?_ ?_ ?_
    · have H1 : At D (SxsF 183 p va (prdS p xs ys da db 0).2 :: Tru :: Fs) _ _ := hA.sub (subf_cons (.tail _ (.tail _ hi)) (by k_extra "m facts"))
      exact ⟨vo, va, _, hI, H1.to' (by k_extra "m sub") (by k_extra "m facts")⟩
    · clear hA
      obtain ⟨I1, rfl⟩ : ∃ I1, I1 = I9 := ⟨_, rfl⟩
      rintro j s hj ⟨wo, wt, t1, hwo, H⟩
      refine ⟨_, _, _, H, .tail _ (.head _), .head, ?_⟩
      rintro v F s ⟨⟨t2, rfl⟩, rfl⟩ hA
      clear H
      have ei : ((da : Int) - db + (j : Int) * -1) = ((da - db - j : Nat) : Int) := by omega
      rw [ei]
      obtain ⟨l1, l2⟩ := hpl j
      have l3 := hwo.length
      have l4 := hA.sxLen (vs := wt) (by k_extra "m mem")
      obtain ⟨i, hi3⟩ : ∃ i, i = da - db - j := ⟨_, rfl⟩
      rw [← hi3]
      have e1 := tn2 (i := db) (j := i)
      have e2 := tn1 (i := db)
      have e3 := tn1 (i := i)
      have hy' : (ys.getD ((db : Int)).toNat (0, false)).2 = true := by rw [e2]; exact hy
      have hi4 : db + i < xs.length := by omega
      have hix := ix_lt hi4
      have hdx := dx_lt hi4
      have a1 := l0 (i := i)
      have a2 := l0 (i := db)
      have a3 := l00 (i := db) (j := i)
      have a4 := lsum hi4 l2
      have a5 := lsum6 hi4 (Nat.le_of_lt h1)
      have a6 := li hix l1
      have a7 := li6 hix (Nat.le_of_lt h1)
      have a8 := li hdx h2
      have a9 := li6 hdx (Nat.le_of_lt h1)
      have a10 := liN hix (l3.trans l1)
      clear l3 l4
      k_extra "wk"
      have hcn2 : ((db : Int) + 1 - 0).toNat = db + 1 := by omega
      rw [hcn2] at hA hN9
      rw [e1, e2, e3] at hA
      generalize hov : wo.set i _ = wo2 at hA
      have hwo2 : IntsAre wo2 ((prdS p xs ys da db j).1.set i ((prdS p xs ys da db j).1.getD i 0 + sxDiv p ((prdS p xs ys da db j).2.getD (db + i) (0, false)) (ys.getD db (0, false)).1)) := hov ▸ ints_set hwo i _ _
      have hstep : prdS p xs ys da db (j + 1) = prdI p ys db (prdS p xs ys da db j) i := by unfold prdS; rw [foldl_range_succG, hi3]
      have hst1 : (prdS p xs ys da db (j + 1)).1 = (prdS p xs ys da db j).1.set i ((prdS p xs ys da db j).1.getD i 0 + sxDiv p ((prdS p xs ys da db j).2.getD (db + i) (0, false)) (ys.getD db (0, false)).1) := by rw [hstep]; rfl
      have hst2 : (prdS p xs ys da db (j + 1)).2 = (List.range (db + 1)).foldl (prdC p (prdS p xs ys da db (j + 1)).1 i) (prdS p xs ys da db j).2 := by rw [hst1, hstep]; rfl
      rw [← hst1] at hwo2
      have hl5 := (hpl (j + 1)).1
      generalize (prdS p xs ys da db (j + 1)).1 = o2 at *
      refine r_for (fun c s => ∃ wt2, At D (SxsF 183 p wt2 ((List.range c).foldl (prdC p o2 i) (prdS p xs ys da db j).2) :: Tru :: Fs) (RItR I9 0 1 (db + 1) c :: RItR I1 ((da : Int) - db) (-1) (da + 1 - db) (j + 1) :: Lst lo wo2 :: Lst tmp wt2 :: Vars L9 [("b", .ref lb), ("degb", .int db t1), ("temp", .ref tmp), ("o", .ref lo), ("i", .int i t2)] :: R) s)
        (hN9 false D.ng) ⟨_, _, rfl⟩ hK9.handled ?_ ?_ ?_
      · have H1 : At D (SxsF 183 p wt ((List.range 0).foldl (prdC p o2 i) (prdS p xs ys da db j).2) :: Tru :: Fs) _ _ := hA.sub (subf_cons (F := SxsF 183 p wt (prdS p xs ys da db j).2) (by k_extra "m mem") (by k_extra "m facts"))
        exact ⟨wt, H1.to' (by k_extra "m sub") (by k_extra "m facts")⟩
      · clear hA
        rintro c s hc ⟨wt2, H⟩
        refine ⟨_, _, _, H, .tail _ (.head _), .head, ?_⟩
        rintro v F s ⟨⟨t3, rfl⟩, rfl⟩ hA
        clear H
        simp only [Int.zero_add, Int.mul_one]
        have l6 := prdC_length p o2 i (List.range c) (prdS p xs ys da db j).2
        have l7 := hA.sxLen (vs := wt2) (by k_extra "m mem")
        have hci := ci_lt hc hi4
        have hcx := cx_lt hc hi4
        have b1 := l0 (i := c)
        have b2 := l00 (i := c) (j := i)
        have b3 := lsum hci (l6.trans l2)
        have b4 := lsumN hci (l7.trans (l6.trans l2))
        have b5 := lsum6 hci (Nat.le_of_lt h1)
        have b6 := li hcx hl5
        have b7 := li6 hcx (Nat.le_of_lt h1)
        clear l7
        k_extra "wk"
        have e5 := tn2 (i := c) (j := i)
        have e6 := tn1 (i := c)
        rw [e5, e6] at hA
        rw [foldl_range_succG]
        exact ⟨_, (hA.sxSet (vs := wt2) (j := c + i) (by k_extra "m mem") mem_hd).to' (by k_extra "m sub") (by k_extra "m factsD")⟩
      · clear hA
        rintro s ⟨wt2, H⟩
        refine ⟨_, _, _, H, .tail _ (.head _), .head, fun s hA => ?_⟩
        clear H
        show wpAny _ _ _ _ _ _
        k_extra "wk"
        rw [← hst2] at hA
        exact ⟨wo2, wt2, _, hwo2, hA.to' (by k_extra "m sub") (by k_extra "m facts")⟩
    · clear hA
      rintro s ⟨wo, wt, t1, hwo, H⟩
      refine ⟨_, _, _, H, .tail _ (.head _), .head, fun s hA0 => ?_⟩
      clear H
      have hA := At.fzL hA0 (l := lo) (by k_extra "m rm")
      clear hA0
      have l1 := (hpl (da + 1 - db)).1
      have l3 := hwo.length
      show wpAny _ _ _ _ _ _
      k_extra "wk"
      refine h _ _ _ ?_ (At.to' hA (by k_extra "m sub") (by k_extra "m facts"))
      have e7 : ((degI (prdS p xs ys da db (da + 1 - db)).1 ((prdS p xs ys da db (da + 1 - db)).1.length - 1) : Int) + 1).toNat = degI (prdS p xs ys da db (da + 1 - db)).1 ((prdS p xs ys da db (da + 1 - db)).1.length - 1) + 1 := by omega
      rw [e7]
      unfold prd
      rw [hea, heb]
      exact hwo.take _
local macro_rules | `(tactic| walk_at "call ref") => `(tactic| ((with_reducible rename At _ _ _ _ => $(Lean.mkIdent `hA):ident); refine r_use ?_; refine' s_prd ?W ?hk $(Lean.mkIdent `hA):ident ?hn ?hn2 ?hm ?hi ?hm2 ?hi2 ?h0 ?h1 ?h2 ?hy ?_; (case W => assumption); (case hk => k_extra "m ok"); (case hn => assumption); (case hn2 => assumption); (case hm => k_extra "m mem"); (case hi => k_extra "m mem"); (case hm2 => k_extra "m mem"); (case hi2 => k_extra "m mem"); (case h0 => k_extra "m lens"); (case h1 => k_extra "m lens"); (case h2 => k_extra "m lens"); (case hy => assumption); clear $(Lean.mkIdent `hA):ident; intro $(Lean.mkIdent `l9):ident $(Lean.mkIdent `v9):ident $(Lean.mkIdent `s9):ident $(Lean.mkIdent `hi9):ident $(Lean.mkIdent `hA):ident))
end
section
local macro_rules | `(tactic| walk_at "call ref") => `(tactic| ((with_reducible rename At _ _ _ _ => $(Lean.mkIdent `hA):ident); refine r_use ?_; refine' s_FQs ?W ?hk $(Lean.mkIdent `hA):ident ?hp ?hm ?_; (case W => assumption); (case hk => k_extra "m ok"); (case hp => assumption); (case hm => k_extra "m mem"); clear $(Lean.mkIdent `hA):ident; intro $(Lean.mkIdent `x9):ident $(Lean.mkIdent `s9):ident $(Lean.mkIdent `hA):ident))
local macro_rules | `(tactic| walk_at "call ref") => `(tactic| ((with_reducible rename At _ _ _ _ => $(Lean.mkIdent `hA):ident); refine r_use ?_; refine' s_P_corr0 ?W ?hk $(Lean.mkIdent `hA):ident ?hp ?hx ?hd ?hmp ?hm ?_; (case W => assumption); (case hk => k_extra "m ok"); (case hp => assumption); (case hx => k_extra "m mem"); (case hd => k_extra "m mem"); (case hmp => exact rfl); (case hm => k_extra "m mem"); clear $(Lean.mkIdent `hA):ident; intro $(Lean.mkIdent `x9):ident $(Lean.mkIdent `s9):ident $(Lean.mkIdent `hA):ident))
local macro_rules | `(tactic| walk_at "call ref") => `(tactic| ((with_reducible rename At _ _ _ _ => $(Lean.mkIdent `hA):ident); refine r_use ?_; refine' s_P ?W ?T ?hk $(Lean.mkIdent `hA):ident ?hp ?h1 ?h2 ?h3 ?h4 ?h5 ?h6 ?_; (case W => assumption); (case T => assumption); (case hk => k_extra "m ok"); (case hp => assumption); (case h2 => k_extra "m mem"); (case h1 => k_extra "m seq"); (case h4 => assumption); (case h3 => k_extra "m seq"); (case h5 => k_extra "m lens"); (case h6 => k_extra "m lens"); clear $(Lean.mkIdent `hA):ident; intro $(Lean.mkIdent `x9):ident $(Lean.mkIdent `s9):ident $(Lean.mkIdent `hA):ident))
local macro_rules | `(tactic| walk_at "call ref") => `(tactic| ((with_reducible rename At _ _ _ _ => $(Lean.mkIdent `hA):ident); refine r_use ?_; refine' s_P_made ?W ?T ?hk $(Lean.mkIdent `hA):ident ?hp ?hm ?h1 ?h2 ?h5 ?h6 ?_; (case W => assumption); (case T => assumption); (case hk => k_extra "m ok"); (case hp => assumption); (case hm => k_extra "m mem"); (case h2 => k_extra "m mem"); (case h1 => k_extra "m seq"); (case h5 => k_extra "m lens"); (case h6 => k_extra "m lens"); clear $(Lean.mkIdent `hA):ident; intro $(Lean.mkIdent `x9):ident $(Lean.mkIdent `s9):ident $(Lean.mkIdent `hA):ident))
section
local macro_rules | `(tactic| walk_at "compareOp Eq int") => `(tactic| ((with_reducible rename At _ _ _ _ => $(Lean.mkIdent `hA):ident); refine' x_eqI ?W ?hk $(Lean.mkIdent `hA):ident ?hm ?_; (case W => assumption); (case hk => k_extra "m ok"); (case hm => k_extra "m mem"); clear $(Lean.mkIdent `hA):ident; intro $(Lean.mkIdent `s9):ident $(Lean.mkIdent `hA):ident))
local macro_rules | `(tactic| walk_at "subscriptTail") => `(tactic| ((with_reducible rename At _ _ _ _ => $(Lean.mkIdent `hA):ident); (with_reducible show wpAny _ _ (subscriptTail _ _ (Value.ref _) (Value.int _ _)) _ _ _); (first | refine r_itemTX $(Lean.mkIdent `hA):ident (by k_extra "m mem") (by k_extra "m mem") (by k_extra "m lenI") (by k_extra "m lenI") (by k_extra "m size") ?_ rfl | refine r_itemLX $(Lean.mkIdent `hA):ident (by k_extra "m pl") (by k_extra "m mem") (by k_extra "m lenI") (by k_extra "m lenI") (by k_extra "m size") ?_ rfl); clear $(Lean.mkIdent `hA):ident; intro $(Lean.mkIdent `v9):ident $(Lean.mkIdent `hA):ident))
local macro_rules | `(tactic| walk_at "getItem ref int") => `(tactic| ((with_reducible rename At _ _ _ _ => $(Lean.mkIdent `hA):ident); (refine r_giLX $(Lean.mkIdent `hA):ident (by k_extra "m pl") (by k_extra "m mem") (by k_extra "m lenI") (by k_extra "m lenI") (by k_extra "m size") ?_; clear $(Lean.mkIdent `hA):ident; intro $(Lean.mkIdent `v9):ident $(Lean.mkIdent `hA):ident)))
local macro_rules | `(tactic| walk_at "inplaceOp Sub") => `(tactic| ((with_reducible rename At _ _ _ _ => $(Lean.mkIdent `hA):ident); refine' x_isub ?W ?hk $(Lean.mkIdent `hA):ident ?hm ?hm2 ?hp ?_; (case W => assumption); (case hk => k_extra "m ok"); (case hm => k_extra "m mem"); (case hm2 => k_extra "m mem"); (case hp => assumption); clear $(Lean.mkIdent `hA):ident; intro $(Lean.mkIdent `v9):ident $(Lean.mkIdent `s9):ident $(Lean.mkIdent `hA):ident))
local macro_rules | `(tactic| walk_at "binaryOp Mult int") => `(tactic| ((with_reducible rename At _ _ _ _ => $(Lean.mkIdent `hA):ident); refine' x_mulI ?W ?hk $(Lean.mkIdent `hA):ident ?hm ?hp ?hj ?_; (case W => assumption); (case hk => k_extra "m ok"); (case hm => k_extra "m mem"); (case hp => assumption); (case hj => k_extra "m mulok"); clear $(Lean.mkIdent `hA):ident; intro $(Lean.mkIdent `v9):ident $(Lean.mkIdent `s9):ident $(Lean.mkIdent `hA):ident))
local macro_rules | `(tactic| walk_at "binaryOp Div") => `(tactic| ((with_reducible rename At _ _ _ _ => $(Lean.mkIdent `hA):ident); refine' x_div ?W ?hk $(Lean.mkIdent `hA):ident ?hm ?hm2 ?hy ?hn ?hn2 ?_; (case W => assumption); (case hk => k_extra "m ok"); (case hm => k_extra "m mem"); (case hm2 => k_extra "m mem"); (case hy => assumption); (case hn => assumption); (case hn2 => assumption); clear $(Lean.mkIdent `hA):ident; intro $(Lean.mkIdent `v9):ident $(Lean.mkIdent `s9):ident $(Lean.mkIdent `hA):ident))
local macro_rules | `(tactic| walk_at "call type:int") => `(tactic| ((with_reducible rename At _ _ _ _ => $(Lean.mkIdent `hA):ident); refine' x_int ?W ?hk $(Lean.mkIdent `hA):ident ?hm ?_; (case W => assumption); (case hk => k_extra "m ok"); (case hm => k_extra "m mem"); clear $(Lean.mkIdent `hA):ident; intro $(Lean.mkIdent `t9):ident $(Lean.mkIdent `s9):ident $(Lean.mkIdent `hA):ident))
local macro_rules | `(tactic| walk_at "call ref") => `(tactic| ((with_reducible rename At _ _ _ _ => $(Lean.mkIdent `hA):ident); refine r_use ?_; refine' s_degX ?W ?hk $(Lean.mkIdent `hA):ident ?hm ?hi ?h0 ?h1 ?_; (case W => assumption); (case hk => k_extra "m ok"); (case hm => k_extra "m mem"); (case hi => k_extra "m mem"); (case h0 => k_extra "m lens"); (case h1 => k_extra "m lens"); clear $(Lean.mkIdent `hA):ident; intro $(Lean.mkIdent `t9):ident $(Lean.mkIdent `s9):ident $(Lean.mkIdent `hA):ident))
local macro_rules | `(tactic| walk_at "inplaceOp Sub int") => `(tactic| ((with_reducible rename At _ _ _ _ => $(Lean.mkIdent `hA):ident); refine' x_isubI ?W ?hk $(Lean.mkIdent `hA):ident ?hm ?hp ?_; (case W => assumption); (case hk => k_extra "m ok"); (case hm => k_extra "m mem"); (case hp => assumption); clear $(Lean.mkIdent `hA):ident; intro $(Lean.mkIdent `v9):ident $(Lean.mkIdent `s9):ident $(Lean.mkIdent `hA):ident))
local macro_rules | `(tactic| k_extra "m upto") => `(tactic| exact slicePick_upto _ _ (by omega))
local macro_rules | `(tactic| walk_at "call type:range") => `(tactic| ((with_reducible rename At _ _ _ _ => $(Lean.mkIdent `hA):ident); refine' r_range3 ?W $(Lean.mkIdent `hA):ident (by decide) ?n ?_; (case W => assumption); (case n => exact PyProof.noPylong_small (by decide)); clear $(Lean.mkIdent `hA):ident; intro $(Lean.mkIdent `r9):ident $(Lean.mkIdent `s9):ident $(Lean.mkIdent `hA):ident))
local macro_rules | `(tactic| walk_at "call ref") => `(tactic| ((with_reducible rename At _ _ _ _ => $(Lean.mkIdent `hA):ident); refine r_use ?_; refine' s_degI ?W ?hk $(Lean.mkIdent `hA):ident ?hm ?hi ?h0 ?h1 ?_; (case W => assumption); (case hk => k_extra "m ok"); (case hm => k_extra "m mem"); (case hi => k_extra "m ints"); (case h0 => k_extra "m lens"); (case h1 => k_extra "m lens"); clear $(Lean.mkIdent `hA):ident; intro $(Lean.mkIdent `t9):ident $(Lean.mkIdent `s9):ident $(Lean.mkIdent `hA):ident))
local macro_rules | `(tactic| k_extra "m lenI") => `(tactic| with_reducible assumption)
local macro_rules | `(tactic| k_extra "m size") => `(tactic| with_reducible assumption)
local macro_rules | `(tactic| k_extra "m len") => `(tactic| with_reducible assumption)
local macro_rules | `(tactic| walk_at "call ref") => `(tactic| ((with_reducible rename At _ _ _ _ => $(Lean.mkIdent `hA):ident); refine r_use ?_; refine' s_prd ?W ?hk $(Lean.mkIdent `hA):ident ?hn ?hn2 ?hm ?hi ?hm2 ?hi2 ?h0 ?h1 ?h2 ?hy ?_; (case W => assumption); (case hk => k_extra "m ok"); (case hn => assumption); (case hn2 => assumption); (case hm => k_extra "m mem"); (case hi => k_extra "m mem"); (case hm2 => k_extra "m mem"); (case hi2 => k_extra "m mem"); (case h0 => k_extra "m lens"); (case h1 => k_extra "m lens"); (case h2 => k_extra "m lens"); (case hy => assumption); clear $(Lean.mkIdent `hA):ident; intro $(Lean.mkIdent `l9):ident $(Lean.mkIdent `v9):ident $(Lean.mkIdent `s9):ident $(Lean.mkIdent `hi9):ident $(Lean.mkIdent `hA):ident))
section
variable {prog : Program} {w : World} {A : Around} {E : Value → Shared → Prop} {D : Dat} {Fs : List Fact} {R : List Res} {s : Shared} {Q : Value → Shared → Prop}
theorem ine_eq {a b : Int} {P Q : Prop} (h : a = b) (q : Q) : if (a != b) = true then P else Q := by
  rw [if_neg (by simp [h])]; exact q
local macro_rules | `(tactic| walk_at "ite") => `(tactic| ((with_reducible refine' ine_eq ?h ?_); (case h => omega)))
local macro_rules | `(tactic| walk_at "call builtin:isinstance") => `(tactic| ((with_reducible rename At _ _ _ _ => $(Lean.mkIdent `hA):ident); refine' r_isi_intT (K := ?K) ?W $(Lean.mkIdent `hA):ident ?ht ?e ?_; (case W => assumption); (case ht => k_extra "m mem"); (case e => kit_is); clear $(Lean.mkIdent `hA):ident; intro $(Lean.mkIdent `s9):ident $(Lean.mkIdent `hA):ident))
local macro_rules | `(tactic| walk_at "binaryOp Div ref int") => `(tactic| ((with_reducible rename At _ _ _ _ => $(Lean.mkIdent `hA):ident); refine' d_FQ_divI ?W ?hk $(Lean.mkIdent `hA):ident ?hm ?hp ?hn ?hn2 ?hj ?_; (case W => assumption); (case hk => k_extra "m ok"); (case hm => k_extra "m mem"); (case hp => assumption); (case hn => assumption); (case hn2 => assumption); (case hj => exact mulOk_right (by assumption)); clear $(Lean.mkIdent `hA):ident; intro $(Lean.mkIdent `x9):ident $(Lean.mkIdent `s9):ident $(Lean.mkIdent `hA):ident))
def plnDiv (p : Int) (xs : List Int) (k : Int) : List Int := xs.map fun a => rr p (a * pfi k p)
set_option maxHeartbeats 4000000 in
set_option maxRecDepth 100000 in
theorem s_P_divI {x : Addr} {ns ms : List Int} {p k : Int} {t1 : Tok} (W : Wd (hd.heap_39 w.params) D) (T : ∀ t ∈ WT, t ∈ D.tabs) (hk : Ok A 24) (H : At D Fs R s) (hn : 1 < p) (hn2 : p < 2 ^ 20) (hm : PlnF 183 297 x p ns ms ∈ Fs) (h5 : ns.length = ms.length) (h6 : ms.length < 1000)
    (h : ∀ x s', At D (PlnF 183 297 x p (plnDiv p ns k) ms :: Fs) R s' → Q (.ref x) s') : codeAny (model prog w) A (.call (.ref 242) ⟨[.ref x, .int k t1], []⟩) (Ret Q) s := by
  have hp : p ≠ 0 := by omega
  have hbq : -(2 ^ 60) < pfi k p ∧ pfi k p < 2 ^ 60 := by have := pfi_in (a := k) hn; omega
  refine' v_callc [("self", .ref x)] (fun L => [(L + 1, .int k t1)]) (fun L => []) ?W H hk ?ho ?hcd ?hb ?hl ?hm ?hcm ?hum ?hnd ?hud ?_ ?c2 ?c3 ?c4
  k_extra "m enterc"
  clear H
  k_extra "wk"
  have hlen : (plnDiv p ns k).length = ns.length := by simp [plnDiv]
  refine' r_mapK (fqG 183 p (plnDiv p ns k)) (hN9 false _) ⟨_, _, rfl⟩ hK9.handled hA ?g1 ?g0 ?g2 fqG.zero (fun _ _ _ q => q.len (by omega)) ?step ?done
  case g0 => decide
  case g2 => rfl
  case g1 => k_extra "m mem"
  case step =>
    intro C acc i ys Gs v F s hi hG hV H
    obtain ⟨hv, rfl⟩ := hV
    obtain ⟨a', na, rfl, hna, hA⟩ := (hG.start H).pickQ (vs := v9) (by k_extra "m mem") hv
    clear H
    k_extra "wk"
    exact ⟨(hG.next hA (by k_extra "m mem") (by k_extra "m mem") (by simp [plnDiv, hna]) (by k_extra "m sub") (by k_extra "m facts")).elim fun F' q => ⟨F', _, q.1, q.2⟩⟩
  case done =>
    clear hA
    intro C acc ys Gs s hG _ s H
    have H1 := hG.done H (by omega)
    have hA := At.scs (At.fzL H1 .head) (by k_extra "m mem")
    have hle := hA.len2 (vs := ys) (by k_extra "m mem")
    clear H H1
    k_extra "wk"
    exact h _ _ (At.to' hA (by k_extra "m sub") (by k_extra "m facts"))
theorem d_P_divI {x : Addr} {ns ms : List Int} {p k : Int} {t1 : Tok} (W : Wd (hd.heap_39 w.params) D) (T : ∀ t ∈ WT, t ∈ D.tabs) (hk : Ok A 24) (H : At D Fs R s) (hn : 1 < p) (hn2 : p < 2 ^ 20) (hm : PlnF 183 297 x p ns ms ∈ Fs) (h5 : ns.length = ms.length) (h6 : ms.length < 1000)
    (h : ∀ x s', At D (PlnF 183 297 x p (plnDiv p ns k) ms :: Fs) R s' → Q (.ref x) s') : wpAny (model prog w) A (binaryOp .Div (.ref x) (.int k t1)) Q E s := by
  refine' o_binT W H (F := PlnF 183 297 x p ns ms) hm .pln ?q1 ?q2 ?q3 (T := "int") rfl ?q4 (.inl rfl) ?q5 ?q6 ?q7 (r_use (s_P_divI W T hk H hn hn2 hm h5 h6 fun z s' H' => h z s' H'))
  case q1 => k_is
  case q2 => k_is
  case q3 => k_is
  case q4 => k_is
  case q5 => k_is
  case q6 => k_is
  case q7 => k_is
local macro_rules | `(tactic| walk_at "binaryOp Div ref int") => `(tactic| ((with_reducible rename At _ _ _ _ => $(Lean.mkIdent `hA):ident); refine' d_P_divI ?W ?T ?hk $(Lean.mkIdent `hA):ident ?hn ?hn2 ?hm ?h5 ?h6 ?_; (case W => assumption); (case T => assumption); (case hk => k_extra "m ok"); (case hn => assumption); (case hn2 => assumption); (case hm => k_extra "m mem"); (case h5 => k_extra "m lens"); (case h6 => k_extra "m lens"); clear $(Lean.mkIdent `hA):ident; intro $(Lean.mkIdent `x9):ident $(Lean.mkIdent `s9):ident $(Lean.mkIdent `hA):ident))
end
section
local macro_rules | `(tactic| walk_at "ite") => `(tactic| ((with_reducible refine' ine_eq ?h ?_); (case h => omega)))
local macro_rules | `(tactic| walk_at "call builtin:isinstance") => `(tactic| ((with_reducible rename At _ _ _ _ => $(Lean.mkIdent `hA):ident); refine' r_isi_intT (K := ?K) ?W $(Lean.mkIdent `hA):ident ?ht ?e ?_; (case W => assumption); (case ht => k_extra "m mem"); (case e => kit_is); clear $(Lean.mkIdent `hA):ident; intro $(Lean.mkIdent `s9):ident $(Lean.mkIdent `hA):ident))
local macro_rules | `(tactic| walk_at "binaryOp Div ref int") => `(tactic| ((with_reducible rename At _ _ _ _ => $(Lean.mkIdent `hA):ident); refine' d_FQ_divI ?W ?hk $(Lean.mkIdent `hA):ident ?hm ?hp ?hn ?hn2 ?hj ?_; (case W => assumption); (case hk => k_extra "m ok"); (case hm => k_extra "m mem"); (case hp => assumption); (case hn => assumption); (case hn2 => assumption); (case hj => exact mulOk_right (by assumption)); clear $(Lean.mkIdent `hA):ident; intro $(Lean.mkIdent `x9):ident $(Lean.mkIdent `s9):ident $(Lean.mkIdent `hA):ident))
local macro_rules | `(tactic| walk_at "binaryOp Div ref int") => `(tactic| ((with_reducible rename At _ _ _ _ => $(Lean.mkIdent `hA):ident); refine' d_P_divI ?W ?T ?hk $(Lean.mkIdent `hA):ident ?hn ?hn2 ?hm ?h5 ?h6 ?_; (case W => assumption); (case T => assumption); (case hk => k_extra "m ok"); (case hn => assumption); (case hn2 => assumption); (case hm => k_extra "m mem"); (case h5 => k_extra "m lens"); (case h6 => k_extra "m lens"); clear $(Lean.mkIdent `hA):ident; intro $(Lean.mkIdent `x9):ident $(Lean.mkIdent `s9):ident $(Lean.mkIdent `hA):ident))
section
variable {prog : Program} {w : World} {A : Around} {E : Value → Shared → Prop} {D : Dat} {Fs : List Fact} {R : List Res} {s : Shared} {Q : Value → Shared → Prop}
local macro_rules | `(tactic| k_extra "m lens2") => `(tactic| first | k_extra "m lens" | ((have hq := IntsAre.length $(Lean.mkIdent `hi9):ident); simp only [List.length_cons, List.length_nil]; omega))
local macro_rules | `(tactic| k_extra "m size") => `(tactic| ((have hq := IntsAre.length $(Lean.mkIdent `hi9):ident); (try simp only [List.length_append, List.length_cons, List.length_nil, List.length_replicate]); omega))
local macro_rules | `(tactic| walk_at "binaryOp Add ref ref") => `(tactic| ((with_reducible rename At _ _ _ _ => $(Lean.mkIdent `hA):ident); refine r_addT $(Lean.mkIdent `hA):ident (by k_extra "m mem") (by k_extra "m mem") (by k_extra "m lens2") (by k_extra "m lens2") (by k_extra "m lens2") ?_; clear $(Lean.mkIdent `hA):ident; intro $(Lean.mkIdent `y9):ident $(Lean.mkIdent `s9):ident $(Lean.mkIdent `hA):ident))
local macro_rules | `(tactic| walk_at "inplaceOp Add ref ref") => `(tactic| ((with_reducible rename At _ _ _ _ => $(Lean.mkIdent `hA):ident); refine' r_iaddL $(Lean.mkIdent `hA):ident ?rp ?hb ?hz ?_; (case rp => k_extra "m rp"); (case hb => k_extra "m pl"); (case hz => k_extra "m size"); clear $(Lean.mkIdent `hA):ident; intro $(Lean.mkIdent `s9):ident $(Lean.mkIdent `hA):ident))
local macro_rules | `(tactic| k_extra "m lenI") => `(tactic| with_reducible assumption)
local macro_rules | `(tactic| k_extra "m size") => `(tactic| with_reducible assumption)
local macro_rules | `(tactic| k_extra "m len") => `(tactic| with_reducible assumption)
/-- one step of inv's inner loop, plain -/
def ivJ (p : Int) (lm : List Int) (low : List Sx) (r : List Int) (i : Nat) (st : List Int × List Sx) (j : Nat) : List Int × List Sx :=
  (st.1.set (i + j) (st.1.getD (i + j) 0 - lm.getD i 0 * r.getD j 0), st.2.set (i + j) (sxSub p (st.2.getD (i + j) (0, false)) (sxMul p (low.getD i (0, false)) (r.getD j 0))))
def ivI (p : Int) (n : Nat) (lm : List Int) (low : List Sx) (r : List Int) (st : List Int × List Sx) (i : Nat) : List Int × List Sx := (List.range (n - i)).foldl (ivJ p lm low r i) st
def ivR (p : Int) (n : Nat) (low high : List Sx) : List Int := prd p high low ++ List.replicate (n - (prd p high low).length) 0
def ivS (p : Int) (n : Nat) (lm : List Int) (low : List Sx) (hm : List Int) (high : List Sx) (k : Nat) : List Int × List Sx := (List.range k).foldl (ivI p n lm low (ivR p n low high)) (hm, high)
def bdB (l : List Int) : Bool := l.all fun x => decide (-(2 ^ 60) < x ∧ x < 2 ^ 60)
theorem bdB_iff {l : List Int} (h : bdB l = true) : Bd l := fun x hx => by simpa using List.all_eq_true.mp h x hx
/-- inv's loop: the last lm and low[0] -/
def ivGo (p : Int) (n : Nat) : Nat → List Int → List Sx → List Int → List Sx → Option (List Int × Sx)
  | 0, lm, low, _, _ => if degX low (n - 1) = 0 then some (lm, low.getD 0 (0, false)) else none
  | k + 1, lm, low, hm, high => if degX low (n - 1) = 0 then some (lm, low.getD 0 (0, false)) else
      if (low.getD (degX low (n - 1)) (0, false)).2 = true ∧ bdB (ivR p n low high) = true then ivGo p n k (ivS p n lm low hm high n).1 (ivS p n lm low hm high n).2 lm low else none
theorem prd_length (p : Int) (xs ys : List Sx) : (prd p xs ys).length ≤ xs.length := by
  unfold prd
  rw [List.length_take, (prdS_length _ _ _ _ _ _).1]
  exact Nat.min_le_right _ _
theorem ivJ_length (p : Int) (lm : List Int) (low : List Sx) (r : List Int) (i : Nat) (l : List Nat) (st : List Int × List Sx) : (l.foldl (ivJ p lm low r i) st).1.length = st.1.length ∧ (l.foldl (ivJ p lm low r i) st).2.length = st.2.length := by
  induction l generalizing st with
  | nil => exact ⟨rfl, rfl⟩
  | cons a l ih => rw [List.foldl_cons]; have := ih (ivJ p lm low r i st a); simpa [ivJ] using this
theorem ivS_length (p : Int) (n : Nat) (lm : List Int) (low : List Sx) (hm : List Int) (high : List Sx) (k : Nat) : (ivS p n lm low hm high k).1.length = hm.length ∧ (ivS p n lm low hm high k).2.length = high.length := by
  induction k with
  | zero => exact ⟨rfl, rfl⟩
  | succ k ih =>
    unfold ivS at ih ⊢
    rw [foldl_range_succG]
    unfold ivI at ih ⊢
    have q := ivJ_length p lm low (ivR p n low high) k (List.range (n - k)) ((List.range k).foldl (fun st i => (List.range (n - i)).foldl (ivJ p lm low (ivR p n low high) i) st) (hm, high))
    exact ⟨q.1.trans ih.1, q.2.trans ih.2⟩
theorem ivGo_step {p : Int} {n k : Nat} {lm hm : List Int} {low high : List Sx} {r : List Int × Sx} (h : ivGo p n k lm low hm high = some r) (hd : ¬ degX low (n - 1) = 0) :
    ∃ k', k = k' + 1 ∧ (low.getD (degX low (n - 1)) (0, false)).2 = true ∧ Bd (ivR p n low high) ∧ ivGo p n k' (ivS p n lm low hm high n).1 (ivS p n lm low hm high n).2 lm low = some r := by
  cases k with
  | zero => rw [ivGo, if_neg hd] at h; cases h
  | succ k =>
    rw [ivGo, if_neg hd] at h
    by_cases c : (low.getD (degX low (n - 1)) (0, false)).2 = true ∧ bdB (ivR p n low high) = true
    · rw [if_pos c] at h; exact ⟨k, rfl, c.1, bdB_iff c.2, h⟩
    · rw [if_neg c] at h; cases h
theorem ivGo_end {p : Int} {n k : Nat} {lm hm lmF : List Int} {low high : List Sx} {xF : Sx} (h : ivGo p n k lm low hm high = some (lmF, xF)) (hd : degX low (n - 1) = 0) : lmF = lm ∧ xF = low.getD 0 (0, false) := by
  cases k <;> rw [ivGo, if_pos hd] at h <;> cases h <;> exact ⟨rfl, rfl⟩
theorem ints_one (t : Tok) : IntsAre [.int 1 t] [1] := .cons _ _ .nil
theorem ints_zero (t : Tok) : IntsAre [.int 0 t] [0] := .cons _ _ .nil
theorem inv_start {C a b c z e : Addr} {p : Int} {v u zz : List Value} {t t' t2 t3 t4 : Tok} {k k2 : Nat} {ns ms : List Int} (H : At D Fs (Lst a (v ++ [.int 1 t]) :: Lst b (u ++ [.int 0 t']) :: Lst c (List.replicate k (.int 0 t2)) :: Lst z zz :: Lst e ([.int 1 t3] ++ List.replicate k2 (.int 0 t4)) :: R) s) (hq : FQsF C p u ns ∈ Fs) (hi : IntsAre v ms) :
    ∃ va vb vc ve, IntsAre ve ([1] ++ List.replicate k2 0) ∧ IntsAre vc (List.replicate k 0) ∧ At D (ListF a va :: SxsF C p va (ms.map (fun n => (n, false)) ++ [(1, false)]) :: ListF b vb :: SxsF C p vb (ns.map (fun n => (n, true)) ++ [(0, false)]) :: ListF c vc :: ListF e ve :: Fs) R s := by
  have H4 := At.fzL (At.fzL (At.fzL (At.fzL H .head) .head) .head) (.tail .head)
  have hq' : FQsF C p u ns ∈ _ := hq
  have H5 : At D (SxsF C p [.int 1 t] [(1, false)] :: _) _ _ := H4.sxInts (C := C) (p := p) (ints_one t)
  have H6 : At D (SxsF C p [.int 0 t'] [(0, false)] :: _) _ _ := H5.sxInts (C := C) (p := p) (ints_zero t')
  have H7 := H6.sxFQs (C := C) (p := p) (vs := u) (ns := ns) (.tail _ (.tail _ (.tail _ (.tail _ (.tail _ (.tail _ hq))))))
  have H8 := H7.sxInts (C := C) (p := p) hi
  have H9 := H8.sxApp (vs := u) (ws := [.int 0 t']) (xs := ns.map (fun n => (n, true))) (ys := [(0, false)]) (by k_extra "m mem") (by k_extra "m mem")
  have H10 := H9.sxApp (vs := v) (ws := [.int 1 t]) (xs := ms.map (fun n => (n, false))) (ys := [(1, false)]) (by k_extra "m mem") (by k_extra "m mem")
  exact ⟨_, _, _, _, (IntsAre.cons _ _ .nil).append (ints_rep _ _ _), ints_rep _ _ _, (H10.to' (Sub.drop (Sub.refl _)) (by k_extra "m facts"))⟩
def InvSt (D : Dat) (Fs : List Fact) (R : List Res) (L x : Addr) (p : Int) (lm : List Int) (low : List Sx) (hm : List Int) (high : List Sx) (s : Shared) : Prop :=
  ∃ a b c e va vb vc ve, IntsAre ve lm ∧ IntsAre vc hm ∧ At D (ListF a va :: SxsF 183 p va high :: ListF b vb :: SxsF 183 p vb low :: ListF c vc :: ListF e ve :: Fs) (Vars L [("self", .ref x), ("lm", .ref e), ("hm", .ref c), ("low", .ref b), ("high", .ref a)] :: R) s
theorem ine_ne {a b : Int} {P Q : Prop} (h : ¬ a = b) (q : P) : if (a != b) = true then P else Q := by
  rw [if_pos (by simp [h])]; exact q
local macro_rules | `(tactic| walk_at "ite") => `(tactic| ((with_reducible refine' ine_ne ?h ?_); (case h => omega)))
theorem use_body {K : Frag} {f : Addr} {P : List Stmt → Scope → Str → Value → Prop} {n1 q1 : Str} {p1 : Arguments} {b1 : List Stmt} {s1 : Scope} {dV1 kV1 d1 pm1 cd1 ct1 oc1 : Value} {an1 od1 : Option Addr} {ol1 : Array (Option Value)}
    {n2 q2 : Str} {p2 : Arguments} {b2 : List Stmt} {s2 : Scope} {dV2 kV2 d2 pm2 cd2 ct2 oc2 : Value} {an2 od2 : Option Addr} {ol2 : Array (Option Value)}
    (h1 : K.lookup f = some ⟨oc1, od1, .func (fnOf n1 q1 p1 b1 s1 dV1 kV1 d1 pm1 an1 cd1 ct1), ol1⟩) (h2 : K.lookup f = some ⟨oc2, od2, .func (fnOf n2 q2 p2 b2 s2 dV2 kV2 d2 pm2 an2 cd2 ct2), ol2⟩) (h : P b1 s1 q1 cd1) : P b2 s2 q2 cd2 := by
  rw [h1] at h2
  simp only [Option.some.injEq, Obj.mk.injEq, Data.func.injEq, FuncData.mk.injEq, FuncBody.stmts.injEq] at h2
  obtain ⟨_, _, ⟨_, rfl, _, rfl, rfl, _, _, _, _, _, _, _, rfl, _, _⟩, _⟩ := h2
  exact h
/-- the body of the while loop that stands third -/
def wbOf (b : List Stmt) : List Stmt := match b.drop 2 with
  | .While _ wb _ _ :: _ => wb
  | _ => []
set_option maxHeartbeats 4000000 in
set_option maxRecDepth 100000 in
theorem inv_for {name qual : Str} {params : Arguments} {body rest : List Stmt} {scope : Scope} {dV kV doc pm cdv ct oc : Value} {an od : Option Addr} {osl : Array (Option Value)} {L9 x a b c e lr nm new : Addr} {ns ms lm hm : List Int} {low high : List Sx} {va vb vc ve vr : List Value} {p : Int} {Qf : Flow → Shared → Prop}
    (ho : (hd.heap_39 w.params).lookup 254 = some ⟨oc, od, .func (fnOf name qual params body scope dV kV doc pm an cdv ct), osl⟩) (hr : (wbOf body).drop 5 = rest)
    (W : Wd (hd.heap_39 w.params) D) (hK9 : Ok (A.deeper (envOf qual scope L9 254 cdv)) 39) (hn : 1 < p) (hn2 : p < 2 ^ 20) (hm0 : PlnF 183 297 x p ns ms ∈ Fs) (h6 : ms.length < 900)
    (l1 : lm.length = ms.length + 1) (l2 : low.length = ms.length + 1) (l3 : hm.length = ms.length + 1) (l4 : high.length = ms.length + 1)
    (m1 : SxsF 183 p va high ∈ Fs) (m2 : ListF b vb ∈ Fs) (m3 : SxsF 183 p vb low ∈ Fs) (m4 : ListF e ve ∈ Fs) (q1 : IntsAre ve lm) (q2 : IntsAre vc hm) (q3 : IntsAre vr (ivR p (ms.length + 1) low high)) (hb : Bd (ivR p (ms.length + 1) low high))
    (H : At D Fs (Lst new va :: Lst nm vc :: Lst lr vr :: Vars L9 [("self", .ref x), ("lm", .ref e), ("hm", .ref c), ("low", .ref b), ("high", .ref a), ("r", .ref lr), ("nm", .ref nm), ("new", .ref new)] :: R) s)
    (h : ∀ vn vw s', IntsAre vn (ivS p (ms.length + 1) lm low hm high (ms.length + 1)).1 → At D (ListF new vw :: ListF nm vn :: SxsF 183 p vw (ivS p (ms.length + 1) lm low hm high (ms.length + 1)).2 :: Fs) (Vars L9 [("self", .ref x), ("lm", .ref nm), ("hm", .ref e), ("low", .ref new), ("high", .ref b)] :: R) s' → Qf .next s') :
    wpAny (model prog w) (A.deeper (envOf qual scope L9 254 cdv)) (execs rest (envOf qual scope L9 254 cdv)) Qf (fun _ _ => False) s := by
  subst hr
  refine' use_body (P := fun b sc q c => Ok (A.deeper (envOf q sc L9 254 c)) 39 → wpAny (model prog w) (A.deeper (envOf q sc L9 254 c)) (execs ((wbOf b).drop 5) (envOf q sc L9 254 c)) Qf (fun _ _ => False) s) ?h1 ho ?_ hK9
  case h1 => k_is
  clear hK9 ho
  intro hK9
  dsimp only [List.drop, wbOf]
  w_top off
  have hp : p ≠ 0 := by omega
  have lr1 : (ivR p (ms.length + 1) low high).length = ms.length + 1 := by
    have := prd_length p high low
    unfold ivR; rw [List.length_append, List.length_replicate]; omega
  generalize hrr : ivR p (ms.length + 1) low high = rr9 at *
  have hA := H
  clear H
  k_extra "wk"
  have hcn : ((ms.length : Int) + 1 - 0).toNat = ms.length + 1 := by omega
  rw [hcn] at hA hN9
  have hS : ∀ i, ivS p (ms.length + 1) lm low hm high (i + 1) = ivI p (ms.length + 1) lm low rr9 (ivS p (ms.length + 1) lm low hm high i) i := fun i => by unfold ivS; rw [foldl_range_succG, hrr]
  have hSl := ivS_length p (ms.length + 1) lm low hm high
  have hS0 : ivS p (ms.length + 1) lm low hm high 0 = (hm, high) := rfl
  generalize hSe : ivS p (ms.length + 1) lm low hm high = S at *
  refine r_for (fun i s => ∃ wn ww, IntsAre wn (S i).1 ∧ At D (SxsF 183 p ww (S i).2 :: Tru :: Fs) (RItR I9 0 1 (ms.length + 1) i :: Lst new ww :: Lst nm wn :: Lst lr vr :: Vars L9 [("self", .ref x), ("lm", .ref e), ("hm", .ref c), ("low", .ref b), ("high", .ref a), ("r", .ref lr), ("nm", .ref nm), ("new", .ref new)] :: R) s)
      (hN9 false D.ng) ⟨_, _, rfl⟩ hK9.handled ?_ ?_ ?_
  · have H1 : At D (SxsF 183 p va (S 0).2 :: Tru :: Fs) _ _ := hA.sub (subf_cons (F := SxsF 183 p va (S 0).2) (by rw [hS0]; k_extra "m mem") (by k_extra "m facts"))
    exact ⟨vc, va, by rw [hS0]; exact q2, H1.to' (by k_extra "m sub") (by k_extra "m facts")⟩
  · clear hA
    obtain ⟨I1, rfl⟩ : ∃ I1, I1 = I9 := ⟨_, rfl⟩
    rintro i s hi ⟨wn, ww, hwn, H⟩
    refine ⟨_, _, _, H, .tail _ (.head _), .head, ?_⟩
    rintro v F s ⟨⟨t1, rfl⟩, rfl⟩ hA
    clear H
    simp only [Int.zero_add, Int.mul_one]
    k_extra "wk"
    have hcn2 : ((ms.length : Int) + 1 - (i : Int) - 0).toNat = ms.length + 1 - i := by omega
    rw [hcn2] at hA hN9
    have hSi := hS i
    obtain ⟨k1, k2⟩ := hSl i
    generalize S i = st at *
    refine r_for (fun j s => ∃ wn ww, IntsAre wn ((List.range j).foldl (ivJ p lm low rr9 i) st).1 ∧ At D (SxsF 183 p ww ((List.range j).foldl (ivJ p lm low rr9 i) st).2 :: Tru :: Fs) (RItR I9 0 1 (ms.length + 1 - i) j :: RItR I1 0 1 (ms.length + 1) (i + 1) :: Lst new ww :: Lst nm wn :: Lst lr vr :: Vars L9 [("self", .ref x), ("lm", .ref e), ("hm", .ref c), ("low", .ref b), ("high", .ref a), ("r", .ref lr), ("nm", .ref nm), ("new", .ref new), ("i", .int i t1)] :: R) s)
      (hN9 false D.ng) ⟨_, _, rfl⟩ hK9.handled ?_ ?_ ?_
    · have H1 : At D (SxsF 183 p ww ((List.range 0).foldl (ivJ p lm low rr9 i) st).2 :: Tru :: Fs) _ _ := hA.sub (subf_cons (F := SxsF 183 p ww st.2) (by k_extra "m mem") (by k_extra "m facts"))
      exact ⟨wn, ww, hwn, H1.to' (by k_extra "m sub") (by k_extra "m facts")⟩
    · clear hA
      rintro j s hj ⟨xn, xw, hxn, H⟩
      refine ⟨_, _, _, H, .tail _ (.head _), .head, ?_⟩
      rintro v F s ⟨⟨t2, rfl⟩, rfl⟩ hA
      clear H
      simp only [Int.zero_add, Int.mul_one]
      obtain ⟨j1, j2⟩ := ivJ_length p lm low rr9 i (List.range j) st
      have hm1 := mulOk_right (a := lm.getD ((i : Int)).toNat 0) (hb.getD ((j : Int)).toNat)
      have hm2 := mulOk_right (a := (low.getD ((i : Int)).toNat (0, false)).1) (hb.getD ((j : Int)).toNat)
      have z2 := hA.sxLen (vs := xw) (by k_extra "m mem")
      have b1 := l0 (i := i)
      have b2 := l0 (i := j)
      have b3 := l00 (i := i) (j := j)
      have n6 : ms.length + 1 ≤ 1000 := by omega
      have b4 := lij6 hj n6
      have b5 := li6 hi n6
      have hj2 : j < ms.length + 1 := by omega
      have b6 := li6 hj2 n6
      have b7 := li hi l1
      have b8 := li hi l2
      have b9 := li hj2 lr1
      have hfo : (List.range (j + 1)).foldl (ivJ p lm low rr9 i) st = ivJ p lm low rr9 i ((List.range j).foldl (ivJ p lm low rr9 i) st) j := foldl_range_succG _ _ _
      generalize (List.range j).foldl (ivJ p lm low rr9 i) st = st2 at *
      clear hcn hcn2
      have c1 := lij hj ((j1.trans k1).trans l3)
      have c2 := lij hj ((j2.trans k2).trans l4)
      have c3 := lijN hj (hxn.length.trans ((j1.trans k1).trans l3))
      have c4 := lijN hj (z2.trans ((j2.trans k2).trans l4))
      clear z2
      k_extra "wk"
      have e1 := tn2 (i := i) (j := j)
      have e2 := tn1 (i := i)
      have e3 := tn1 (i := j)
      rw [hfo]
      rw [e1, e2, e3] at hA
      exact ⟨_, _, ints_set hxn (i + j) _ _, (hA.sxSet (vs := xw) (j := i + j) (by k_extra "m mem") mem_hd).to' (by k_extra "m sub") (by k_extra "m factsD")⟩
    · clear hA
      rintro s ⟨xn, xw, hxn, H⟩
      refine ⟨_, _, _, H, .tail _ (.head _), .head, fun s hA => ?_⟩
      clear H
      show wpAny _ _ _ _ _ _
      k_extra "wk"
      have hSi' : S (i + 1) = (List.range (ms.length + 1 - i)).foldl (ivJ p lm low rr9 i) st := hSi
      rw [hSi']
      exact ⟨xn, xw, hxn, hA.to' (by k_extra "m sub") (by k_extra "m facts")⟩
  · clear hA
    rintro s ⟨xn, xw, hxn, H⟩
    refine ⟨_, _, _, H, .tail _ (.head _), .head, fun s hA0 => ?_⟩
    clear H
    have hA := At.fzL (At.fzL hA0 (l := nm) (by k_extra "m rm")) (l := new) (by k_extra "m rm")
    clear hA0
    show wpAny _ _ _ _ _ _
    k_extra "wk"
    exact h xn xw _ hxn (hA.to' (by k_extra "m sub") (by k_extra "m facts"))
end
section
local macro_rules | `(tactic| k_extra "m lens2") => `(tactic| first | k_extra "m lens" | ((have hq := IntsAre.length $(Lean.mkIdent `hi9):ident); simp only [List.length_cons, List.length_nil]; omega))
local macro_rules | `(tactic| k_extra "m size") => `(tactic| ((have hq := IntsAre.length $(Lean.mkIdent `hi9):ident); (try simp only [List.length_append, List.length_cons, List.length_nil, List.length_replicate]); omega))
local macro_rules | `(tactic| walk_at "binaryOp Add ref ref") => `(tactic| ((with_reducible rename At _ _ _ _ => $(Lean.mkIdent `hA):ident); refine r_addT $(Lean.mkIdent `hA):ident (by k_extra "m mem") (by k_extra "m mem") (by k_extra "m lens2") (by k_extra "m lens2") (by k_extra "m lens2") ?_; clear $(Lean.mkIdent `hA):ident; intro $(Lean.mkIdent `y9):ident $(Lean.mkIdent `s9):ident $(Lean.mkIdent `hA):ident))
local macro_rules | `(tactic| walk_at "inplaceOp Add ref ref") => `(tactic| ((with_reducible rename At _ _ _ _ => $(Lean.mkIdent `hA):ident); refine' r_iaddL $(Lean.mkIdent `hA):ident ?rp ?hb ?hz ?_; (case rp => k_extra "m rp"); (case hb => k_extra "m pl"); (case hz => k_extra "m size"); clear $(Lean.mkIdent `hA):ident; intro $(Lean.mkIdent `s9):ident $(Lean.mkIdent `hA):ident))
local macro_rules | `(tactic| k_extra "m lenI") => `(tactic| with_reducible assumption)
local macro_rules | `(tactic| k_extra "m size") => `(tactic| with_reducible assumption)
local macro_rules | `(tactic| k_extra "m len") => `(tactic| with_reducible assumption)
local macro_rules | `(tactic| walk_at "ite") => `(tactic| ((with_reducible refine' ine_ne ?h ?_); (case h => omega)))
variable {prog : Program} {w : World} {A : Around} {E : Value → Shared → Prop} {D : Dat} {Fs : List Fact} {R : List Res} {s : Shared} {Q : Value → Shared → Prop}
set_option maxHeartbeats 4000000 in
set_option maxRecDepth 100000 in
theorem inv_turn {name qual : Str} {params : Arguments} {body rest : List Stmt} {scope : Scope} {dV kV doc pm cdv ct oc : Value} {an od : Option Addr} {osl : Array (Option Value)} {L9 x a b c e : Addr} {ns ms lm hm : List Int} {low high : List Sx} {va vb vc ve : List Value} {p : Int} {Qf : Flow → Shared → Prop}
    (ho : (hd.heap_39 w.params).lookup 254 = some ⟨oc, od, .func (fnOf name qual params body scope dV kV doc pm an cdv ct), osl⟩) (hr : wbOf body = rest)
    (W : Wd (hd.heap_39 w.params) D) (hK9 : Ok (A.deeper (envOf qual scope L9 254 cdv)) 39) (hn : 1 < p) (hn2 : p < 2 ^ 20) (hm0 : PlnF 183 297 x p ns ms ∈ Fs) (h6 : ms.length < 900)
    (l1 : lm.length = ms.length + 1) (l2 : low.length = ms.length + 1) (l3 : hm.length = ms.length + 1) (l4 : high.length = ms.length + 1)
    (m0 : ListF a va ∈ Fs) (m1 : SxsF 183 p va high ∈ Fs) (m2 : ListF b vb ∈ Fs) (m3 : SxsF 183 p vb low ∈ Fs) (m5 : ListF c vc ∈ Fs) (m4 : ListF e ve ∈ Fs) (q1 : IntsAre ve lm) (q2 : IntsAre vc hm) (hb : Bd (ivR p (ms.length + 1) low high))
    (hy' : (low.getD (degX low (low.length - 1)) (0, false)).2 = true)
    (H : At D Fs (Vars L9 [("self", .ref x), ("lm", .ref e), ("hm", .ref c), ("low", .ref b), ("high", .ref a)] :: R) s)
    (h : ∀ vn vw nm new s', IntsAre vn (ivS p (ms.length + 1) lm low hm high (ms.length + 1)).1 → At D (ListF new vw :: ListF nm vn :: SxsF 183 p vw (ivS p (ms.length + 1) lm low hm high (ms.length + 1)).2 :: Fs) (Vars L9 [("self", .ref x), ("lm", .ref nm), ("hm", .ref e), ("low", .ref new), ("high", .ref b)] :: R) s' → Qf .next s') :
    wpAny (model prog w) (A.deeper (envOf qual scope L9 254 cdv)) (execs rest (envOf qual scope L9 254 cdv)) Qf (fun _ _ => False) s := by
  subst hr
  have hp : p ≠ 0 := by omega
  refine' use_body (P := fun b sc q c => Ok (A.deeper (envOf q sc L9 254 c)) 39 → wpAny (model prog w) (A.deeper (envOf q sc L9 254 c)) (execs (wbOf b) (envOf q sc L9 254 c)) Qf (fun _ _ => False) s) ?h1 ho ?_ hK9
  case h1 => k_is
  clear hK9 ho
  intro hK9
  dsimp only [List.drop, wbOf]
  w_top off
  have L1 := q1.length
  have L2 := q2.length
  have L3 := H.sxLen m1
  have L4 := H.sxLen m3
  have L5 := prd_length p high low
  have hA := H
  clear H
  k_extra "wk"
  have L6 := hi9.length
  have eR : ((ms.length : Int) + 1 - (v9.length : Int)).toNat = ms.length + 1 - (prd p high low).length := by omega
  rw [eR] at hA
  clear eR
  have hr : ∀ t, IntsAre (v9 ++ List.replicate (ms.length + 1 - (prd p high low).length) (.int 0 t)) (ivR p (ms.length + 1) low high) := fun t => hi9.append (ints_rep _ _ _)
  generalize hvr : v9 ++ List.replicate _ _ = vr at hA
  have hr' : IntsAre vr (ivR p (ms.length + 1) low high) := hvr ▸ hr _
  clear hr hvr
  refine' r_mapK (cpG vc) (hN9 false _) ⟨_, _, rfl⟩ hK9.handled hA ?g1 ?g0 ?g2 cpG.zero (fun _ _ _ q => q.len (by omega)) ?step ?done
  case g0 => decide
  case g2 => rfl
  case g1 => k_extra "m mem"
  case step =>
    clear hA
    intro C acc i ys' Gs v F s hi' hG hV H
    obtain ⟨hv, rfl⟩ := hV
    obtain ⟨_, _, rfl⟩ := id hG
    have hA := H
    clear H
    rw [List.nil_append] at hA
    k_extra "wk"
    exact hG.hold hv hA (by k_extra "m facts")
  case done =>
  clear hA
  intro C nm ys' Gs s hG H
  obtain ⟨e1, rfl⟩ := hG.done
  rw [e1] at H
  have hA := H
  clear H hG
  rw [List.nil_append] at hA
  k_extra "wk"
  change At D _ _ _ at hA
  refine ⟨_, _, _, _, hA, by k_extra "m rm", fun s H => ?_⟩
  clear hA
  have hA : At D _ _ s := H
  clear H hN9
  k_extra "wk"
  refine' r_mapK (cpG va) (hN9 false _) ⟨_, _, rfl⟩ hK9.handled hA ?g1 ?g0 ?g2 cpG.zero (fun _ _ _ q => q.len (by omega)) ?step ?done
  case g0 => decide
  case g2 => rfl
  case g1 => k_extra "m mem"
  case step =>
    clear hA
    intro C acc i ys' Gs v F s hi' hG hV H
    obtain ⟨hv, rfl⟩ := hV
    obtain ⟨_, _, rfl⟩ := id hG
    have hA := H
    clear H
    rw [List.nil_append] at hA
    k_extra "wk"
    exact hG.hold hv hA (by k_extra "m facts")
  case done =>
  clear hA
  intro C new ys' Gs s hG H
  obtain ⟨e1, rfl⟩ := hG.done
  rw [e1] at H
  have hA := H
  clear H hG
  rw [List.nil_append] at hA
  k_extra "wk"
  change At D _ _ _ at hA
  refine ⟨_, _, _, _, hA, by k_extra "m rm", fun s H => ?_⟩
  clear hA
  have hA : At D Fs _ s := H.sub (by k_extra "m facts")
  clear H hN9
  obtain ⟨lr, hA⟩ : ∃ lr, At D Fs (Lst new va :: Lst nm vc :: Lst lr vr :: Vars L9 [("self", .ref x), ("lm", .ref e), ("hm", .ref c), ("low", .ref b), ("high", .ref a), ("r", .ref lr), ("nm", .ref nm), ("new", .ref new)] :: R) s := ⟨_, hA.to' (by k_extra "m sub") (by k_extra "m facts")⟩
  clear hi9 L6
  iterate 1 walk1
  refine wpAny_mono (Q := fun fl s' => Hold (fl = .next ∧ At D Fs (Lst new va :: Lst nm vc :: Lst lr vr :: Vars L9 [("self", .ref x), ("lm", .ref e), ("hm", .ref c), ("low", .ref b), ("high", .ref a), ("r", .ref lr), ("nm", .ref nm), ("new", .ref new)] :: R) s')) ?ifa ?ifb (fun _ _ e => e)
  case ifa =>
    k_extra "wk"
    exact ⟨rfl, hA.to' (by k_extra "m sub") (by k_extra "m facts")⟩
  case ifb =>
    clear hA
    rintro _ s ⟨rfl, hA⟩
    dsimp only
    refine' inv_for (vc := vc) ?ho ?hr W hK9 hn hn2 hm0 h6 l1 l2 l3 l4 m1 m2 m3 m4 q1 q2 hr' hb hA ?_
    case ho => k_is
    case hr => exact rfl
    exact fun vn vw s' h1 h2 => h vn vw nm new s' h1 h2
set_option maxHeartbeats 4000000 in
set_option maxRecDepth 100000 in
theorem s_P_inv {x : Addr} {ns ms lmF : List Int} {xF : Sx} {p : Int} {k0 : Nat} (W : Wd (hd.heap_39 w.params) D) (T : ∀ t ∈ WT, t ∈ D.tabs) (hk : Ok A 40) (H : At D Fs R s) (hn : 1 < p) (hn2 : p < 2 ^ 20) (hm : PlnF 183 297 x p ns ms ∈ Fs) (h5 : ns.length = ms.length) (h6 : ms.length < 900) (h8 : 0 < ms.length)
    (hgo : ivGo p (ms.length + 1) k0 ([1] ++ List.replicate ms.length 0) (ns.map (fun n => (n, true)) ++ [(0, false)]) (List.replicate (ms.length + 1) 0) (ms.map (fun n => (n, false)) ++ [(1, false)]) = some (lmF, xF))
    (h : ∀ x s', At D (PlnF 183 297 x p (plnDiv p ((lmF.take ms.length).map fun k => k.fmod p) xF.1) ms :: Fs) R s' → Q (.ref x) s') : codeAny (model prog w) A (.call (.ref 254) ⟨[.ref x], []⟩) (Ret Q) s := by
  have hp : p ≠ 0 := by omega
  refine' v_call [("self", .ref x)] ?W H hk ?ho ?hcd ?hb ?hl ?hm ?_ ?c1 ?c2 ?c3 ?c4
  k_extra "m enter"
  clear H
  k_extra "wk"
  obtain ⟨va, vb, vc, ve, q1, q2, H1⟩ := inv_start (C := 183) (p := p) (ns := ns) hA (by k_extra "m mem") hi9
  clear hA
  have eN : ((ms.length : Int)).toNat = ms.length := by omega
  have eN1 : ((ms.length : Int) + 1).toNat = ms.length + 1 := by omega
  rw [eN] at q1
  rw [eN1] at q2
  clear eN eN1
  refine r_while (fun k s => ∃ lm low hm high, lm.length = ms.length + 1 ∧ low.length = ms.length + 1 ∧ hm.length = ms.length + 1 ∧ high.length = ms.length + 1 ∧ ivGo p (ms.length + 1) k lm low hm high = some (lmF, xF) ∧ InvSt D Fs R L9 x p lm low hm high s) ?_ k0
    ⟨_, _, _, _, by simp, by simp; omega, by simp, by simp, hgo, _, _, _, _, va, vb, vc, ve, q1, q2, H1.to' (by k_extra "m sub") (by k_extra "m facts")⟩
  clear H1
  rintro k s ⟨lm, low, hm', high, l1, l2, l3, l4, hg, a, b, c, e, va, vb, vc, ve, q1, q2, hA⟩
  have L1 := q1.length
  have L2 := q2.length
  have L3 := hA.sxLen (vs := va) (by k_extra "m mem")
  have L4 := hA.sxLen (vs := vb) (by k_extra "m mem")
  have L5 := prd_length p high low
  by_cases hd : degX low (ms.length + 1 - 1) = 0
  · obtain ⟨rfl, rfl⟩ := ivGo_end hg hd
    have hd' : degX low (low.length - 1) = 0 := by rw [l2]; exact hd
    clear hd L5 L2 L3 l3 l4
    iterate 11 walk1
    clear hd'
    k_extra "wk"
    rw [Int.toNat_natCast] at hA
    have L6 : (ve.take ms.length).length = ms.length := by simp; omega
    have H1 := hA.listScs (C := 183) (p := p) (vs := ve.take ms.length) .head (q1.take ms.length)
    clear hA
    have hA := H1
    clear H1
    have L7 : ((lmF.take ms.length).map fun k => k.fmod p).length = ms.length := by simp; omega
    k_extra "wk"
    exact h _ _ (At.to' hA (by k_extra "m sub") (by k_extra "m factsD"))
  · obtain ⟨k', rfl, hy, hb, hg'⟩ := ivGo_step hg hd
    have hd' : ¬ degX low (low.length - 1) = 0 := by rw [l2]; exact hd
    have hy' : (low.getD (degX low (low.length - 1)) (0, false)).2 = true := by rw [l2]; exact hy
    clear hd L5 L1 L2 L3
    iterate 11 walk1
    have k0 := ivS_length p (ms.length + 1) lm low hm' high (ms.length + 1)
    refine' inv_turn (va := va) (vb := vb) (vc := vc) (ve := ve) (lm := lm) (low := low) (hm := hm') (high := high) ?ho ?hr W hK9 hn hn2 (ns := ns) (ms := ms) ?m9 h6 l1 l2 l3 l4 ?m0 ?m1 ?m2 ?m3 ?m5 ?m4 q1 q2 hb hy' hA ?_
    case ho => k_is
    case hr => exact rfl
    case m9 => k_extra "m mem"
    case m0 => k_extra "m mem"
    case m1 => k_extra "m mem"
    case m2 => k_extra "m mem"
    case m3 => k_extra "m mem"
    case m5 => k_extra "m mem"
    case m4 => k_extra "m mem"
    intro vn vw nm new s' r1 r2
    exact ⟨k', Nat.lt_succ_self _, _, _, _, _, k0.1.trans l3, k0.2.trans l4, l1, l2, hg', _, _, _, _, _, _, _, _, r1, q1, r2.to' (by k_extra "m sub") (by k_extra "m facts")⟩
local macro_rules | `(tactic| walk_at "call ref") => `(tactic| ((with_reducible rename At _ _ _ _ => $(Lean.mkIdent `hA):ident); refine r_use ?_; refine' s_P_inv ?W ?T ?hk $(Lean.mkIdent `hA):ident ?hn ?hn2 ?hm ?h5 ?h6 ?h8 ?hgo ?_; (case W => assumption); (case T => assumption); (case hk => k_extra "m ok"); (case hn => assumption); (case hn2 => assumption); (case hm => k_extra "m mem"); (case hgo => assumption); (case h5 => k_extra "m lens"); (case h6 => k_extra "m lens"); (case h8 => k_extra "m lens"); clear $(Lean.mkIdent `hA):ident; intro $(Lean.mkIdent `x9):ident $(Lean.mkIdent `s9):ident $(Lean.mkIdent `hA):ident))
end
end
end
section
local macro_rules | `(tactic| walk_at "binaryOp Mult ref ref") => `(tactic| ((with_reducible rename At _ _ _ _ => $(Lean.mkIdent `hA):ident); refine' d_P_mul ?W ?T ?hk $(Lean.mkIdent `hA):ident ?hp0 ?hp1 ?hm ?hm2 ?h5 ?h7 ?h6 ?h8 ?hb ?_; (case W => assumption); (case T => assumption); (case hk => k_extra "m ok"); (case hp0 => assumption); (case hp1 => assumption); (case hm => k_extra "m mem"); (case hm2 => k_extra "m mem"); (case h5 => k_extra "m lens"); (case h7 => k_extra "m lens"); (case h6 => assumption); (case h8 => assumption); (case hb => assumption); clear $(Lean.mkIdent `hA):ident; intro $(Lean.mkIdent `x9):ident $(Lean.mkIdent `s9):ident $(Lean.mkIdent `hA):ident))
local macro_rules | `(tactic| walk_at "compareOp Eq int") => `(tactic| ((with_reducible rename At _ _ _ _ => $(Lean.mkIdent `hA):ident); refine' x_eqI ?W ?hk $(Lean.mkIdent `hA):ident ?hm ?_; (case W => assumption); (case hk => k_extra "m ok"); (case hm => k_extra "m mem"); clear $(Lean.mkIdent `hA):ident; intro $(Lean.mkIdent `s9):ident $(Lean.mkIdent `hA):ident))
local macro_rules | `(tactic| walk_at "subscriptTail") => `(tactic| ((with_reducible rename At _ _ _ _ => $(Lean.mkIdent `hA):ident); (with_reducible show wpAny _ _ (subscriptTail _ _ (Value.ref _) (Value.int _ _)) _ _ _); (first | refine r_itemTX $(Lean.mkIdent `hA):ident (by k_extra "m mem") (by k_extra "m mem") (by k_extra "m lenI") (by k_extra "m lenI") (by k_extra "m size") ?_ rfl | refine r_itemLX $(Lean.mkIdent `hA):ident (by k_extra "m pl") (by k_extra "m mem") (by k_extra "m lenI") (by k_extra "m lenI") (by k_extra "m size") ?_ rfl); clear $(Lean.mkIdent `hA):ident; intro $(Lean.mkIdent `v9):ident $(Lean.mkIdent `hA):ident))
local macro_rules | `(tactic| walk_at "getItem ref int") => `(tactic| ((with_reducible rename At _ _ _ _ => $(Lean.mkIdent `hA):ident); (refine r_giLX $(Lean.mkIdent `hA):ident (by k_extra "m pl") (by k_extra "m mem") (by k_extra "m lenI") (by k_extra "m lenI") (by k_extra "m size") ?_; clear $(Lean.mkIdent `hA):ident; intro $(Lean.mkIdent `v9):ident $(Lean.mkIdent `hA):ident)))
local macro_rules | `(tactic| walk_at "inplaceOp Sub") => `(tactic| ((with_reducible rename At _ _ _ _ => $(Lean.mkIdent `hA):ident); refine' x_isub ?W ?hk $(Lean.mkIdent `hA):ident ?hm ?hm2 ?hp ?_; (case W => assumption); (case hk => k_extra "m ok"); (case hm => k_extra "m mem"); (case hm2 => k_extra "m mem"); (case hp => assumption); clear $(Lean.mkIdent `hA):ident; intro $(Lean.mkIdent `v9):ident $(Lean.mkIdent `s9):ident $(Lean.mkIdent `hA):ident))
local macro_rules | `(tactic| walk_at "binaryOp Mult int") => `(tactic| ((with_reducible rename At _ _ _ _ => $(Lean.mkIdent `hA):ident); refine' x_mulI ?W ?hk $(Lean.mkIdent `hA):ident ?hm ?hp ?hj ?_; (case W => assumption); (case hk => k_extra "m ok"); (case hm => k_extra "m mem"); (case hp => assumption); (case hj => k_extra "m mulok"); clear $(Lean.mkIdent `hA):ident; intro $(Lean.mkIdent `v9):ident $(Lean.mkIdent `s9):ident $(Lean.mkIdent `hA):ident))
local macro_rules | `(tactic| walk_at "binaryOp Div") => `(tactic| ((with_reducible rename At _ _ _ _ => $(Lean.mkIdent `hA):ident); refine' x_div ?W ?hk $(Lean.mkIdent `hA):ident ?hm ?hm2 ?hy ?hn ?hn2 ?_; (case W => assumption); (case hk => k_extra "m ok"); (case hm => k_extra "m mem"); (case hm2 => k_extra "m mem"); (case hy => assumption); (case hn => assumption); (case hn2 => assumption); clear $(Lean.mkIdent `hA):ident; intro $(Lean.mkIdent `v9):ident $(Lean.mkIdent `s9):ident $(Lean.mkIdent `hA):ident))
local macro_rules | `(tactic| walk_at "call type:int") => `(tactic| ((with_reducible rename At _ _ _ _ => $(Lean.mkIdent `hA):ident); refine' x_int ?W ?hk $(Lean.mkIdent `hA):ident ?hm ?_; (case W => assumption); (case hk => k_extra "m ok"); (case hm => k_extra "m mem"); clear $(Lean.mkIdent `hA):ident; intro $(Lean.mkIdent `t9):ident $(Lean.mkIdent `s9):ident $(Lean.mkIdent `hA):ident))
local macro_rules | `(tactic| walk_at "call ref") => `(tactic| ((with_reducible rename At _ _ _ _ => $(Lean.mkIdent `hA):ident); refine r_use ?_; refine' s_degX ?W ?hk $(Lean.mkIdent `hA):ident ?hm ?hi ?h0 ?h1 ?_; (case W => assumption); (case hk => k_extra "m ok"); (case hm => k_extra "m mem"); (case hi => k_extra "m mem"); (case h0 => k_extra "m lens"); (case h1 => k_extra "m lens"); clear $(Lean.mkIdent `hA):ident; intro $(Lean.mkIdent `t9):ident $(Lean.mkIdent `s9):ident $(Lean.mkIdent `hA):ident))
local macro_rules | `(tactic| walk_at "inplaceOp Sub int") => `(tactic| ((with_reducible rename At _ _ _ _ => $(Lean.mkIdent `hA):ident); refine' x_isubI ?W ?hk $(Lean.mkIdent `hA):ident ?hm ?hp ?_; (case W => assumption); (case hk => k_extra "m ok"); (case hm => k_extra "m mem"); (case hp => assumption); clear $(Lean.mkIdent `hA):ident; intro $(Lean.mkIdent `v9):ident $(Lean.mkIdent `s9):ident $(Lean.mkIdent `hA):ident))
local macro_rules | `(tactic| k_extra "m upto") => `(tactic| exact slicePick_upto _ _ (by omega))
local macro_rules | `(tactic| walk_at "call type:range") => `(tactic| ((with_reducible rename At _ _ _ _ => $(Lean.mkIdent `hA):ident); refine' r_range3 ?W $(Lean.mkIdent `hA):ident (by decide) ?n ?_; (case W => assumption); (case n => exact PyProof.noPylong_small (by decide)); clear $(Lean.mkIdent `hA):ident; intro $(Lean.mkIdent `r9):ident $(Lean.mkIdent `s9):ident $(Lean.mkIdent `hA):ident))
local macro_rules | `(tactic| walk_at "call ref") => `(tactic| ((with_reducible rename At _ _ _ _ => $(Lean.mkIdent `hA):ident); refine r_use ?_; refine' s_degI ?W ?hk $(Lean.mkIdent `hA):ident ?hm ?hi ?h0 ?h1 ?_; (case W => assumption); (case hk => k_extra "m ok"); (case hm => k_extra "m mem"); (case hi => k_extra "m ints"); (case h0 => k_extra "m lens"); (case h1 => k_extra "m lens"); clear $(Lean.mkIdent `hA):ident; intro $(Lean.mkIdent `t9):ident $(Lean.mkIdent `s9):ident $(Lean.mkIdent `hA):ident))
local macro_rules | `(tactic| k_extra "m lenI") => `(tactic| with_reducible assumption)
local macro_rules | `(tactic| k_extra "m size") => `(tactic| with_reducible assumption)
local macro_rules | `(tactic| k_extra "m len") => `(tactic| with_reducible assumption)
local macro_rules | `(tactic| walk_at "call ref") => `(tactic| ((with_reducible rename At _ _ _ _ => $(Lean.mkIdent `hA):ident); refine r_use ?_; refine' s_prd ?W ?hk $(Lean.mkIdent `hA):ident ?hn ?hn2 ?hm ?hi ?hm2 ?hi2 ?h0 ?h1 ?h2 ?hy ?_; (case W => assumption); (case hk => k_extra "m ok"); (case hn => assumption); (case hn2 => assumption); (case hm => k_extra "m mem"); (case hi => k_extra "m mem"); (case hm2 => k_extra "m mem"); (case hi2 => k_extra "m mem"); (case h0 => k_extra "m lens"); (case h1 => k_extra "m lens"); (case h2 => k_extra "m lens"); (case hy => assumption); clear $(Lean.mkIdent `hA):ident; intro $(Lean.mkIdent `l9):ident $(Lean.mkIdent `v9):ident $(Lean.mkIdent `s9):ident $(Lean.mkIdent `hi9):ident $(Lean.mkIdent `hA):ident))
local macro_rules | `(tactic| walk_at "ite") => `(tactic| ((with_reducible refine' ine_eq ?h ?_); (case h => omega)))
local macro_rules | `(tactic| walk_at "call builtin:isinstance") => `(tactic| ((with_reducible rename At _ _ _ _ => $(Lean.mkIdent `hA):ident); refine' r_isi_intT (K := ?K) ?W $(Lean.mkIdent `hA):ident ?ht ?e ?_; (case W => assumption); (case ht => k_extra "m mem"); (case e => kit_is); clear $(Lean.mkIdent `hA):ident; intro $(Lean.mkIdent `s9):ident $(Lean.mkIdent `hA):ident))
local macro_rules | `(tactic| walk_at "binaryOp Div ref int") => `(tactic| ((with_reducible rename At _ _ _ _ => $(Lean.mkIdent `hA):ident); refine' d_FQ_divI ?W ?hk $(Lean.mkIdent `hA):ident ?hm ?hp ?hn ?hn2 ?hj ?_; (case W => assumption); (case hk => k_extra "m ok"); (case hm => k_extra "m mem"); (case hp => assumption); (case hn => assumption); (case hn2 => assumption); (case hj => exact mulOk_right (by assumption)); clear $(Lean.mkIdent `hA):ident; intro $(Lean.mkIdent `x9):ident $(Lean.mkIdent `s9):ident $(Lean.mkIdent `hA):ident))
local macro_rules | `(tactic| walk_at "binaryOp Div ref int") => `(tactic| ((with_reducible rename At _ _ _ _ => $(Lean.mkIdent `hA):ident); refine' d_P_divI ?W ?T ?hk $(Lean.mkIdent `hA):ident ?hn ?hn2 ?hm ?h5 ?h6 ?_; (case W => assumption); (case T => assumption); (case hk => k_extra "m ok"); (case hn => assumption); (case hn2 => assumption); (case hm => k_extra "m mem"); (case h5 => k_extra "m lens"); (case h6 => k_extra "m lens"); clear $(Lean.mkIdent `hA):ident; intro $(Lean.mkIdent `x9):ident $(Lean.mkIdent `s9):ident $(Lean.mkIdent `hA):ident))
local macro_rules | `(tactic| k_extra "m lens2") => `(tactic| first | k_extra "m lens" | ((have hq := IntsAre.length $(Lean.mkIdent `hi9):ident); simp only [List.length_cons, List.length_nil]; omega))
local macro_rules | `(tactic| k_extra "m size") => `(tactic| ((have hq := IntsAre.length $(Lean.mkIdent `hi9):ident); (try simp only [List.length_append, List.length_cons, List.length_nil, List.length_replicate]); omega))
local macro_rules | `(tactic| walk_at "binaryOp Add ref ref") => `(tactic| ((with_reducible rename At _ _ _ _ => $(Lean.mkIdent `hA):ident); refine r_addT $(Lean.mkIdent `hA):ident (by k_extra "m mem") (by k_extra "m mem") (by k_extra "m lens2") (by k_extra "m lens2") (by k_extra "m lens2") ?_; clear $(Lean.mkIdent `hA):ident; intro $(Lean.mkIdent `y9):ident $(Lean.mkIdent `s9):ident $(Lean.mkIdent `hA):ident))
local macro_rules | `(tactic| walk_at "inplaceOp Add ref ref") => `(tactic| ((with_reducible rename At _ _ _ _ => $(Lean.mkIdent `hA):ident); refine' r_iaddL $(Lean.mkIdent `hA):ident ?rp ?hb ?hz ?_; (case rp => k_extra "m rp"); (case hb => k_extra "m pl"); (case hz => k_extra "m size"); clear $(Lean.mkIdent `hA):ident; intro $(Lean.mkIdent `s9):ident $(Lean.mkIdent `hA):ident))
local macro_rules | `(tactic| k_extra "m lenI") => `(tactic| with_reducible assumption)
local macro_rules | `(tactic| k_extra "m size") => `(tactic| with_reducible assumption)
local macro_rules | `(tactic| k_extra "m len") => `(tactic| with_reducible assumption)
local macro_rules | `(tactic| walk_at "ite") => `(tactic| ((with_reducible refine' ine_ne ?h ?_); (case h => omega)))
local macro_rules | `(tactic| walk_at "call ref") => `(tactic| ((with_reducible rename At _ _ _ _ => $(Lean.mkIdent `hA):ident); refine r_use ?_; refine' s_P_inv ?W ?T ?hk $(Lean.mkIdent `hA):ident ?hn ?hn2 ?hm ?h5 ?h6 ?h8 ?hgo ?_; (case W => assumption); (case T => assumption); (case hk => k_extra "m ok"); (case hn => assumption); (case hn2 => assumption); (case hm => k_extra "m mem"); (case hgo => assumption); (case h5 => k_extra "m lens"); (case h6 => k_extra "m lens"); (case h8 => k_extra "m lens"); clear $(Lean.mkIdent `hA):ident; intro $(Lean.mkIdent `x9):ident $(Lean.mkIdent `s9):ident $(Lean.mkIdent `hA):ident))
variable {prog : Program} {w : World} {A : Around} {E : Value → Shared → Prop} {D : Dat} {Fs : List Fact} {R : List Res} {s : Shared} {Q : Value → Shared → Prop}
theorem d_FQ_eq {x y : Addr} {p j k : Int} (W : Wd (hd.heap_39 w.params) D) (hk : Ok A 10) (H : At D Fs R s) (hm : FQF 183 x p j ∈ Fs) (hm2 : FQF 183 y p k ∈ Fs)
    (h : ∀ s', At D Fs R s' → Q (.bool (j == k)) s') : wpAny (model prog w) A (compareOp .Eq (.ref x) (.ref y)) Q E s := by
  obtain ⟨m2, I2, _⟩ := (IsObj.fq : IsObj 183 y (FQF 183 y p k)).inst H hm2
  obtain ⟨ox, od, I2, _⟩ := I2.at
  refine cmp_ofEq ?_
  refine' o_cmp (tb := .ref 183) W H hk.cl hm .fq I2.type ?h2 ?h3 ?h4 (r_use (s_FQ_eq W (hk.mono (by omega)) H hm hm2 fun s' H' => h s' H'))
  case h2 => k_is
  case h3 => k_is
  case h4 => k_is
local macro_rules | `(tactic| walk_at "compareOp Eq ref ref") => `(tactic| ((with_reducible rename At _ _ _ _ => $(Lean.mkIdent `hA):ident); refine' d_FQ_eq ?W ?hk $(Lean.mkIdent `hA):ident ?hm ?hm2 ?_; (case W => assumption); (case hk => k_extra "m ok"); (case hm => k_extra "m mem"); (case hm2 => k_extra "m mem"); clear $(Lean.mkIdent `hA):ident; intro $(Lean.mkIdent `s9):ident $(Lean.mkIdent `hA):ident))
set_option maxHeartbeats 1000000 in
set_option maxRecDepth 100000 in
theorem s_FQ_ne {x y : Addr} {p j k : Int} (W : Wd (hd.heap_39 w.params) D) (hk : Ok A 12) (H : At D Fs R s) (hm : FQF 183 x p j ∈ Fs) (hm2 : FQF 183 y p k ∈ Fs)
    (h : ∀ s', At D Fs R s' → Q (.bool (!(j == k))) s') : codeAny (model prog w) A (.call (.ref 131) ⟨[.ref x, .ref y], []⟩) (Ret Q) s := by
  refine' v_call [("other", .ref y), ("self", .ref x)] ?W H hk ?ho ?hcd ?hb ?hl ?hm ?_ ?c1 ?c2 ?c3 ?c4
  k_extra "m enter"
  clear H
  k_extra "wk"
  exact h _ (At.to' hA (by k_extra "m sub") (by k_extra "m facts"))
theorem d_FQ_ne {x y : Addr} {p j k : Int} (W : Wd (hd.heap_39 w.params) D) (hk : Ok A 14) (H : At D Fs R s) (hm : FQF 183 x p j ∈ Fs) (hm2 : FQF 183 y p k ∈ Fs)
    (h : ∀ s', At D Fs R s' → Q (.bool (!(j == k))) s') : wpAny (model prog w) A (compareOp .NotEq (.ref x) (.ref y)) Q E s := by
  obtain ⟨m2, I2, _⟩ := (IsObj.fq : IsObj 183 y (FQF 183 y p k)).inst H hm2
  obtain ⟨ox, od, I2, _⟩ := I2.at
  refine cmp_ofNotEq ?_
  refine' o_cmp (tb := .ref 183) W H hk.cl hm .fq I2.type ?h2 ?h3 ?h4 (r_use (s_FQ_ne W (hk.mono (by omega)) H hm hm2 fun s' H' => h s' H'))
  case h2 => k_is
  case h3 => k_is
  case h4 => k_is
local macro_rules | `(tactic| walk_at "compareOp NotEq ref ref") => `(tactic| ((with_reducible rename At _ _ _ _ => $(Lean.mkIdent `hA):ident); refine' d_FQ_ne ?W ?hk $(Lean.mkIdent `hA):ident ?hm ?hm2 ?_; (case W => assumption); (case hk => k_extra "m ok"); (case hm => k_extra "m mem"); (case hm2 => k_extra "m mem"); clear $(Lean.mkIdent `hA):ident; intro $(Lean.mkIdent `s9):ident $(Lean.mkIdent `hA):ident))
theorem plnDiv_in {p : Int} (h0 : 0 < p) (xs : List Int) (k : Int) : InR p (plnDiv p xs k) := fun x hx => by
  obtain ⟨a, _, rfl⟩ := List.mem_map.mp hx
  exact fmod_in h0
set_option maxHeartbeats 1000000 in
set_option maxRecDepth 100000 in
theorem s_P_divE {x y : Addr} {ns ks ms lmF : List Int} {xF : Sx} {p : Int} {k0 : Nat} (W : Wd (hd.heap_39 w.params) D) (T : ∀ t ∈ WT, t ∈ D.tabs) (hk : Ok A 44) (H : At D Fs R s) (hn : 1 < p) (hn2 : p < 2 ^ 20) (hm : PlnF 183 297 x p ns ms ∈ Fs) (hm2 : PlnF 183 297 y p ks ms ∈ Fs) (h5 : ns.length = ms.length) (h7 : ks.length = ms.length) (h6 : ms.length < 900) (h8 : 0 < ms.length) (hlF : lmF.length = ms.length + 1)
    (hgo : ivGo p (ms.length + 1) k0 ([1] ++ List.replicate ms.length 0) (ks.map (fun n => (n, true)) ++ [(0, false)]) (List.replicate (ms.length + 1) 0) (ms.map (fun n => (n, false)) ++ [(1, false)]) = some (lmF, xF))
    (h : ∀ x s', At D (PlnF 183 297 x p (plnMul p ns (plnDiv p ((lmF.take ms.length).map fun k => k.fmod p) xF.1) ms) ms :: Fs) R s' → Q (.ref x) s') : codeAny (model prog w) A (.call (.ref 242) ⟨[.ref x, .ref y], []⟩) (Ret Q) s := by
  have hp0 : 0 < p := by omega
  have hp1 : p < 2 ^ 60 := by omega
  have h6' : ms.length < 1000 := by omega
  have hbd := (plnDiv_in hp0 ((lmF.take ms.length).map fun k => k.fmod p) xF.1).bd hp1
  have hle : (plnDiv p ((lmF.take ms.length).map fun k => k.fmod p) xF.1).length = ms.length := by simp [plnDiv]; omega
  refine' v_callc [("self", .ref x)] (fun L => [(L + 1, .ref y)]) (fun L => []) ?W H hk ?ho ?hcd ?hb ?hl ?hm ?hcm ?hum ?hnd ?hud ?_ ?c2 ?c3 ?c4
  k_extra "m enterc"
  clear H
  k_extra "wk"
  exact h _ _ (At.to' hA (by k_extra "m sub") (by k_extra "m facts"))
theorem d_P_divE {x y : Addr} {ns ks ms lmF : List Int} {xF : Sx} {p : Int} {k0 : Nat} (W : Wd (hd.heap_39 w.params) D) (T : ∀ t ∈ WT, t ∈ D.tabs) (hk : Ok A 44) (H : At D Fs R s) (hn : 1 < p) (hn2 : p < 2 ^ 20) (hm : PlnF 183 297 x p ns ms ∈ Fs) (hm2 : PlnF 183 297 y p ks ms ∈ Fs) (h5 : ns.length = ms.length) (h7 : ks.length = ms.length) (h6 : ms.length < 900) (h8 : 0 < ms.length) (hlF : lmF.length = ms.length + 1)
    (hgo : ivGo p (ms.length + 1) k0 ([1] ++ List.replicate ms.length 0) (ks.map (fun n => (n, true)) ++ [(0, false)]) (List.replicate (ms.length + 1) 0) (ms.map (fun n => (n, false)) ++ [(1, false)]) = some (lmF, xF))
    (h : ∀ x s', At D (PlnF 183 297 x p (plnMul p ns (plnDiv p ((lmF.take ms.length).map fun k => k.fmod p) xF.1) ms) ms :: Fs) R s' → Q (.ref x) s') : wpAny (model prog w) A (binaryOp .Div (.ref x) (.ref y)) Q E s := by
  refine' o_bin W H hm .pln ?h1 ?h2 ?h3 hm2 .pln (r_use (s_P_divE W T hk H hn hn2 hm hm2 h5 h7 h6 h8 hlF hgo fun z s' H' => h z s' H'))
  all_goals k_is
theorem pre_succ {ns ks : List Int} {i : Nat} (h : ∀ j < i, ns[j]? = ks[j]?) (e : ns[i]? = ks[i]?) : ∀ j < i + 1, ns[j]? = ks[j]? := fun j hj => by
  rcases Nat.lt_succ_iff_lt_or_eq.mp hj with q | rfl
  · exact h j q
  · exact e
theorem eq_of_pre {ns ks : List Int} (hl : ns.length = ks.length) (h : ∀ j < ns.length, ns[j]? = ks[j]?) : decide (ns = ks) = true := by
  rw [decide_eq_true_iff]
  refine List.ext_getElem? fun j => ?_
  by_cases c : j < ns.length
  · exact h j c
  · rw [List.getElem?_eq_none (by omega), List.getElem?_eq_none (by omega)]
theorem ne_of_at {ns ks : List Int} {i : Nat} {a b : Int} (h1 : ns[i]? = some a) (h2 : ks[i]? = some b) (h : a ≠ b) : decide (ns = ks) = false := by
  rw [decide_eq_false_iff_not]
  rintro rfl
  rw [h1] at h2
  exact h (by simpa using h2)
set_option maxHeartbeats 1000000 in
set_option maxRecDepth 100000 in
theorem s_P_eq {x y : Addr} {ns ks ms : List Int} {p : Int} (W : Wd (hd.heap_39 w.params) D) (hk : Ok A 20) (H : At D Fs R s) (hm : PlnF 183 297 x p ns ms ∈ Fs) (hm2 : PlnF 183 297 y p ks ms ∈ Fs) (h5 : ns.length = ms.length) (h7 : ks.length = ms.length) (h6 : ms.length < 1000)
    (h : ∀ s', At D Fs R s' → Q (.bool (decide (ns = ks))) s') : codeAny (model prog w) A (.call (.ref 268) ⟨[.ref x, .ref y], []⟩) (Ret Q) s := by
  refine' v_call [("other", .ref y), ("self", .ref x)] ?W H hk ?ho ?hcd ?hb ?hl ?hm ?_ ?c1 ?c2 ?c3 ?c4
  k_extra "m enter"
  clear H
  k_extra "wk"
  rename_i y1 v1 s1 e1 s2
  refine r_for (fun i s => (∀ j < i, ns[j]? = ks[j]?) ∧ At D (N9 :: FQsF 183 p v9 ks :: FQsF 183 p v1 ns :: Fs) (St9 i :: Vars L9 [] :: R) s)
    (hN9 D.ng) ⟨_, _, _, rfl⟩ hK9.handled ⟨fun _ h => absurd h (Nat.not_lt_zero _), hA.to' (by k_extra "m sub") (by k_extra "m facts")⟩ ?_ ?_
  · clear hA
    rintro i s hi ⟨hpre, H⟩
    refine ⟨_, _, _, H, .head _, .head, ?_⟩
    rintro v F s ⟨T1, a, b, rfl, ha, hb, rfl⟩ H0
    clear H
    obtain ⟨a', na, rfl, hna, H2⟩ := H0.pickQ (vs := v1) (by k_extra "m mem") ha
    obtain ⟨b', nb, rfl, hnb, hA⟩ := H2.pickQ (vs := v9) (by k_extra "m mem") hb
    clear H0 H2
    k_extra "wk"
    · rename_i e
      exact ⟨⟨pre_succ hpre (by rw [hna, hnb, e]), hA.to' (by k_extra "m sub") (by k_extra "m facts")⟩⟩
    · rename_i e
      have q := h s9 (hA.to' (by k_extra "m sub") (by k_extra "m facts"))
      rw [ne_of_at hna hnb e] at q
      exact q
  · clear hA
    rintro s ⟨hpre, H⟩
    refine ⟨_, _, _, H, .head _, .head, fun s hA => ?_⟩
    clear H
    show wpAny _ _ _ _ _ _
    k_extra "wk"
    have q := h s (hA.to' (by k_extra "m sub") (by k_extra "m facts"))
    rw [eq_of_pre (h5.trans h7.symm) (by rw [← e1]; exact hpre)] at q
    exact q
theorem d_P_eq {x y : Addr} {ns ks ms : List Int} {p : Int} (W : Wd (hd.heap_39 w.params) D) (hk : Ok A 22) (H : At D Fs R s) (hm : PlnF 183 297 x p ns ms ∈ Fs) (hm2 : PlnF 183 297 y p ks ms ∈ Fs) (h5 : ns.length = ms.length) (h7 : ks.length = ms.length) (h6 : ms.length < 1000)
    (h : ∀ s', At D Fs R s' → Q (.bool (decide (ns = ks))) s') : wpAny (model prog w) A (compareOp .Eq (.ref x) (.ref y)) Q E s := by
  obtain ⟨m2, I2, _⟩ := (IsObj.pln : IsObj 297 y (PlnF 183 297 y p ks ms)).inst H hm2
  obtain ⟨ox, od, I2, _⟩ := I2.at
  refine cmp_ofEq ?_
  refine' o_cmp (tb := .ref 297) W H hk.cl hm .pln I2.type ?h2 ?h3 ?h4 (r_use (s_P_eq W (hk.mono (by omega)) H hm hm2 h5 h7 h6 fun s' H' => h s' H'))
  case h2 => k_is
  case h3 => k_is
  case h4 => k_is
end
end
section
local macro_rules | `(tactic| walk_at "call ref") => `(tactic| ((with_reducible rename At _ _ _ _ => $(Lean.mkIdent `hA):ident); refine r_use ?_; refine' s_P_made ?W ?T ?hk $(Lean.mkIdent `hA):ident ?hp ?hm ?h1 ?h2 ?h5 ?h6 ?_; (case W => assumption); (case T => assumption); (case hk => k_extra "m ok"); (case hp => assumption); (case hm => k_extra "m mem"); (case h2 => k_extra "m mem"); (case h1 => k_extra "m seq"); (case h5 => k_extra "m lens"); (case h6 => k_extra "m lens"); clear $(Lean.mkIdent `hA):ident; intro $(Lean.mkIdent `x9):ident $(Lean.mkIdent `s9):ident $(Lean.mkIdent `hA):ident))
section
local macro_rules | `(tactic| walk_at "call builtin:isinstance") => `(tactic| ((with_reducible rename At _ _ _ _ => $(Lean.mkIdent `hA):ident); refine' o_isi (K := ?K) (F := OptF _ _ _ _ _) ?W $(Lean.mkIdent `hA):ident ?hm ?ho ?e ?h1 ?h2 ?h3 ?h4 ?h5 ?h6 ?_; (case W => assumption); (case ho => k_extra "m obj"); (case hm => k_extra "m mem"); (case e => assumption); (case h1 => first | assumption | k_is); (case h2 => first | assumption | k_is); (case h3 => first | assumption | k_is); (case h4 => first | assumption | k_is); (case h5 => first | assumption | k_is); (case h6 => first | assumption | k_is); clear $(Lean.mkIdent `hA):ident; intro $(Lean.mkIdent `s9):ident $(Lean.mkIdent `hA):ident))
local macro_rules | `(tactic| walk_at "call builtin:isinstance") => `(tactic| ((with_reducible rename At _ _ _ _ => $(Lean.mkIdent `hA):ident); refine' o_isiT (K := ?K) (F := OptF _ _ _ _ _) ?W $(Lean.mkIdent `hA):ident ?hm ?ho ?hc ?e ?h1 ?h2 ?h3 ?h4 ?h5 ?h6 ?_; (case W => assumption); (case ho => k_extra "m obj"); (case hm => k_extra "m mem"); (case hc => k_extra "m mem"); (case e => assumption); (case h1 => first | assumption | k_is); (case h2 => first | assumption | k_is); (case h3 => first | assumption | k_is); (case h4 => first | assumption | k_is); (case h5 => first | assumption | k_is); (case h6 => first | assumption | k_is); clear $(Lean.mkIdent `hA):ident; intro $(Lean.mkIdent `s9):ident $(Lean.mkIdent `hA):ident))
local macro_rules | `(tactic| walk_at "getMethod ref") => `(tactic| ((with_reducible rename At _ _ _ _ => $(Lean.mkIdent `hA):ident); refine' o_meth (K := ?K) (F := OptF _ _ _ _ _) ?W $(Lean.mkIdent `hA):ident ?hm ?ho ?h1 ?h2 ?h3 ?h4 ?_; (case W => assumption); (case ho => k_extra "m obj"); (case hm => k_extra "m mem"); (case h1 => first | assumption | k_is); (case h2 => first | assumption | k_is); (case h3 => first | assumption | k_is); (case h4 => decide)))
local macro_rules | `(tactic| walk_at "getAttr ref") => `(tactic| ((with_reducible rename At _ _ _ _ => $(Lean.mkIdent `hA):ident); refine' r_op (K := ?K) ?W $(Lean.mkIdent `hA):ident ?h1 ?h2 ?h3 ?h4 ?hm ?he ?_; (case W => assumption); (case he => exact rfl); (case hm => k_extra "m mem"); (case h1 => first | assumption | k_is); (case h2 => first | assumption | k_is); (case h3 => first | assumption | k_is); (case h4 => first | assumption | k_is); clear $(Lean.mkIdent `hA):ident; intro $(Lean.mkIdent `t9):ident $(Lean.mkIdent `s9):ident $(Lean.mkIdent `hA):ident))
local macro_rules | `(tactic| walk_at "getAttr ref") => `(tactic| ((with_reducible rename At _ _ _ _ => $(Lean.mkIdent `hA):ident); refine' r_od (K := ?K) ?W $(Lean.mkIdent `hA):ident ?h1 ?h2 ?h3 ?h4 ?hm ?he ?_; (case W => assumption); (case he => exact rfl); (case hm => k_extra "m mem"); (case h1 => first | assumption | k_is); (case h2 => first | assumption | k_is); (case h3 => first | assumption | k_is); (case h4 => first | assumption | k_is); clear $(Lean.mkIdent `hA):ident; intro $(Lean.mkIdent `t9):ident $(Lean.mkIdent `s9):ident $(Lean.mkIdent `hA):ident))
local macro_rules | `(tactic| walk_at "getAttr ref") => `(tactic| ((with_reducible rename At _ _ _ _ => $(Lean.mkIdent `hA):ident); refine' r_oc (K := ?K) ?W $(Lean.mkIdent `hA):ident ?h1 ?h2 ?h3 ?h4 ?hm ?he ?_; (case W => assumption); (case he => exact rfl); (case hm => k_extra "m mem"); (case h1 => first | assumption | k_is); (case h2 => first | assumption | k_is); (case h3 => first | assumption | k_is); (case h4 => first | assumption | k_is); clear $(Lean.mkIdent `hA):ident; intro $(Lean.mkIdent `y9):ident $(Lean.mkIdent `v9):ident $(Lean.mkIdent `s9):ident $(Lean.mkIdent `hi9):ident $(Lean.mkIdent `hA):ident))
local macro_rules | `(tactic| walk_at "getAttr ref") => `(tactic| ((with_reducible rename At _ _ _ _ => $(Lean.mkIdent `hA):ident); refine' r_om (K := ?K) ?W $(Lean.mkIdent `hA):ident ?h1 ?h2 ?h3 ?h4 ?hm ?he ?_; (case W => assumption); (case he => exact rfl); (case hm => k_extra "m mem"); (case h1 => first | assumption | k_is); (case h2 => first | assumption | k_is); (case h3 => first | assumption | k_is); (case h4 => first | assumption | k_is); clear $(Lean.mkIdent `hA):ident; intro $(Lean.mkIdent `y9):ident $(Lean.mkIdent `v9):ident $(Lean.mkIdent `s9):ident $(Lean.mkIdent `hi9):ident $(Lean.mkIdent `hA):ident))
local macro_rules | `(tactic| walk_at "getAttr ref") => `(tactic| ((with_reducible rename At _ _ _ _ => $(Lean.mkIdent `hA):ident); refine' r_ot (K := ?K) ?W $(Lean.mkIdent `hA):ident ?h1 ?h2 ?h3 ?h4 ?hm ?he ?_; (case W => assumption); (case he => exact rfl); (case hm => k_extra "m mem"); (case h1 => first | assumption | k_is); (case h2 => first | assumption | k_is); (case h3 => first | assumption | k_is); (case h4 => first | assumption | k_is); clear $(Lean.mkIdent `hA):ident; intro $(Lean.mkIdent `y9):ident $(Lean.mkIdent `v9):ident $(Lean.mkIdent `s9):ident $(Lean.mkIdent `hA):ident))
local macro_rules | `(tactic| walk_at "callWith ref") => `(tactic| ((with_reducible rename At _ _ _ _ => $(Lean.mkIdent `hA):ident); (try dsimp only); (first | refine' callWith_K (K := ?K) ?k1 ?k2 ?_ | refine' callWith_K0 (K := ?K) ?k1 ?k2 ?_); (case k1 => exact At.kin (by assumption) $(Lean.mkIdent `hA):ident); (case k2 => first | assumption | k_is)))
local macro_rules | `(tactic| walk_at "callWith") => `(tactic| ((with_reducible rename At _ _ _ _ => $(Lean.mkIdent `hA):ident); (try dsimp only); (with_reducible show wpAny _ _ (callWith _ (Value.ref _) _ _ _) _ _ _); (first | refine' callWith_K (K := ?K) ?k1 ?k2 ?_ | refine' callWith_K0 (K := ?K) ?k1 ?k2 ?_); (case k1 => exact At.kin (by assumption) $(Lean.mkIdent `hA):ident); (case k2 => first | assumption | k_is)))
local macro_rules | `(tactic| walk_at "call ref") => `(tactic| ((with_reducible rename At _ _ _ _ => $(Lean.mkIdent `hA):ident); refine r_use ?_; refine' (show MadeOk _ _ by assumption) ?W ?T ?hk $(Lean.mkIdent `hA):ident ?hp ?hm ?h1 ?h2 ?h5 ?h6 ?h8 ?_; (case W => assumption); (case T => assumption); (case hk => k_extra "m ok"); (case hp => assumption); (case hm => k_extra "m mem"); (case h1 => k_extra "m mem"); (case h2 => k_extra "m ints"); (case h5 => k_extra "m lens"); (case h6 => k_extra "m lens"); (case h8 => k_extra "m lens"); clear $(Lean.mkIdent `hA):ident; intro $(Lean.mkIdent `x9):ident $(Lean.mkIdent `s9):ident $(Lean.mkIdent `hA):ident))
local macro_rules | `(tactic| walk_at "call type:range") => `(tactic| ((with_reducible rename At _ _ _ _ => $(Lean.mkIdent `hA):ident); refine' r_range3 ?W $(Lean.mkIdent `hA):ident (by decide) ?n ?_; (case W => assumption); (case n => exact PyProof.noPylong_small (by decide)); clear $(Lean.mkIdent `hA):ident; intro $(Lean.mkIdent `r9):ident $(Lean.mkIdent `s9):ident $(Lean.mkIdent `hA):ident))
local macro_rules | `(tactic| walk_at "call type:enumerate") => `(tactic| ((with_reducible rename At _ _ _ _ => $(Lean.mkIdent `hA):ident); refine' r_enumT $(Lean.mkIdent `hA):ident ?h1 ?_; (case h1 => k_extra "m mem"); clear $(Lean.mkIdent `hA):ident; intro $(Lean.mkIdent `I9):ident $(Lean.mkIdent `t9):ident $(Lean.mkIdent `s9):ident $(Lean.mkIdent `hN9):ident $(Lean.mkIdent `hA):ident))
local macro_rules | `(tactic| walk_at "call type:list") => `(tactic| ((with_reducible rename At _ _ _ _ => $(Lean.mkIdent `hA):ident); refine' r_listEnum ?hh $(Lean.mkIdent `hA):ident ?hm ?hi ?h0 ?hz ?_; (case hh => k_extra "m hh"); (case hm => k_extra "m mem"); (case hi => assumption); (case h0 => k_extra "m lens"); (case hz => k_extra "m lens"); clear $(Lean.mkIdent `hA):ident; intro $(Lean.mkIdent `l9):ident $(Lean.mkIdent `v9):ident $(Lean.mkIdent `s9):ident $(Lean.mkIdent `hi9):ident $(Lean.mkIdent `hA):ident))
section
variable {prog : Program} {w : World} {A : Around} {E : Value → Shared → Prop} {D : Dat} {Fs : List Fact} {R : List Res} {s : Shared} {Q : Value → Shared → Prop}
/-- optimized_poly_rounded_div -/
def opdC (o : List Int) (i : Nat) (tmp : List Int) (c : Nat) : List Int := tmp.set (c + i) (tmp.getD (c + i) 0 - o.getD c 0)
def opdI (p : Int) (ys : List Int) (db : Nat) (st : List Int × List Int) (i : Nat) : List Int × List Int :=
  (st.1.set i (st.1.getD i 0 + st.2.getD (db + i) 0 * pfi (ys.getD db 0) p),
   (List.range (db + 1)).foldl (opdC (st.1.set i (st.1.getD i 0 + st.2.getD (db + i) 0 * pfi (ys.getD db 0) p)) i) st.2)
def opdS (p : Int) (xs ys : List Int) (da db k : Nat) : List Int × List Int := (List.range k).foldl (fun st j => opdI p ys db st (da - db - j)) (List.replicate xs.length 0, xs)
def opd0 (p : Int) (xs ys : List Int) : List Int :=
  let o := (opdS p xs ys (degI xs (xs.length - 1)) (degI ys (ys.length - 1)) (degI xs (xs.length - 1) + 1 - degI ys (ys.length - 1))).1
  o.take (degI o (o.length - 1) + 1)
def opd (p : Int) (xs ys : List Int) : List Int := (opd0 p xs ys).map fun k => k.fmod p
theorem opdC_length (o : List Int) (i : Nat) (l : List Nat) (tmp : List Int) : (l.foldl (opdC o i) tmp).length = tmp.length := by
  induction l generalizing tmp with
  | nil => rfl
  | cons a l ih => rw [List.foldl_cons, ih]; simp [opdC]
theorem opdS_length (p : Int) (xs ys : List Int) (da db k : Nat) : (opdS p xs ys da db k).1.length = xs.length ∧ (opdS p xs ys da db k).2.length = xs.length := by
  induction k with
  | zero => exact ⟨by simp [opdS], rfl⟩
  | succ k ih =>
    unfold opdS at ih ⊢
    rw [foldl_range_succG]
    unfold opdI
    exact ⟨by rw [List.length_set]; exact ih.1, by rw [opdC_length]; exact ih.2⟩
local macro_rules | `(tactic| k_extra "m upto") => `(tactic| exact slicePick_upto _ _ (by omega))
local macro_rules | `(tactic| walk_at "call ref") => `(tactic| ((with_reducible rename At _ _ _ _ => $(Lean.mkIdent `hA):ident); refine r_use ?_; refine' s_degI ?W ?hk $(Lean.mkIdent `hA):ident ?hm ?hi ?h0 ?h1 ?_; (case W => assumption); (case hk => k_extra "m ok"); (case hm => k_extra "m mem"); (case hi => k_extra "m ints"); (case h0 => k_extra "m lens"); (case h1 => k_extra "m lens"); clear $(Lean.mkIdent `hA):ident; intro $(Lean.mkIdent `t9):ident $(Lean.mkIdent `s9):ident $(Lean.mkIdent `hA):ident))
local macro_rules | `(tactic| walk_at "call ref") => `(tactic| ((with_reducible rename At _ _ _ _ => $(Lean.mkIdent `hA):ident); refine r_use ?_; refine' s_pfi ?W ?hk $(Lean.mkIdent `hA):ident ?hn ?hn2 ?_; (case W => assumption); (case hk => k_extra "m ok"); (case hn => assumption); (case hn2 => assumption); clear $(Lean.mkIdent `hA):ident; intro $(Lean.mkIdent `t9):ident $(Lean.mkIdent `s9):ident $(Lean.mkIdent `hA):ident))
local macro_rules | `(tactic| k_extra "m lenI") => `(tactic| with_reducible assumption)
local macro_rules | `(tactic| k_extra "m size") => `(tactic| with_reducible assumption)
local macro_rules | `(tactic| k_extra "m len") => `(tactic| with_reducible assumption)
set_option maxHeartbeats 4000000 in
set_option maxRecDepth 100000 in
theorem s_G_oprd {C mk : Addr} (hC : OC w.params C mk) {x la lb : Addr} {va vb : List Value} {xs ys ns ms : List Int} {p : Int} (W : Wd (hd.heap_39 w.params) D) (hk : Ok A 20) (H : At D Fs R s) (hn : 1 < p) (hn2 : p < 2 ^ 20) (hmx : OptF C x p ns ms ∈ Fs) (hm : ListF la va ∈ Fs) (hi : IntsAre va xs) (hm2 : ListF lb vb ∈ Fs) (hi2 : IntsAre vb ys)
    (h0 : 0 < xs.length) (h1 : xs.length < 1000) (h2 : ys.length = xs.length)
    (h : ∀ l vs s', IntsAre vs (opd p xs ys) → At D (ListF l vs :: Fs) R s' → Q (.ref l) s') : codeAny (model prog w) A (.call (.ref 366) ⟨[.ref x, .ref la, .ref lb], []⟩) (Ret Q) s := by
  obtain ⟨g1, g2, g3, g4, g5, f1, f2, f3, f4, f5, dct, m1, m2, m3, m4, k1, k2, k3, i1, i2⟩ := hC
  have hp : p ≠ 0 := by omega
  refine' v_callc [("a", .ref la), ("b", .ref lb)] (fun L => [(L + 1, .ref x)]) (fun L => []) ?W H hk ?ho ?hcd ?hb ?hl ?hm ?hcm ?hum ?hnd ?hud ?_ ?c2 ?c3 ?c4
  k_extra "m enterc"
  have hL := hi.length
  have hL2 := hi2.length
  clear H
  k_extra "wk"
  refine' r_mapK (cpG va) (hN9 false _) ⟨_, _, rfl⟩ hK9.handled hA ?g1 ?g0 ?g2 cpG.zero (fun _ _ _ q => q.len (by omega)) ?step ?done
  case g0 => decide
  case g2 => rfl
  case g1 => k_extra "m mem"
  case step =>
    clear hA
    intro C acc i ys' Gs v F s hi' hG hV H
    obtain ⟨hv, rfl⟩ := hV
    obtain ⟨_, _, rfl⟩ := id hG
    have hA := H
    clear H
    rw [List.nil_append] at hA
    k_extra "wk"
    exact hG.hold hv hA (by k_extra "m facts")
  case done =>
    clear hA
    intro C tmp ys' Gs s hG H
    obtain ⟨e1, rfl⟩ := hG.done
    rw [e1] at H
    have hA := H
    clear H
    rw [List.nil_append] at hA
    k_extra "wk"
    change At D _ _ _ at hA
    refine ⟨_, _, _, _, hA, by k_extra "m rm", fun s H => ?_⟩
    clear hA
    have hA : At D _ _ s := H
    clear H hN9
    k_extra "wk"
    have hz : (List.replicate xs.length (0 : Int)).length = va.length := by simp; omega
    refine' r_mapK (inG (List.replicate xs.length (0 : Int))) (hN9 false _) ⟨_, _, rfl⟩ hK9.handled hA ?g1 ?g0 ?g2 inG.zero (fun _ _ _ q => q.len (by omega)) ?step ?done
    case g0 => decide
    case g2 => rfl
    case g1 => k_extra "m mem"
    case step =>
      clear hA
      intro C acc i ys' Gs v F s hi' hG hV H
      obtain ⟨hv, rfl⟩ := hV
      have hA := H.nil1 hG.2.2
      clear H
      k_extra "wk"
      exact hG.hold (show (List.replicate xs.length (0 : Int))[i]? = some 0 by rw [List.getElem?_replicate, if_pos (by omega)]) hA (by k_extra "m facts")
    case done =>
    clear hA
    intro C lo vo Gs s hG H
    have hI := hG.done hz
    have hA := H.nil0 hG.2.2
    clear H
    k_extra "wk"
    change At D _ _ _ at hA
    refine ⟨_, _, _, _, hA, by k_extra "m rm", fun s H => ?_⟩
    clear hA
    have hA : At D _ _ s := H
    clear H hN9
    have hda := degI_le xs (xs.length - 1)
    have hdb := degI_le ys (ys.length - 1)
    generalize hea : degI xs (xs.length - 1) = da at *
    generalize heb : degI ys (ys.length - 1) = db at *
    k_extra "wk"
    have hcn : ((da : Int) - (db : Int) - -1).toNat = da + 1 - db := by omega
    rw [hcn] at hA hN9
    clear hcn
    have hpl := opdS_length p xs ys da db
    refine r_for (fun j s => ∃ wo wt t1, IntsAre wo (opdS p xs ys da db j).1 ∧ IntsAre wt (opdS p xs ys da db j).2 ∧ At D (Tru :: CellF (L9 + 1) (.ref x) :: Fs) (RItR I9 ((da : Int) - db) (-1) (da + 1 - db) j :: Lst lo wo :: Lst tmp wt :: Vars L9 [("b", .ref lb), ("degb", .int db t1), ("temp", .ref tmp), ("o", .ref lo)] :: R) s)
      (hN9 false D.ng) ⟨_, _, rfl⟩ hK9.handled ?_ ?_ ?_
    · exact ⟨vo, va, _, hI, hi, hA.to' (by k_extra "m sub") (by k_extra "m facts")⟩
    · clear hA
      obtain ⟨I1, rfl⟩ : ∃ I1, I1 = I9 := ⟨_, rfl⟩
      rintro j s hj ⟨wo, wt, t1, hwo, hwt, H⟩
      refine ⟨_, _, _, H, .head _, .head, ?_⟩
      rintro v F s ⟨⟨t2, rfl⟩, rfl⟩ hA
      clear H
      have ei : ((da : Int) - db + (j : Int) * -1) = ((da - db - j : Nat) : Int) := by omega
      rw [ei]
      clear ei
      obtain ⟨l1, l2⟩ := hpl j
      have l3 := hwo.length
      have l4 := hwt.length
      obtain ⟨i, hi3⟩ : ∃ i, i = da - db - j := ⟨_, rfl⟩
      have hi4 : db + i < xs.length := by omega
      rw [← hi3]
      have hstep : opdS p xs ys da db (j + 1) = opdI p ys db (opdS p xs ys da db j) i := by unfold opdS; rw [foldl_range_succG, hi3]
      clear hi3 hj
      have hbp := pfi_in (a := ys.getD ((db : Int)).toNat 0) hn
      have hmj : ∀ a, IntMulOk a (pfi (ys.getD ((db : Int)).toNat 0) p) := fun a => mulOk_right ⟨by omega, by omega⟩
      have hmk := hmj ((opdS p xs ys da db j).2.getD ((db : Int) + (i : Int)).toNat 0)
      have hix := ix_lt hi4
      have hdx := dx_lt hi4
      have a1 := l0 (i := i)
      have a2 := l0 (i := db)
      have a3 := l00 (i := db) (j := i)
      have a4 := lsum hi4 l2
      have a5 := lsum6 hi4 (Nat.le_of_lt h1)
      have a6 := li hix l1
      have a7 := li6 hix (Nat.le_of_lt h1)
      have a8 := li hdx h2
      have a9 := li6 hdx (Nat.le_of_lt h1)
      have a10 := liN hix (l3.trans l1)
      k_extra "wk"
      clear hmk hmj hbp
      have e1 : ((db : Int) + (i : Int)).toNat = db + i := by omega
      have e2 : ((db : Int)).toNat = db := by omega
      have e3 : ((i : Int)).toNat = i := by omega
      have hcn2 : ((db : Int) + 1 - 0).toNat = db + 1 := by omega
      rw [hcn2] at hA hN9
      rw [e1, e2, e3] at hA
      clear e1 e2 e3 hcn2
      generalize hov : wo.set i _ = wo2 at hA
      have hwo2 : IntsAre wo2 ((opdS p xs ys da db j).1.set i ((opdS p xs ys da db j).1.getD i 0 + (opdS p xs ys da db j).2.getD (db + i) 0 * pfi (ys.getD db 0) p)) := hov ▸ ints_set hwo i _ _
      have hst1 : (opdS p xs ys da db (j + 1)).1 = (opdS p xs ys da db j).1.set i ((opdS p xs ys da db j).1.getD i 0 + (opdS p xs ys da db j).2.getD (db + i) 0 * pfi (ys.getD db 0) p) := by rw [hstep]; rfl
      have hst2 : (opdS p xs ys da db (j + 1)).2 = (List.range (db + 1)).foldl (opdC (opdS p xs ys da db (j + 1)).1 i) (opdS p xs ys da db j).2 := by rw [hst1, hstep]; rfl
      rw [← hst1] at hwo2
      have hl5 := (hpl (j + 1)).1
      generalize (opdS p xs ys da db (j + 1)).1 = o2 at *
      generalize (opdS p xs ys da db j).2 = tm at *
      refine r_for (fun c s => ∃ wt2, IntsAre wt2 ((List.range c).foldl (opdC o2 i) tm) ∧ At D (Tru :: CellF (L9 + 1) (.ref x) :: Fs) (RItR I9 0 1 (db + 1) c :: RItR I1 ((da : Int) - db) (-1) (da + 1 - db) (j + 1) :: Lst lo wo2 :: Lst tmp wt2 :: Vars L9 [("b", .ref lb), ("degb", .int db t1), ("temp", .ref tmp), ("o", .ref lo), ("i", .int i t2)] :: R) s)
        (hN9 false D.ng) ⟨_, _, rfl⟩ hK9.handled ⟨wt, hwt, hA.to' (by k_extra "m sub") (by k_extra "m facts")⟩ ?_ ?_
      · clear hA
        rintro c s hc ⟨wt2, hwt2, H⟩
        refine ⟨_, _, _, H, .head _, .head, ?_⟩
        rintro v F s ⟨⟨t3, rfl⟩, rfl⟩ hA
        clear H
        simp only [Int.zero_add, Int.mul_one]
        have l6 := opdC_length o2 i (List.range c) tm
        have hfo : (List.range (c + 1)).foldl (opdC o2 i) tm = opdC o2 i ((List.range c).foldl (opdC o2 i) tm) c := foldl_range_succG _ _ _
        generalize (List.range c).foldl (opdC o2 i) tm = tm2 at *
        have hci := ci_lt hc hi4
        have hcx := cx_lt hc hi4
        have b1 := l0 (i := c)
        have b2 := l00 (i := c) (j := i)
        have b3 := lsum hci (l6.trans l2)
        have b4 := lsumN hci (hwt2.length.trans (l6.trans l2))
        have b5 := lsum6 hci (Nat.le_of_lt h1)
        have b6 := li hcx hl5
        have b7 := li6 hcx (Nat.le_of_lt h1)
        k_extra "wk"
        have e5 := tn2 (i := c) (j := i)
        have e6 := tn1 (i := c)
        rw [e5, e6] at hA
        rw [hfo]
        exact ⟨_, ints_set hwt2 (c + i) _ _, hA.to' (by k_extra "m sub") (by k_extra "m facts")⟩
      · clear hA
        rintro s ⟨wt2, hwt2, H⟩
        refine ⟨_, _, _, H, .head _, .head, fun s hA => ?_⟩
        clear H
        show wpAny _ _ _ _ _ _
        k_extra "wk"
        rw [hst2]
        exact ⟨wo2, wt2, _, hwo2, hwt2, hA.to' (by k_extra "m sub") (by k_extra "m facts")⟩
    · clear hA
      rintro s ⟨wo, wt, t1, hwo, hwt, H⟩
      refine ⟨_, _, _, H, .head _, .head, fun s hA0 => ?_⟩
      clear H
      have hA := At.fzL hA0 (l := lo) (by k_extra "m rm")
      clear hA0
      have l1 := (hpl (da + 1 - db)).1
      have l3 := hwo.length
      have hop : opd0 p xs ys = (opdS p xs ys da db (da + 1 - db)).1.take (degI (opdS p xs ys da db (da + 1 - db)).1 ((opdS p xs ys da db (da + 1 - db)).1.length - 1) + 1) := by unfold opd0; rw [hea, heb]
      generalize (opdS p xs ys da db (da + 1 - db)).1 = oF at *
      show wpAny _ _ _ _ _ _
      k_extra "wk"
      have e7 : ((degI oF (oF.length - 1) : Int) + 1).toNat = degI oF (oF.length - 1) + 1 := by omega
      rw [e7] at hA hN9
      have q5 : IntsAre (wo.take (degI oF (oF.length - 1) + 1)) (opd0 p xs ys) := by rw [hop]; exact hwo.take _
      have l10 : (wo.take (degI oF (oF.length - 1) + 1)).length ≤ 1000000 := by rw [List.length_take]; omega
      generalize wo.take (degI oF (oF.length - 1) + 1) = wF at *
      clear e7 hop
      have l5 := q5.length
      have l9z : (opd p xs ys).length = wF.length := by unfold opd; rw [List.length_map]; omega
      refine' r_mapK (inG (opd p xs ys)) (hN9 false _) ⟨_, _, rfl⟩ hK9.handled hA ?g1 ?g0 ?g2 inG.zero (fun _ _ _ q => q.len (by omega)) ?step ?done
      case g0 => decide
      case g2 => rfl
      case g1 => k_extra "m mem"
      case step =>
        clear hA
        intro C acc i ys' Gs v F s hi' hG hV H
        obtain ⟨hv, rfl⟩ := hV
        obtain ⟨na, ta, rfl, hna⟩ := q5.at i v hv
        have hA := H.nil1 hG.2.2
        clear H
        k_extra "wk"
        exact hG.hold (by unfold opd; rw [List.getElem?_map, hna]; rfl) hA (by k_extra "m facts")
      case done =>
        clear hA
        intro C acc ys' Gs s hG _ s H
        have hI := hG.done l9z
        have H1 := H.nil0 hG.2.2
        have hA := At.fzL H1 .head
        clear H H1
        k_extra "wk"
        exact h _ _ _ hI (At.to' hA (by k_extra "m sub") (by k_extra "m facts"))
theorem opd_length (p : Int) (xs ys : List Int) : (opd p xs ys).length ≤ xs.length := by
  unfold opd opd0
  rw [List.length_map, List.length_take, (opdS_length _ _ _ _ _ _).1]
  exact Nat.min_le_right _ _
end
section
local macro_rules | `(tactic| k_extra "m upto") => `(tactic| exact slicePick_upto _ _ (by omega))
local macro_rules | `(tactic| walk_at "call ref") => `(tactic| ((with_reducible rename At _ _ _ _ => $(Lean.mkIdent `hA):ident); refine r_use ?_; refine' s_degI ?W ?hk $(Lean.mkIdent `hA):ident ?hm ?hi ?h0 ?h1 ?_; (case W => assumption); (case hk => k_extra "m ok"); (case hm => k_extra "m mem"); (case hi => k_extra "m ints"); (case h0 => k_extra "m lens"); (case h1 => k_extra "m lens"); clear $(Lean.mkIdent `hA):ident; intro $(Lean.mkIdent `t9):ident $(Lean.mkIdent `s9):ident $(Lean.mkIdent `hA):ident))
local macro_rules | `(tactic| walk_at "call ref") => `(tactic| ((with_reducible rename At _ _ _ _ => $(Lean.mkIdent `hA):ident); refine r_use ?_; refine' s_pfi ?W ?hk $(Lean.mkIdent `hA):ident ?hn ?hn2 ?_; (case W => assumption); (case hk => k_extra "m ok"); (case hn => assumption); (case hn2 => assumption); clear $(Lean.mkIdent `hA):ident; intro $(Lean.mkIdent `t9):ident $(Lean.mkIdent `s9):ident $(Lean.mkIdent `hA):ident))
local macro_rules | `(tactic| k_extra "m lenI") => `(tactic| with_reducible assumption)
local macro_rules | `(tactic| k_extra "m size") => `(tactic| with_reducible assumption)
local macro_rules | `(tactic| k_extra "m len") => `(tactic| with_reducible assumption)
section
variable {prog : Program} {w : World} {A : Around} {E : Value → Shared → Prop} {D : Dat} {Fs : List Fact} {R : List Res} {s : Shared} {Q : Value → Shared → Prop}
local macro_rules | `(tactic| k_extra "m lens2") => `(tactic| first | k_extra "m lens" | ((have hq := IntsAre.length $(Lean.mkIdent `hi9):ident); simp only [List.length_cons, List.length_nil]; omega))
local macro_rules | `(tactic| k_extra "m size") => `(tactic| ((have hq := IntsAre.length $(Lean.mkIdent `hi9):ident); (try simp only [List.length_append, List.length_cons, List.length_nil, List.length_replicate]); omega))
local macro_rules | `(tactic| walk_at "binaryOp Add ref ref") => `(tactic| ((with_reducible rename At _ _ _ _ => $(Lean.mkIdent `hA):ident); refine r_addT $(Lean.mkIdent `hA):ident (by k_extra "m mem") (by k_extra "m mem") (by k_extra "m lens2") (by k_extra "m lens2") (by k_extra "m lens2") ?_; clear $(Lean.mkIdent `hA):ident; intro $(Lean.mkIdent `y9):ident $(Lean.mkIdent `s9):ident $(Lean.mkIdent `hA):ident))
local macro_rules | `(tactic| walk_at "inplaceOp Add ref ref") => `(tactic| ((with_reducible rename At _ _ _ _ => $(Lean.mkIdent `hA):ident); refine' r_iaddL $(Lean.mkIdent `hA):ident ?rp ?hb ?hz ?_; (case rp => k_extra "m rp"); (case hb => k_extra "m pl"); (case hz => k_extra "m size"); clear $(Lean.mkIdent `hA):ident; intro $(Lean.mkIdent `s9):ident $(Lean.mkIdent `hA):ident))
local macro_rules | `(tactic| walk_at "ite") => `(tactic| ((with_reducible refine' ine_eq ?h ?_); (case h => omega)))
local macro_rules | `(tactic| walk_at "ite") => `(tactic| ((with_reducible refine' ine_ne ?h ?_); (case h => omega)))
local macro_rules | `(tactic| k_extra "m lenI") => `(tactic| with_reducible assumption)
local macro_rules | `(tactic| k_extra "m size") => `(tactic| with_reducible assumption)
local macro_rules | `(tactic| k_extra "m len") => `(tactic| with_reducible assumption)
/-- one step of inv's inner loop, optimized form -/
def jvJ (lm low r : List Int) (i : Nat) (st : List Int × List Int) (j : Nat) : List Int × List Int :=
  (st.1.set (i + j) (st.1.getD (i + j) 0 - lm.getD i 0 * r.getD j 0), st.2.set (i + j) (st.2.getD (i + j) 0 - low.getD i 0 * r.getD j 0))
def jvI (n : Nat) (lm low r : List Int) (st : List Int × List Int) (i : Nat) : List Int × List Int := (List.range (n - i)).foldl (jvJ lm low r i) st
def jvR (p : Int) (n : Nat) (low high : List Int) : List Int := opd p high low ++ List.replicate (n - (opd p high low).length) 0
def jvS (p : Int) (n : Nat) (lm low hm high : List Int) (k : Nat) : List Int × List Int := (List.range k).foldl (jvI n lm low (jvR p n low high)) (hm, high)
def jvGo (p : Int) (n : Nat) : Nat → List Int → List Int → List Int → List Int → Option (List Int × Int)
  | 0, lm, low, _, _ => if degI low (n - 1) = 0 then some (lm, low.getD 0 0) else none
  | k + 1, lm, low, hm, high => if degI low (n - 1) = 0 then some (lm, low.getD 0 0) else
      jvGo p n k ((jvS p n lm low hm high n).1.map fun k => k.fmod p) ((jvS p n lm low hm high n).2.map fun k => k.fmod p) lm low
theorem jvJ_length (lm low r : List Int) (i : Nat) (l : List Nat) (st : List Int × List Int) : (l.foldl (jvJ lm low r i) st).1.length = st.1.length ∧ (l.foldl (jvJ lm low r i) st).2.length = st.2.length := by
  induction l generalizing st with
  | nil => exact ⟨rfl, rfl⟩
  | cons a l ih => rw [List.foldl_cons]; have := ih (jvJ lm low r i st a); simpa [jvJ] using this
theorem jvS_length (p : Int) (n : Nat) (lm low hm high : List Int) (k : Nat) : (jvS p n lm low hm high k).1.length = hm.length ∧ (jvS p n lm low hm high k).2.length = high.length := by
  induction k with
  | zero => exact ⟨rfl, rfl⟩
  | succ k ih =>
    unfold jvS at ih ⊢
    rw [foldl_range_succG]
    unfold jvI at ih ⊢
    have q := jvJ_length lm low (jvR p n low high) k (List.range (n - k)) ((List.range k).foldl (fun st i => (List.range (n - i)).foldl (jvJ lm low (jvR p n low high) i) st) (hm, high))
    exact ⟨q.1.trans ih.1, q.2.trans ih.2⟩
theorem jvR_bd {p : Int} (h0 : 0 < p) (h1 : p < 2 ^ 60) (n : Nat) (low high : List Int) : Bd (jvR p n low high) := fun x hx => by
  rcases List.mem_append.mp hx with hx | hx
  · obtain ⟨a, _, rfl⟩ := List.mem_map.mp hx
    exact fmod_bd h0 h1
  · rw [(List.mem_replicate.mp hx).2]; decide
theorem jvGo_step {p : Int} {n k : Nat} {lm hm low high : List Int} {r : List Int × Int} (h : jvGo p n k lm low hm high = some r) (hd : ¬ degI low (n - 1) = 0) :
    ∃ k', k = k' + 1 ∧ jvGo p n k' ((jvS p n lm low hm high n).1.map fun k => k.fmod p) ((jvS p n lm low hm high n).2.map fun k => k.fmod p) lm low = some r := by
  cases k with
  | zero => rw [jvGo, if_neg hd] at h; cases h
  | succ k => rw [jvGo, if_neg hd] at h; exact ⟨k, rfl, h⟩
theorem jvGo_end {p : Int} {n k : Nat} {lm hm lmF low high : List Int} {xF : Int} (h : jvGo p n k lm low hm high = some (lmF, xF)) (hd : degI low (n - 1) = 0) : lmF = lm ∧ xF = low.getD 0 0 := by
  cases k <;> rw [jvGo, if_pos hd] at h <;> cases h <;> exact ⟨rfl, rfl⟩
/-- what inv asks of the class beside OC -/
structure OC2 (P : Params) (C : Addr) : Prop where
  o1 : plainGet (hd.heap_39 P) C "optimized_poly_rounded_div" = true
  o2 : findIn (hd.heap_39 P) (.ref C) "optimized_poly_rounded_div" = some (some (.ref 366))
set_option maxHeartbeats 4000000 in
set_option maxRecDepth 100000 in
theorem jv_for {C mk : Addr} (hC : OC w.params C mk) {name qual : Str} {params : Arguments} {body rest : List Stmt} {scope : Scope} {dV kV doc pm cdv ct oc : Value} {an od : Option Addr} {osl : Array (Option Value)} {L9 x a b c e lr nm new : Addr} {ns ms lm hm low high : List Int} {va vb vc ve vr : List Value} {p : Int} {Qf : Flow → Shared → Prop}
    (ho : (hd.heap_39 w.params).lookup 371 = some ⟨oc, od, .func (fnOf name qual params body scope dV kV doc pm an cdv ct), osl⟩) (hr : (wbOf body).drop 4 = rest)
    (W : Wd (hd.heap_39 w.params) D) (hK9 : Ok (A.deeper (envOfC qual scope L9 371 cdv)) 39) (hn : 1 < p) (hn2 : p < 2 ^ 20) (hc0 : CellF (L9 + 1) (.ref x) ∈ Fs) (hm0 : OptF C x p ns ms ∈ Fs) (h6 : ms.length < 900)
    (l1 : lm.length = ms.length + 1) (l2 : low.length = ms.length + 1) (l3 : hm.length = ms.length + 1) (l4 : high.length = ms.length + 1)
    (m2' : ListF b vb ∈ Fs) (m4' : ListF e ve ∈ Fs) (q1 : IntsAre ve lm) (q2 : IntsAre vc hm) (q4 : IntsAre va high) (q5 : IntsAre vb low) (q3 : IntsAre vr (jvR p (ms.length + 1) low high))
    (H : At D Fs (Lst new va :: Lst nm vc :: Lst lr vr :: Vars L9 [("lm", .ref e), ("hm", .ref c), ("low", .ref b), ("high", .ref a), ("r", .ref lr), ("nm", .ref nm), ("new", .ref new)] :: R) s)
    (h : ∀ nm new vn vw s', IntsAre vn ((jvS p (ms.length + 1) lm low hm high (ms.length + 1)).1.map fun k => k.fmod p) → IntsAre vw ((jvS p (ms.length + 1) lm low hm high (ms.length + 1)).2.map fun k => k.fmod p) → At D (ListF new vw :: ListF nm vn :: Fs) (Vars L9 [("lm", .ref nm), ("hm", .ref e), ("low", .ref new), ("high", .ref b)] :: R) s' → Qf .next s') :
    wpAny (model prog w) (A.deeper (envOfC qual scope L9 371 cdv)) (execs rest (envOfC qual scope L9 371 cdv)) Qf (fun _ _ => False) s := by
  obtain ⟨g1, g2, g3, g4, g5, f1, f2, f3, f4, f5, dct, m1, m2, m3, m4, k1, k2, k3, i1, i2⟩ := hC
  subst hr
  refine' use_body (P := fun b sc q c => Ok (A.deeper (envOfC q sc L9 371 c)) 39 → wpAny (model prog w) (A.deeper (envOfC q sc L9 371 c)) (execs ((wbOf b).drop 4) (envOfC q sc L9 371 c)) Qf (fun _ _ => False) s) ?h1 ho ?_ hK9
  case h1 => k_is
  clear hK9 ho
  intro hK9
  dsimp only [List.drop, wbOf]
  w_top off
  have hp : p ≠ 0 := by omega
  have hb := jvR_bd (by omega : 0 < p) (by omega) (ms.length + 1) low high
  have lr1 : (jvR p (ms.length + 1) low high).length = ms.length + 1 := by
    have := opd_length p high low
    unfold jvR; rw [List.length_append, List.length_replicate]; omega
  generalize hrr : jvR p (ms.length + 1) low high = rr9 at *
  have hA := H
  clear H
  iterate 1 walk1
  refine wpAny_mono (Q := fun fl s' => Hold (fl = .next ∧ ∃ wn ww, IntsAre wn (jvS p (ms.length + 1) lm low hm high (ms.length + 1)).1 ∧ IntsAre ww (jvS p (ms.length + 1) lm low hm high (ms.length + 1)).2 ∧ At D Fs (Lst new ww :: Lst nm wn :: Lst lr vr :: Vars L9 [("lm", .ref e), ("hm", .ref c), ("low", .ref b), ("high", .ref a), ("r", .ref lr), ("nm", .ref nm), ("new", .ref new)] :: R) s')) ?ifa ?ifb (fun _ _ e => e)
  case ifa =>
    k_extra "wk"
    have hcn : ((ms.length : Int) + 1 - 0).toNat = ms.length + 1 := by omega
    rw [hcn] at hA hN9
    clear hcn
    have hS : ∀ i, jvS p (ms.length + 1) lm low hm high (i + 1) = jvI (ms.length + 1) lm low rr9 (jvS p (ms.length + 1) lm low hm high i) i := fun i => by unfold jvS; rw [foldl_range_succG, hrr]
    have hSl := jvS_length p (ms.length + 1) lm low hm high
    have hS0 : jvS p (ms.length + 1) lm low hm high 0 = (hm, high) := rfl
    clear h
    generalize hSe : jvS p (ms.length + 1) lm low hm high = S at *
    refine r_for (fun i s => ∃ wn ww, IntsAre wn (S i).1 ∧ IntsAre ww (S i).2 ∧ At D (Tru :: Fs) (RItR I9 0 1 (ms.length + 1) i :: Lst new ww :: Lst nm wn :: Lst lr vr :: Vars L9 [("lm", .ref e), ("hm", .ref c), ("low", .ref b), ("high", .ref a), ("r", .ref lr), ("nm", .ref nm), ("new", .ref new)] :: R) s)
        (hN9 false D.ng) ⟨_, _, rfl⟩ hK9.handled ?_ ?_ ?_
    · exact ⟨vc, va, by rw [hS0]; exact q2, by rw [hS0]; exact q4, hA.to' (by k_extra "m sub") (by k_extra "m facts")⟩
    · clear hA
      obtain ⟨I1, rfl⟩ : ∃ I1, I1 = I9 := ⟨_, rfl⟩
      rintro i s hi ⟨wn, ww, hwn, hww, H⟩
      refine ⟨_, _, _, H, .head _, .head, ?_⟩
      rintro v F s ⟨⟨t1, rfl⟩, rfl⟩ hA
      clear H
      simp only [Int.zero_add, Int.mul_one]
      k_extra "wk"
      have hcn2 : ((ms.length : Int) + 1 - (i : Int) - 0).toNat = ms.length + 1 - i := by omega
      rw [hcn2] at hA hN9
      clear hcn2
      have hSi := hS i
      obtain ⟨k1, k2⟩ := hSl i
      generalize S i = st at *
      refine r_for (fun j s => ∃ wn ww, IntsAre wn ((List.range j).foldl (jvJ lm low rr9 i) st).1 ∧ IntsAre ww ((List.range j).foldl (jvJ lm low rr9 i) st).2 ∧ At D (Tru :: Fs) (RItR I9 0 1 (ms.length + 1 - i) j :: RItR I1 0 1 (ms.length + 1) (i + 1) :: Lst new ww :: Lst nm wn :: Lst lr vr :: Vars L9 [("lm", .ref e), ("hm", .ref c), ("low", .ref b), ("high", .ref a), ("r", .ref lr), ("nm", .ref nm), ("new", .ref new), ("i", .int i t1)] :: R) s)
        (hN9 false D.ng) ⟨_, _, rfl⟩ hK9.handled ?_ ?_ ?_
      · exact ⟨wn, ww, hwn, hww, hA.to' (by k_extra "m sub") (by k_extra "m facts")⟩
      · clear hA
        rintro j s hj ⟨xn, xw, hxn, hxw, H⟩
        refine ⟨_, _, _, H, .head _, .head, ?_⟩
        rintro v F s ⟨⟨t2, rfl⟩, rfl⟩ hA
        clear H
        simp only [Int.zero_add, Int.mul_one]
        obtain ⟨j1, j2⟩ := jvJ_length lm low rr9 i (List.range j) st
        have hm1 := mulOk_right (a := lm.getD ((i : Int)).toNat 0) (hb.getD ((j : Int)).toNat)
        have hm2 := mulOk_right (a := low.getD ((i : Int)).toNat 0) (hb.getD ((j : Int)).toNat)
        have b1 := l0 (i := i)
        have b2 := l0 (i := j)
        have b3 := l00 (i := i) (j := j)
        have n6 : ms.length + 1 ≤ 1000 := by omega
        have b4 := lij6 hj n6
        have b5 := li6 hi n6
        have hj2 : j < ms.length + 1 := by omega
        have b6 := li6 hj2 n6
        have b7 := li hi l1
        have b8 := li hi l2
        have b9 := li hj2 lr1
        have hfo : (List.range (j + 1)).foldl (jvJ lm low rr9 i) st = jvJ lm low rr9 i ((List.range j).foldl (jvJ lm low rr9 i) st) j := foldl_range_succG _ _ _
        generalize (List.range j).foldl (jvJ lm low rr9 i) st = st2 at *
        have c1 := lij hj ((j1.trans k1).trans l3)
        have c2 := lij hj ((j2.trans k2).trans l4)
        have c3 := lijN hj (hxn.length.trans ((j1.trans k1).trans l3))
        have c4 := lijN hj (hxw.length.trans ((j2.trans k2).trans l4))
        k_extra "wk"
        have e1 := tn2 (i := i) (j := j)
        have e2 := tn1 (i := i)
        have e3 := tn1 (i := j)
        rw [hfo]
        rw [e1, e2, e3] at hA
        exact ⟨_, _, ints_set hxn (i + j) _ _, ints_set hxw (i + j) _ _, hA.to' (by k_extra "m sub") (by k_extra "m facts")⟩
      · clear hA
        rintro s ⟨xn, xw, hxn, hxw, H⟩
        refine ⟨_, _, _, H, .head _, .head, fun s hA => ?_⟩
        clear H
        show wpAny _ _ _ _ _ _
        k_extra "wk"
        have hSi' : S (i + 1) = (List.range (ms.length + 1 - i)).foldl (jvJ lm low rr9 i) st := hSi
        rw [hSi']
        exact ⟨xn, xw, hxn, hxw, hA.to' (by k_extra "m sub") (by k_extra "m facts")⟩
    · clear hA
      rintro s ⟨xn, xw, hxn, hxw, H⟩
      refine ⟨_, _, _, H, .head _, .head, fun s hA => ?_⟩
      exact ⟨rfl, xn, xw, hxn, hxw, hA.to' (by k_extra "m sub") (by k_extra "m facts")⟩
  case ifb =>
    clear hA
    rintro _ s ⟨rfl, wn, ww, hwn, hww, hA0⟩
    dsimp only
    obtain ⟨k1', k2'⟩ := jvS_length p (ms.length + 1) lm low hm high (ms.length + 1)
    generalize jvS p (ms.length + 1) lm low hm high (ms.length + 1) = sF at *
    have hA := At.fzL (At.fzL hA0 (l := nm) (by k_extra "m rm")) (l := new) (by k_extra "m rm")
    clear hA0
    have z1 := hwn.length
    have z2 := hww.length
    k_extra "wk"
    have y1 : (sF.1.map fun k => k.fmod p).length = wn.length := by rw [List.length_map]; omega
    have y2 : (sF.2.map fun k => k.fmod p).length = ww.length := by rw [List.length_map]; omega
    refine' r_mapK (inG (sF.1.map fun k => k.fmod p)) (hN9 false _) ⟨_, _, rfl⟩ hK9.handled hA ?g1 ?g0 ?g2 inG.zero (fun _ _ _ q => q.len (by omega)) ?step ?done
    case g0 => decide
    case g2 => rfl
    case g1 => k_extra "m mem"
    case step =>
      clear hA
      intro C acc i ys' Gs v F s hi' hG hV H
      obtain ⟨hv, rfl⟩ := hV
      obtain ⟨na, ta, rfl, hna⟩ := hwn.at i v hv
      have hA := H.nil1 hG.2.2
      clear H
      k_extra "wk"
      exact hG.hold (by rw [List.getElem?_map, hna]; rfl) hA (by k_extra "m facts")
    case done =>
    clear hA
    intro C acc1 ys1 Gs s hG H
    have hI1 := hG.done y1
    have hA := H.nil0 hG.2.2
    clear H hG
    k_extra "wk"
    change At D _ _ _ at hA
    refine ⟨_, _, _, _, hA, by k_extra "m rm", fun s H => ?_⟩
    clear hA
    have hA : At D _ _ s := H
    clear H hN9
    k_extra "wk"
    refine' r_mapK (inG (sF.2.map fun k => k.fmod p)) (hN9 false _) ⟨_, _, rfl⟩ hK9.handled hA ?g1 ?g0 ?g2 inG.zero (fun _ _ _ q => q.len (by omega)) ?step ?done
    case g0 => decide
    case g2 => rfl
    case g1 => k_extra "m mem"
    case step =>
      clear hA
      intro C acc i ys' Gs v F s hi' hG hV H
      obtain ⟨hv, rfl⟩ := hV
      obtain ⟨na, ta, rfl, hna⟩ := hww.at i v hv
      have hA := H.nil1 hG.2.2
      clear H
      k_extra "wk"
      exact hG.hold (by rw [List.getElem?_map, hna]; rfl) hA (by k_extra "m facts")
    case done =>
    clear hA
    intro C acc2 ys2 Gs s hG H
    have hI2 := hG.done y2
    have hA := H.nil0 hG.2.2
    clear H hG
    k_extra "wk"
    change At D _ _ _ at hA
    refine ⟨_, _, _, _, hA, by k_extra "m rm", fun s H => ?_⟩
    clear hA
    have hA : At D _ _ s := At.fzL (At.fzL H (l := acc1) (by k_extra "m rm")) (l := acc2) (by k_extra "m rm")
    clear H hN9
    k_extra "wk"
    exact h acc1 acc2 ys1 ys2 _ hI1 hI2 (hA.to' (by k_extra "m sub") (by k_extra "m facts"))
end
section
local macro_rules | `(tactic| k_extra "m lens2") => `(tactic| first | k_extra "m lens" | ((have hq := IntsAre.length $(Lean.mkIdent `hi9):ident); simp only [List.length_cons, List.length_nil]; omega))
local macro_rules | `(tactic| k_extra "m size") => `(tactic| ((have hq := IntsAre.length $(Lean.mkIdent `hi9):ident); (try simp only [List.length_append, List.length_cons, List.length_nil, List.length_replicate]); omega))
local macro_rules | `(tactic| walk_at "binaryOp Add ref ref") => `(tactic| ((with_reducible rename At _ _ _ _ => $(Lean.mkIdent `hA):ident); refine r_addT $(Lean.mkIdent `hA):ident (by k_extra "m mem") (by k_extra "m mem") (by k_extra "m lens2") (by k_extra "m lens2") (by k_extra "m lens2") ?_; clear $(Lean.mkIdent `hA):ident; intro $(Lean.mkIdent `y9):ident $(Lean.mkIdent `s9):ident $(Lean.mkIdent `hA):ident))
local macro_rules | `(tactic| walk_at "inplaceOp Add ref ref") => `(tactic| ((with_reducible rename At _ _ _ _ => $(Lean.mkIdent `hA):ident); refine' r_iaddL $(Lean.mkIdent `hA):ident ?rp ?hb ?hz ?_; (case rp => k_extra "m rp"); (case hb => k_extra "m pl"); (case hz => k_extra "m size"); clear $(Lean.mkIdent `hA):ident; intro $(Lean.mkIdent `s9):ident $(Lean.mkIdent `hA):ident))
local macro_rules | `(tactic| walk_at "ite") => `(tactic| ((with_reducible refine' ine_eq ?h ?_); (case h => omega)))
local macro_rules | `(tactic| walk_at "ite") => `(tactic| ((with_reducible refine' ine_ne ?h ?_); (case h => omega)))
local macro_rules | `(tactic| k_extra "m lenI") => `(tactic| with_reducible assumption)
local macro_rules | `(tactic| k_extra "m size") => `(tactic| with_reducible assumption)
local macro_rules | `(tactic| k_extra "m len") => `(tactic| with_reducible assumption)
section
variable {prog : Program} {w : World} {A : Around} {E : Value → Shared → Prop} {D : Dat} {Fs : List Fact} {R : List Res} {s : Shared} {Q : Value → Shared → Prop}
def DivIOk (C : Addr) : Prop := ∀ {prog : Program} {w : World} {A : Around} {E : Value → Shared → Prop} {D : Dat} {Fs : List Fact} {R : List Res} {s : Shared} {Q : Value → Shared → Prop} {x : Addr} {ns ms : List Int} {p k : Int} {t1 : Tok} (_ : Wd (hd.heap_39 w.params) D) (_ : ∀ t ∈ WT, t ∈ D.tabs) (_ : Ok A 24) (_ : At D Fs R s) (_ : 1 < p) (_ : p < 2 ^ 20) (_ : OptF C x p ns ms ∈ Fs) (_ : ns.length = ms.length) (_ : ms.length < 1000) (_ : 0 < ms.length)
    (_ : ∀ x s', At D (OptF C x p (plnDiv p ns k) ms :: Fs) R s' → Q (.ref x) s'), wpAny (model prog w) A (binaryOp .Div (.ref x) (.int k t1)) Q E s
local macro_rules | `(tactic| walk_at "binaryOp Div ref int") => `(tactic| ((with_reducible rename At _ _ _ _ => $(Lean.mkIdent `hA):ident); refine' (show DivIOk _ by assumption) ?W ?T ?hk $(Lean.mkIdent `hA):ident ?hn ?hn2 ?hm ?h5 ?h6 ?h8 ?_; (case W => assumption); (case T => assumption); (case hk => k_extra "m ok"); (case hn => assumption); (case hn2 => assumption); (case hm => k_extra "m mem"); (case h5 => k_extra "m lens"); (case h6 => k_extra "m lens"); (case h8 => k_extra "m lens"); clear $(Lean.mkIdent `hA):ident; intro $(Lean.mkIdent `x9):ident $(Lean.mkIdent `s9):ident $(Lean.mkIdent `hA):ident))
set_option maxHeartbeats 4000000 in
set_option maxRecDepth 100000 in
theorem s_G_divI {C mk : Addr} (hC : OC w.params C mk) (hMk : MadeOk C mk) {x : Addr} {ns ms : List Int} {p k : Int} {t1 : Tok} (W : Wd (hd.heap_39 w.params) D) (T : ∀ t ∈ WT, t ∈ D.tabs) (hk : Ok A 24) (H : At D Fs R s) (hn : 1 < p) (hn2 : p < 2 ^ 20) (hm : OptF C x p ns ms ∈ Fs) (h5 : ns.length = ms.length) (h6 : ms.length < 1000) (h8 : 0 < ms.length)
    (h : ∀ x s', At D (OptF C x p (plnDiv p ns k) ms :: Fs) R s' → Q (.ref x) s') : codeAny (model prog w) A (.call (.ref 354) ⟨[.ref x, .int k t1], []⟩) (Ret Q) s := by
  obtain ⟨g1, g2, g3, g4, g5, f1, f2, f3, f4, f5, dct, m1, m2, m3, m4, k1, k2, k3, i1, i2⟩ := hC
  have hp : p ≠ 0 := by omega
  have hbq := pfi_in (a := k) hn
  have hmk : ∀ a, IntMulOk a (pfi k p) := fun a => mulOk_right ⟨by omega, by omega⟩
  refine' v_callc [] (fun L => [(L + 2, .int k t1), (L + 1, .ref x)]) (fun L => []) ?W H hk ?ho ?hcd ?hb ?hl ?hm ?hcm ?hum ?hnd ?hud ?_ ?c2 ?c3 ?c4
  k_extra "m enterc"
  clear H
  k_extra "wk"
  have l2 := hi9.length
  have hlen : (ns.map fun a => (a * pfi k p).fmod p).length = v9.length := by simp; omega
  refine' r_mapK (inG (ns.map fun a => (a * pfi k p).fmod p)) (hN9 false _) ⟨_, _, rfl⟩ hK9.handled hA ?g1 ?g0 ?g2 inG.zero (fun _ _ _ q => q.len (by omega)) ?step ?done
  case g0 => decide
  case g2 => rfl
  case g1 => k_extra "m mem"
  case step =>
    clear hA
    intro C acc i ys Gs v F s hi hG hV H
    obtain ⟨hv, rfl⟩ := hV
    obtain ⟨na, ta, rfl, hna⟩ := hi9.at i v hv
    have hA := H.nil1 hG.2.2
    have hmn := hmk na
    clear H
    k_extra "wk"
    exact hG.hold (by rw [List.getElem?_map, hna]; rfl) hA (by k_extra "m facts")
  case done =>
    clear hA
    intro C acc ys Gs s hG _ s H
    have hI := hG.done hlen
    have H1 := H.nil0 hG.2.2
    have hA := At.fzL H1 .head
    have hle := hI.length
    clear H H1
    k_extra "wk"
    refine h _ _ ?_
    have e : plnDiv p ns k = (ns.map fun a => (a * pfi k p).fmod p).map (fun k => k.fmod p) := by simp [plnDiv]
    rw [e]
    exact At.to' hA (by k_extra "m sub") (by k_extra "m facts")
theorem jnv_start {a b c z e : Addr} {v u zz : List Value} {t t' t2 t3 t4 : Tok} {k k2 : Nat} {ns ms : List Int} (H : At D Fs (Lst a (v ++ [.int 1 t]) :: Lst b (u ++ [.int 0 t']) :: Lst c (List.replicate k (.int 0 t2)) :: Lst z zz :: Lst e ([.int 1 t3] ++ List.replicate k2 (.int 0 t4)) :: R) s) (hq : IntsAre u ns) (hi : IntsAre v ms) :
    ∃ va vb vc ve, IntsAre ve ([1] ++ List.replicate k2 0) ∧ IntsAre vc (List.replicate k 0) ∧ IntsAre va (ms ++ [1]) ∧ IntsAre vb (ns ++ [0]) ∧ At D (ListF a va :: ListF b vb :: ListF c vc :: ListF e ve :: Fs) R s := by
  have H4 := At.fzL (At.fzL (At.fzL (At.fzL H .head) .head) .head) (.tail .head)
  exact ⟨_, _, _, _, (IntsAre.cons _ _ .nil).append (ints_rep _ _ _), ints_rep _ _ _, hi.append (ints_one _), hq.append (ints_zero _), (H4.to' (Sub.drop (Sub.refl _)) (by k_extra "m facts"))⟩
local macro_rules | `(tactic| walk_at "call ref") => `(tactic| ((with_reducible rename At _ _ _ _ => $(Lean.mkIdent `hA):ident); refine r_use ?_; refine' s_G_oprd (show OC _ _ _ by assumption) ?W ?hk $(Lean.mkIdent `hA):ident ?hn ?hn2 ?hmx ?hm ?hi ?hm2 ?hi2 ?h0 ?h1 ?h2 ?_; (case W => assumption); (case hk => k_extra "m ok"); (case hn => assumption); (case hn2 => assumption); (case hmx => k_extra "m mem"); (case hm => k_extra "m mem"); (case hi => k_extra "m ints"); (case hm2 => k_extra "m mem"); (case hi2 => k_extra "m ints"); (case h0 => k_extra "m lens"); (case h1 => k_extra "m lens"); (case h2 => k_extra "m lens"); clear $(Lean.mkIdent `hA):ident; intro $(Lean.mkIdent `l9):ident $(Lean.mkIdent `v9):ident $(Lean.mkIdent `s9):ident $(Lean.mkIdent `hi9):ident $(Lean.mkIdent `hA):ident))
set_option maxHeartbeats 4000000 in
set_option maxRecDepth 100000 in
theorem jv_turn {C mk : Addr} (hC : OC w.params C mk) (hC2 : OC2 w.params C) {name qual : Str} {params : Arguments} {body rest : List Stmt} {scope : Scope} {dV kV doc pm cdv ct oc : Value} {an od : Option Addr} {osl : Array (Option Value)} {L9 x a b c e : Addr} {ns ms lm hm low high : List Int} {va vb vc ve : List Value} {p : Int} {Qf : Flow → Shared → Prop}
    (ho : (hd.heap_39 w.params).lookup 371 = some ⟨oc, od, .func (fnOf name qual params body scope dV kV doc pm an cdv ct), osl⟩) (hr : wbOf body = rest)
    (W : Wd (hd.heap_39 w.params) D) (hK9 : Ok (A.deeper (envOfC qual scope L9 371 cdv)) 39) (hn : 1 < p) (hn2 : p < 2 ^ 20) (hc0 : CellF (L9 + 1) (.ref x) ∈ Fs) (hm0 : OptF C x p ns ms ∈ Fs) (h6 : ms.length < 900)
    (l1 : lm.length = ms.length + 1) (l2 : low.length = ms.length + 1) (l3 : hm.length = ms.length + 1) (l4 : high.length = ms.length + 1)
    (m0' : ListF a va ∈ Fs) (m2' : ListF b vb ∈ Fs) (m5' : ListF c vc ∈ Fs) (m4' : ListF e ve ∈ Fs) (q1 : IntsAre ve lm) (q2 : IntsAre vc hm) (q4 : IntsAre va high) (q5 : IntsAre vb low)
    (H : At D Fs (Vars L9 [("lm", .ref e), ("hm", .ref c), ("low", .ref b), ("high", .ref a)] :: R) s)
    (h : ∀ nm new vn vw s', IntsAre vn ((jvS p (ms.length + 1) lm low hm high (ms.length + 1)).1.map fun k => k.fmod p) → IntsAre vw ((jvS p (ms.length + 1) lm low hm high (ms.length + 1)).2.map fun k => k.fmod p) → At D (ListF new vw :: ListF nm vn :: Fs) (Vars L9 [("lm", .ref nm), ("hm", .ref e), ("low", .ref new), ("high", .ref b)] :: R) s' → Qf .next s') :
    wpAny (model prog w) (A.deeper (envOfC qual scope L9 371 cdv)) (execs rest (envOfC qual scope L9 371 cdv)) Qf (fun _ _ => False) s := by
  obtain ⟨g1, g2, g3, g4, g5, f1, f2, f3, f4, f5, dct, m1, m2, m3, m4, k1, k2, k3, i1, i2⟩ := id hC
  obtain ⟨o1, o2⟩ := id hC2
  subst hr
  have hp : p ≠ 0 := by omega
  refine' use_body (P := fun b sc q c => Ok (A.deeper (envOfC q sc L9 371 c)) 39 → wpAny (model prog w) (A.deeper (envOfC q sc L9 371 c)) (execs (wbOf b) (envOfC q sc L9 371 c)) Qf (fun _ _ => False) s) ?h1 ho ?_ hK9
  case h1 => k_is
  clear hK9 ho
  intro hK9
  dsimp only [List.drop, wbOf]
  w_top off
  have L1 := q1.length
  have L2 := q2.length
  have L3 := q4.length
  have L4 := q5.length
  have L5 := opd_length p high low
  have hA := H
  clear H
  k_extra "wk"
  have L6 := hi9.length
  have eR : ((ms.length : Int) + 1 - (v9.length : Int)).toNat = ms.length + 1 - (opd p high low).length := by omega
  rw [eR] at hA
  clear eR
  have hr : ∀ t, IntsAre (v9 ++ List.replicate (ms.length + 1 - (opd p high low).length) (.int 0 t)) (jvR p (ms.length + 1) low high) := fun t => hi9.append (ints_rep _ _ _)
  generalize hvr : v9 ++ List.replicate _ _ = vr at hA
  have hr' : IntsAre vr (jvR p (ms.length + 1) low high) := hvr ▸ hr _
  clear hr hvr
  refine' r_mapK (cpG vc) (hN9 false _) ⟨_, _, rfl⟩ hK9.handled hA ?g1 ?g0 ?g2 cpG.zero (fun _ _ _ q => q.len (by omega)) ?step ?done
  case g0 => decide
  case g2 => rfl
  case g1 => k_extra "m mem"
  case step =>
    clear hA
    intro C acc i ys' Gs v F s hi' hG hV H
    obtain ⟨hv, rfl⟩ := hV
    obtain ⟨_, _, rfl⟩ := id hG
    have hA := H
    clear H
    rw [List.nil_append] at hA
    k_extra "wk"
    exact hG.hold hv hA (by k_extra "m facts")
  case done =>
  clear hA
  intro C nm ys' Gs s hG H
  obtain ⟨e1, rfl⟩ := hG.done
  rw [e1] at H
  have hA := H
  clear H hG
  rw [List.nil_append] at hA
  k_extra "wk"
  change At D _ _ _ at hA
  refine ⟨_, _, _, _, hA, by k_extra "m rm", fun s H => ?_⟩
  clear hA
  have hA : At D _ _ s := H
  clear H hN9
  k_extra "wk"
  refine' r_mapK (cpG va) (hN9 false _) ⟨_, _, rfl⟩ hK9.handled hA ?g1 ?g0 ?g2 cpG.zero (fun _ _ _ q => q.len (by omega)) ?step ?done
  case g0 => decide
  case g2 => rfl
  case g1 => k_extra "m mem"
  case step =>
    clear hA
    intro C acc i ys' Gs v F s hi' hG hV H
    obtain ⟨hv, rfl⟩ := hV
    obtain ⟨_, _, rfl⟩ := id hG
    have hA := H
    clear H
    rw [List.nil_append] at hA
    k_extra "wk"
    exact hG.hold hv hA (by k_extra "m facts")
  case done =>
  clear hA
  intro C new ys' Gs s hG H
  obtain ⟨e1, rfl⟩ := hG.done
  rw [e1] at H
  have hA := H
  clear H hG
  rw [List.nil_append] at hA
  k_extra "wk"
  change At D _ _ _ at hA
  refine ⟨_, _, _, _, hA, by k_extra "m rm", fun s H => ?_⟩
  clear hA
  obtain ⟨lr, hA⟩ : ∃ lr, At D Fs (Lst new va :: Lst nm vc :: Lst lr vr :: Vars L9 [("lm", .ref e), ("hm", .ref c), ("low", .ref b), ("high", .ref a), ("r", .ref lr), ("nm", .ref nm), ("new", .ref new)] :: R) s := ⟨_, H.to' (by k_extra "m sub") (by k_extra "m facts")⟩
  clear H hN9
  dsimp only
  refine' jv_for hC (vc := vc) (x := x) ?ho ?hr W hK9 hn hn2 hc0 hm0 h6 l1 l2 l3 l4 m2' m4' q1 q2 q4 q5 hr' hA h
  case ho => k_is
  case hr => exact rfl
set_option maxHeartbeats 4000000 in
set_option maxRecDepth 100000 in
theorem s_G_inv {C mk : Addr} (hC : OC w.params C mk) (hC2 : OC2 w.params C) (hMk : MadeOk C mk) (hDv : DivIOk C) {x : Addr} {ns ms lmF : List Int} {xF p : Int} {k0 : Nat} (W : Wd (hd.heap_39 w.params) D) (T : ∀ t ∈ WT, t ∈ D.tabs) (hk : Ok A 40) (H : At D Fs R s) (hn : 1 < p) (hn2 : p < 2 ^ 20) (hm : OptF C x p ns ms ∈ Fs) (h5 : ns.length = ms.length) (h6 : ms.length < 900) (h8 : 0 < ms.length)
    (hgo : jvGo p (ms.length + 1) k0 ([1] ++ List.replicate ms.length 0) (ns ++ [0]) (List.replicate (ms.length + 1) 0) (ms ++ [1]) = some (lmF, xF))
    (h : ∀ x s', At D (OptF C x p (plnDiv p ((lmF.take ms.length).map fun k => k.fmod p) xF) ms :: Fs) R s' → Q (.ref x) s') : codeAny (model prog w) A (.call (.ref 371) ⟨[.ref x], []⟩) (Ret Q) s := by
  obtain ⟨g1, g2, g3, g4, g5, f1, f2, f3, f4, f5, dct, m1, m2, m3, m4, k1, k2, k3, i1, i2⟩ := id hC
  obtain ⟨o1, o2⟩ := id hC2
  have hp : p ≠ 0 := by omega
  refine' v_callc [] (fun L => [(L + 1, .ref x)]) (fun L => []) ?W H hk ?ho ?hcd ?hb ?hl ?hm ?hcm ?hum ?hnd ?hud ?_ ?c2 ?c3 ?c4
  k_extra "m enterc"
  clear H
  k_extra "wk"
  obtain ⟨va, vb, vc, ve, q1, q2, q4, q5, H1⟩ := jnv_start (ns := ns) hA (by assumption) hi9
  clear hA
  have eN : ((ms.length : Int)).toNat = ms.length := by omega
  have eN1 : ((ms.length : Int) + 1).toNat = ms.length + 1 := by omega
  rw [eN] at q1
  rw [eN1] at q2
  clear eN eN1
  refine r_while (fun k s => ∃ lm low hm high, lm.length = ms.length + 1 ∧ low.length = ms.length + 1 ∧ hm.length = ms.length + 1 ∧ high.length = ms.length + 1 ∧ jvGo p (ms.length + 1) k lm low hm high = some (lmF, xF) ∧
      ∃ a b c e va vb vc ve, IntsAre ve lm ∧ IntsAre vc hm ∧ IntsAre va high ∧ IntsAre vb low ∧ At D (ListF a va :: ListF b vb :: ListF c vc :: ListF e ve :: CellF (L9 + 1) (.ref x) :: Fs) (Vars L9 [("lm", .ref e), ("hm", .ref c), ("low", .ref b), ("high", .ref a)] :: R) s) ?_ k0
    ⟨_, _, _, _, by simp, by simp; omega, by simp, by simp, hgo, _, _, _, _, va, vb, vc, ve, q1, q2, q4, q5, H1.to' (by k_extra "m sub") (by k_extra "m facts")⟩
  clear H1
  rintro k s ⟨lm, low, hm', high, l1, l2, l3, l4, hg, a, b, c, e, va, vb, vc, ve, q1, q2, q4, q5, hA⟩
  have L1 := q1.length
  have L2 := q2.length
  have L3 := q4.length
  have L4 := q5.length
  by_cases hd : degI low (ms.length + 1 - 1) = 0
  · obtain ⟨rfl, rfl⟩ := jvGo_end hg hd
    have hd' : degI low (low.length - 1) = 0 := by rw [l2]; exact hd
    clear hd L2 L3 l3 l4
    iterate 11 walk1
    clear hd'
    k_extra "wk"
    rw [Int.toNat_natCast] at hA
    have L6 : (ve.take ms.length).length = ms.length := by simp; omega
    have q6 := q1.take ms.length
    have H1 := At.fzL hA .head
    clear hA
    have hA := H1
    clear H1
    have L7 : ((lmF.take ms.length).map fun k => k.fmod p).length = ms.length := by simp; omega
    k_extra "wk"
    exact h _ _ (At.to' hA (by k_extra "m sub") (by k_extra "m factsD"))
  · obtain ⟨k', rfl, hg'⟩ := jvGo_step hg hd
    have hd' : ¬ degI low (low.length - 1) = 0 := by rw [l2]; exact hd
    clear hd L1 L2 L3
    iterate 11 walk1
    have k0 := jvS_length p (ms.length + 1) lm low hm' high (ms.length + 1)
    refine' jv_turn hC hC2 (va := va) (vb := vb) (vc := vc) (ve := ve) (lm := lm) (low := low) (hm := hm') (high := high) (x := x) ?ho ?hr W hK9 hn hn2 ?m8 (ns := ns) (ms := ms) ?m9 h6 l1 l2 l3 l4 ?m0 ?m2 ?m5 ?m4 q1 q2 q4 q5 hA ?_
    case ho => k_is
    case hr => exact rfl
    case m8 => k_extra "m mem"
    case m9 => k_extra "m mem"
    case m0 => k_extra "m mem"
    case m2 => k_extra "m mem"
    case m5 => k_extra "m mem"
    case m4 => k_extra "m mem"
    intro nm new vn vw s' r1 r1' r2
    exact ⟨k', Nat.lt_succ_self _, _, _, _, _, by rw [List.length_map]; exact k0.1.trans l3, by rw [List.length_map]; exact k0.2.trans l4, l1, l2, hg', _, _, _, _, _, _, _, _, r1, q1, q5, r1', r2.to' (by k_extra "m sub") (by k_extra "m facts")⟩
end
section
local macro_rules | `(tactic| walk_at "binaryOp Div ref int") => `(tactic| ((with_reducible rename At _ _ _ _ => $(Lean.mkIdent `hA):ident); refine' (show DivIOk _ by assumption) ?W ?T ?hk $(Lean.mkIdent `hA):ident ?hn ?hn2 ?hm ?h5 ?h6 ?h8 ?_; (case W => assumption); (case T => assumption); (case hk => k_extra "m ok"); (case hn => assumption); (case hn2 => assumption); (case hm => k_extra "m mem"); (case h5 => k_extra "m lens"); (case h6 => k_extra "m lens"); (case h8 => k_extra "m lens"); clear $(Lean.mkIdent `hA):ident; intro $(Lean.mkIdent `x9):ident $(Lean.mkIdent `s9):ident $(Lean.mkIdent `hA):ident))
local macro_rules | `(tactic| walk_at "call ref") => `(tactic| ((with_reducible rename At _ _ _ _ => $(Lean.mkIdent `hA):ident); refine r_use ?_; refine' s_G_oprd (show OC _ _ _ by assumption) ?W ?hk $(Lean.mkIdent `hA):ident ?hn ?hn2 ?hmx ?hm ?hi ?hm2 ?hi2 ?h0 ?h1 ?h2 ?_; (case W => assumption); (case hk => k_extra "m ok"); (case hn => assumption); (case hn2 => assumption); (case hmx => k_extra "m mem"); (case hm => k_extra "m mem"); (case hi => k_extra "m ints"); (case hm2 => k_extra "m mem"); (case hi2 => k_extra "m ints"); (case h0 => k_extra "m lens"); (case h1 => k_extra "m lens"); (case h2 => k_extra "m lens"); clear $(Lean.mkIdent `hA):ident; intro $(Lean.mkIdent `l9):ident $(Lean.mkIdent `v9):ident $(Lean.mkIdent `s9):ident $(Lean.mkIdent `hi9):ident $(Lean.mkIdent `hA):ident))
variable {prog : Program} {w : World} {A : Around} {E : Value → Shared → Prop} {D : Dat} {Fs : List Fact} {R : List Res} {s : Shared} {Q : Value → Shared → Prop}
/-- what truediv by an element asks of the class -/
def MulEOk (C : Addr) : Prop := ∀ {prog : Program} {w : World} {A : Around} {E : Value → Shared → Prop} {D : Dat} {Fs : List Fact} {R : List Res} {s : Shared} {Q : Value → Shared → Prop} {x y : Addr} {ns ks ms : List Int} {p : Int} (_ : Wd (hd.heap_39 w.params) D) (_ : ∀ t ∈ WT, t ∈ D.tabs) (_ : Ok A 24) (_ : At D Fs R s) (_ : 0 < p) (_ : p < 2 ^ 60) (_ : OptF C x p ns ms ∈ Fs) (_ : OptF C y p ks ms ∈ Fs) (_ : ns.length = ms.length) (_ : ks.length = ms.length) (_ : ms.length < 1000) (_ : 0 < ms.length) (_ : Bd ks) (_ : Bd ms)
    (_ : ∀ x s', At D (OptF C x p (optMul p ns ks ms) ms :: Fs) R s' → Q (.ref x) s'), wpAny (model prog w) A (binaryOp .Mult (.ref x) (.ref y)) Q E s
structure OC3 (P : Params) (C : Addr) : Prop where
  p1 : plainGet (hd.heap_39 P) C "inv" = true
  p2 : findIn (hd.heap_39 P) (.ref C) "inv" = some (some (.ref 371))
  p3 : plainGet (hd.heap_39 P) C "one" = true
  p4 : findIn (hd.heap_39 P) (.ref C) "one" = some (some (.ref 412))
  p5 : plainGet (hd.heap_39 P) C "zero" = true
  p6 : findIn (hd.heap_39 P) (.ref C) "zero" = some (some (.ref 419))
local macro_rules | `(tactic| walk_at "binaryOp Mult ref ref") => `(tactic| ((with_reducible rename At _ _ _ _ => $(Lean.mkIdent `hA):ident); refine' (show MulEOk _ by assumption) ?W ?T ?hk $(Lean.mkIdent `hA):ident ?hp0 ?hp1 ?hm ?hm2 ?h5 ?h7 ?h6 ?h8 ?hb ?hbm ?_; (case W => assumption); (case T => assumption); (case hk => k_extra "m ok"); (case hp0 => assumption); (case hp1 => assumption); (case hm => k_extra "m mem"); (case hm2 => k_extra "m mem"); (case h5 => k_extra "m lens"); (case h7 => k_extra "m lens"); (case h6 => assumption); (case h8 => assumption); (case hb => assumption); (case hbm => assumption); clear $(Lean.mkIdent `hA):ident; intro $(Lean.mkIdent `x9):ident $(Lean.mkIdent `s9):ident $(Lean.mkIdent `hA):ident))
local macro_rules | `(tactic| walk_at "call ref") => `(tactic| ((with_reducible rename At _ _ _ _ => $(Lean.mkIdent `hA):ident); refine r_use ?_; refine' s_G_inv (show OC _ _ _ by assumption) (show OC2 _ _ by assumption) (show MadeOk _ _ by assumption) (show DivIOk _ by assumption) ?W ?T ?hk $(Lean.mkIdent `hA):ident ?hn ?hn2 ?hm ?h5 ?h6 ?h8 ?hgo ?_; (case W => assumption); (case T => assumption); (case hk => k_extra "m ok"); (case hn => assumption); (case hn2 => assumption); (case hm => k_extra "m mem"); (case hgo => assumption); (case h5 => k_extra "m lens"); (case h6 => k_extra "m lens"); (case h8 => k_extra "m lens"); clear $(Lean.mkIdent `hA):ident; intro $(Lean.mkIdent `x9):ident $(Lean.mkIdent `s9):ident $(Lean.mkIdent `hA):ident))
set_option maxHeartbeats 4000000 in
set_option maxRecDepth 100000 in
theorem s_G_divE {C mk : Addr} (hC : OC w.params C mk) (hC2 : OC2 w.params C) (hC3 : OC3 w.params C) (hMk : MadeOk C mk) (hDv : DivIOk C) (hMl : MulEOk C) {x y : Addr} {ns ks ms lmF : List Int} {xF p : Int} {k0 : Nat} (W : Wd (hd.heap_39 w.params) D) (T : ∀ t ∈ WT, t ∈ D.tabs) (hk : Ok A 44) (H : At D Fs R s) (hn : 1 < p) (hn2 : p < 2 ^ 20) (hm : OptF C x p ns ms ∈ Fs) (hm2 : OptF C y p ks ms ∈ Fs) (h5 : ns.length = ms.length) (h7 : ks.length = ms.length) (h6 : ms.length < 900) (h8 : 0 < ms.length) (hlF : lmF.length = ms.length + 1) (hbm : Bd ms)
    (hgo : jvGo p (ms.length + 1) k0 ([1] ++ List.replicate ms.length 0) (ks ++ [0]) (List.replicate (ms.length + 1) 0) (ms ++ [1]) = some (lmF, xF))
    (h : ∀ x s', At D (OptF C x p (optMul p ns (plnDiv p ((lmF.take ms.length).map fun k => k.fmod p) xF) ms) ms :: Fs) R s' → Q (.ref x) s') : codeAny (model prog w) A (.call (.ref 354) ⟨[.ref x, .ref y], []⟩) (Ret Q) s := by
  obtain ⟨g1, g2, g3, g4, g5, f1, f2, f3, f4, f5, dct, m1, m2, m3, m4, k1, k2, k3, i1, i2⟩ := id hC
  obtain ⟨p1, p2, p3, p4, p5, p6⟩ := hC3
  have hp0 : 0 < p := by omega
  have hp1 : p < 2 ^ 60 := by omega
  have h6' : ms.length < 1000 := by omega
  have hbd := (plnDiv_in hp0 ((lmF.take ms.length).map fun k => k.fmod p) xF).bd hp1
  have hle : (plnDiv p ((lmF.take ms.length).map fun k => k.fmod p) xF).length = ms.length := by simp [plnDiv]; omega
  refine' v_callc [] (fun L => [(L + 2, .ref y), (L + 1, .ref x)]) (fun L => []) ?W H hk ?ho ?hcd ?hb ?hl ?hm ?hcm ?hum ?hnd ?hud ?_ ?c2 ?c3 ?c4
  k_extra "m enterc"
  clear H
  k_extra "wk"
  exact h _ _ (At.to' hA (by k_extra "m sub") (by k_extra "m facts"))
set_option maxHeartbeats 1000000 in
set_option maxRecDepth 100000 in
theorem s_G_eq {C mk : Addr} (hC : OC w.params C mk) {x y : Addr} {ns ks ms : List Int} {p : Int} (W : Wd (hd.heap_39 w.params) D) (hk : Ok A 20) (H : At D Fs R s) (hm : OptF C x p ns ms ∈ Fs) (hm2 : OptF C y p ks ms ∈ Fs) (h5 : ns.length = ms.length) (h7 : ks.length = ms.length) (h6 : ms.length < 1000)
    (h : ∀ s', At D Fs R s' → Q (.bool (decide (ns = ks))) s') : codeAny (model prog w) A (.call (.ref 385) ⟨[.ref x, .ref y], []⟩) (Ret Q) s := by
  obtain ⟨g1, g2, g3, g4, g5, f1, f2, f3, f4, f5, dct, m1, m2, m3, m4, k1, k2, k3, i1, i2⟩ := id hC
  refine' v_call [("other", .ref y), ("self", .ref x)] ?W H hk ?ho ?hcd ?hb ?hl ?hm ?_ ?c1 ?c2 ?c3 ?c4
  k_extra "m enter"
  clear H
  k_extra "wk"
  rename_i y1 v1 s1 e1
  have l1 := e1.length
  have l2 := hi9.length
  k_extra "wk"
  refine r_for (fun i s => (∀ j < i, ns[j]? = ks[j]?) ∧ At D (N9 :: Fs) (St9 i :: Vars L9 [] :: R) s)
    (hN9 D.ng) ⟨_, _, _, rfl⟩ hK9.handled ⟨fun _ h => absurd h (Nat.not_lt_zero _), hA.to' (by k_extra "m sub") (by k_extra "m facts")⟩ ?_ ?_
  · clear hA
    rintro i s hi ⟨hpre, H⟩
    refine ⟨_, _, _, H, .head _, .head, ?_⟩
    rintro v F s ⟨T1, a, b, rfl, ha, hb, rfl⟩ hA
    clear H
    obtain ⟨na, ta, rfl, hna⟩ := e1.at i a ha
    obtain ⟨nb, tb, rfl, hnb⟩ := hi9.at i b hb
    k_extra "wk"
    · rename_i e
      have q := h s9 (hA.to' (by k_extra "m sub") (by k_extra "m facts"))
      rw [ne_of_at hna hnb e] at q
      exact q
    · rename_i e
      exact ⟨⟨pre_succ hpre (by rw [hna, hnb, e]), hA.to' (by k_extra "m sub") (by k_extra "m facts")⟩⟩
  · clear hA
    rintro s ⟨hpre, H⟩
    refine ⟨_, _, _, H, .head _, .head, fun s hA => ?_⟩
    clear H
    show wpAny _ _ _ _ _ _
    k_extra "wk"
    have q := h s (hA.to' (by k_extra "m sub") (by k_extra "m facts"))
    rw [eq_of_pre (h5.trans h7.symm) (by rw [← l1]; exact hpre)] at q
    exact q
end
end
end
end
section
variable {prog : Program} {w : World} {A : Around} {E : Value → Shared → Prop} {D : Dat} {Fs : List Fact} {R : List Res} {s : Shared} {Q : Value → Shared → Prop}
theorem dvO : DivIOk 422 := by
  intro prog w A E D Fs R s Q x ns ms p k t1 W T hk H hn hn2 hm h5 h6 h8 h
  refine' o_binT W H (F := OptF 422 x p ns ms) hm .opt ?q1 ?q2 ?q3 (T := "int") rfl ?q4 (.inl rfl) ?q5 ?q6 ?q7 (r_use (s_G_divI (ocO _) madeO W T hk H hn hn2 hm h5 h6 h8 h))
  case q1 => k_is
  case q2 => k_is
  case q3 => k_is
  case q4 => k_is
  case q5 => k_is
  case q6 => k_is
  case q7 => k_is
theorem mlO : MulEOk 422 := fun W T hk H hp0 hp1 hm hm2 h5 h7 h6 h8 hb hbm h => d_O_mul W T hk H hp0 hp1 hm hm2 h5 h7 h6 h8 hb hbm h
theorem oc2O (P : Params) : OC2 P 422 := by
  constructor
  all_goals k_is
theorem oc3O (P : Params) : OC3 P 422 := by
  constructor
  all_goals k_is
theorem d_O_divE {x y : Addr} {ns ks ms lmF : List Int} {xF p : Int} {k0 : Nat} (W : Wd (hd.heap_39 w.params) D) (T : ∀ t ∈ WT, t ∈ D.tabs) (hk : Ok A 44) (H : At D Fs R s) (hn : 1 < p) (hn2 : p < 2 ^ 20) (hm : OptF 422 x p ns ms ∈ Fs) (hm2 : OptF 422 y p ks ms ∈ Fs) (h5 : ns.length = ms.length) (h7 : ks.length = ms.length) (h6 : ms.length < 900) (h8 : 0 < ms.length) (hlF : lmF.length = ms.length + 1) (hbm : Bd ms)
    (hgo : jvGo p (ms.length + 1) k0 ([1] ++ List.replicate ms.length 0) (ks ++ [0]) (List.replicate (ms.length + 1) 0) (ms ++ [1]) = some (lmF, xF))
    (h : ∀ x s', At D (OptF 422 x p (optMul p ns (plnDiv p ((lmF.take ms.length).map fun k => k.fmod p) xF) ms) ms :: Fs) R s' → Q (.ref x) s') : wpAny (model prog w) A (binaryOp .Div (.ref x) (.ref y)) Q E s := by
  refine' o_bin W H hm .opt ?h1 ?h2 ?h3 hm2 .opt (r_use (s_G_divE (ocO _) (oc2O _) (oc3O _) madeO dvO mlO W T hk H hn hn2 hm hm2 h5 h7 h6 h8 hlF hbm hgo fun z s' H' => h z s' H'))
  all_goals k_is
theorem d_O_eq {x y : Addr} {ns ks ms : List Int} {p : Int} (W : Wd (hd.heap_39 w.params) D) (hk : Ok A 22) (H : At D Fs R s) (hm : OptF 422 x p ns ms ∈ Fs) (hm2 : OptF 422 y p ks ms ∈ Fs) (h5 : ns.length = ms.length) (h7 : ks.length = ms.length) (h6 : ms.length < 1000)
    (h : ∀ s', At D Fs R s' → Q (.bool (decide (ns = ks))) s') : wpAny (model prog w) A (compareOp .Eq (.ref x) (.ref y)) Q E s := by
  obtain ⟨m2, I2, _⟩ := (IsObj.opt : IsObj 422 y (OptF 422 y p ks ms)).inst H hm2
  obtain ⟨ox, od, I2, _⟩ := I2.at
  refine cmp_ofEq ?_
  refine' o_cmp (tb := .ref 422) W H hk.cl hm .opt I2.type ?h2 ?h3 ?h4 (r_use (s_G_eq (ocO _) W (hk.mono (by omega)) H hm hm2 h5 h7 h6 fun s' H' => h s' H'))
  case h2 => k_is
  case h3 => k_is
  case h4 => k_is
theorem d_O_pow {x : Addr} {ns ms : List Int} {p : Int} {n : Nat} {t1 : Tok} (W : Wd (hd.heap_39 w.params) D) (T : ∀ t ∈ WT, t ∈ D.tabs) (hk : Ok A 60) (H : At D Fs R s) (hp0 : 0 < p) (hp1 : p < 2 ^ 60) (hm : OptF 422 x p ns ms ∈ Fs) (h5 : ns.length = ms.length) (h6 : ms.length < 1000) (h8 : 0 < ms.length) (hb : Bd ns) (hbm : Bd ms)
    (h : ∀ x s', At D (OptF 422 x p (optPow p ms n ns) ms :: Fs) R s' → Q (.ref x) s') : wpAny (model prog w) A (binaryOp .Pow (.ref x) (.int n t1)) Q E s := by
  refine' o_binT W H (F := OptF 422 x p ns ms) hm .opt ?q1 ?q2 ?q3 (T := "int") rfl ?q4 (.inl rfl) ?q5 ?q6 ?q7 (r_use (s_O_pow W T (hk.mono (by omega)) H hp0 hp1 hm h5 h6 h8 hb hbm h))
  case q1 => k_is
  case q2 => k_is
  case q3 => k_is
  case q4 => k_is
  case q5 => k_is
  case q6 => k_is
  case q7 => k_is
end
section
variable {prog : Program} {w : World} {A : Around} {E : Value → Shared → Prop} {D : Dat} {Fs : List Fact} {R : List Res} {s : Shared} {Q : Value → Shared → Prop}
theorem dvF : DivIOk 451 := by
  intro prog w A E D Fs R s Q x ns ms p k t1 W T hk H hn hn2 hm h5 h6 h8 h
  refine' o_binT W H (F := OptF 451 x p ns ms) hm .opt ?q1 ?q2 ?q3 (T := "int") rfl ?q4 (.inl rfl) ?q5 ?q6 ?q7 (r_use (s_G_divI (ocF _) madeF W T hk H hn hn2 hm h5 h6 h8 h))
  case q1 => k_is
  case q2 => k_is
  case q3 => k_is
  case q4 => k_is
  case q5 => k_is
  case q6 => k_is
  case q7 => k_is
theorem mlF : MulEOk 451 := fun W T hk H hp0 hp1 hm hm2 h5 h7 h6 h8 hb hbm h => d_F_mul W T hk H hp0 hp1 hm hm2 h5 h7 h6 h8 hb hbm h
theorem oc2F (P : Params) : OC2 P 451 := by
  constructor
  all_goals k_is
theorem oc3F (P : Params) : OC3 P 451 := by
  constructor
  all_goals k_is
theorem d_F_divE {x y : Addr} {ns ks ms lmF : List Int} {xF p : Int} {k0 : Nat} (W : Wd (hd.heap_39 w.params) D) (T : ∀ t ∈ WT, t ∈ D.tabs) (hk : Ok A 44) (H : At D Fs R s) (hn : 1 < p) (hn2 : p < 2 ^ 20) (hm : OptF 451 x p ns ms ∈ Fs) (hm2 : OptF 451 y p ks ms ∈ Fs) (h5 : ns.length = ms.length) (h7 : ks.length = ms.length) (h6 : ms.length < 900) (h8 : 0 < ms.length) (hlF : lmF.length = ms.length + 1) (hbm : Bd ms)
    (hgo : jvGo p (ms.length + 1) k0 ([1] ++ List.replicate ms.length 0) (ks ++ [0]) (List.replicate (ms.length + 1) 0) (ms ++ [1]) = some (lmF, xF))
    (h : ∀ x s', At D (OptF 451 x p (optMul p ns (plnDiv p ((lmF.take ms.length).map fun k => k.fmod p) xF) ms) ms :: Fs) R s' → Q (.ref x) s') : wpAny (model prog w) A (binaryOp .Div (.ref x) (.ref y)) Q E s := by
  refine' o_bin W H hm .opt ?h1 ?h2 ?h3 hm2 .opt (r_use (s_G_divE (ocF _) (oc2F _) (oc3F _) madeF dvF mlF W T hk H hn hn2 hm hm2 h5 h7 h6 h8 hlF hbm hgo fun z s' H' => h z s' H'))
  all_goals k_is
theorem d_F_eq {x y : Addr} {ns ks ms : List Int} {p : Int} (W : Wd (hd.heap_39 w.params) D) (hk : Ok A 22) (H : At D Fs R s) (hm : OptF 451 x p ns ms ∈ Fs) (hm2 : OptF 451 y p ks ms ∈ Fs) (h5 : ns.length = ms.length) (h7 : ks.length = ms.length) (h6 : ms.length < 1000)
    (h : ∀ s', At D Fs R s' → Q (.bool (decide (ns = ks))) s') : wpAny (model prog w) A (compareOp .Eq (.ref x) (.ref y)) Q E s := by
  obtain ⟨m2, I2, _⟩ := (IsObj.opt : IsObj 451 y (OptF 451 y p ks ms)).inst H hm2
  obtain ⟨ox, od, I2, _⟩ := I2.at
  refine cmp_ofEq ?_
  refine' o_cmp (tb := .ref 451) W H hk.cl hm .opt I2.type ?h2 ?h3 ?h4 (r_use (s_G_eq (ocF _) W (hk.mono (by omega)) H hm hm2 h5 h7 h6 fun s' H' => h s' H'))
  case h2 => k_is
  case h3 => k_is
  case h4 => k_is
theorem d_F_pow {x : Addr} {ns ms : List Int} {p : Int} {n : Nat} {t1 : Tok} (W : Wd (hd.heap_39 w.params) D) (T : ∀ t ∈ WT, t ∈ D.tabs) (hk : Ok A 60) (H : At D Fs R s) (hp0 : 0 < p) (hp1 : p < 2 ^ 60) (hm : OptF 451 x p ns ms ∈ Fs) (h5 : ns.length = ms.length) (h6 : ms.length < 1000) (h8 : 0 < ms.length) (hb : Bd ns) (hbm : Bd ms)
    (h : ∀ x s', At D (OptF 451 x p (optPow p ms n ns) ms :: Fs) R s' → Q (.ref x) s') : wpAny (model prog w) A (binaryOp .Pow (.ref x) (.int n t1)) Q E s := by
  refine' o_binT W H (F := OptF 451 x p ns ms) hm .opt ?q1 ?q2 ?q3 (T := "int") rfl ?q4 (.inl rfl) ?q5 ?q6 ?q7 (r_use (s_F_pow W T (hk.mono (by omega)) H hp0 hp1 hm h5 h6 h8 hb hbm h))
  case q1 => k_is
  case q2 => k_is
  case q3 => k_is
  case q4 => k_is
  case q5 => k_is
  case q6 => k_is
  case q7 => k_is
end
section
variable {prog : Program} {w : World} {A : Around} {E : Value → Shared → Prop} {D : Dat} {Fs : List Fact} {R : List Res} {s : Shared} {Q : Value → Shared → Prop}
def lawAt (ns : List Int) (k : Nat) : Int := let n := if k < ns.length then ns.getD k 0 else 5 * k + 2; if -1000000000 < n ∧ n < 1000000000 then n else n.fmod 1000003
set_option maxHeartbeats 4000000 in
set_option maxRecDepth 100000 in
theorem s_law_at {l : Addr} {vs : List Value} {ns : List Int} {k : Nat} {t : Tok} (W : Wd (hd.heap_39 w.params) D) (hK : Ok A 10) (H : At D Fs R s) (hm : ListF l vs ∈ Fs) (hi : IntsAre vs ns) (hz : vs.length < 2 ^ 60) (hk : k < 2 ^ 40)
    (h : ∀ t s', At D Fs R s' → Q (.int (lawAt ns k) t) s') : codeAny (model prog w) A (.call (.ref 467) ⟨[.ref l, .int k t], []⟩) (Ret Q) s := by
  refine' v_call [("k", .int k t), ("script", .ref l)] ?W H hK ?ho ?hcd ?hb ?hl ?hm ?_ ?c1 ?c2 ?c3 ?c4
  k_extra "m enter"
  clear H
  have hil := hi.length
  repeat' walk1
  all_goals (refine fin_int h hA (by k_extra "m sub") (by k_extra "m facts") ?_; have hil := hi.length; unfold lawAt; dsimp only; (try simp only [Int.toNat_natCast] at *); (repeat' split) <;> omega)


inductive Kd | pln | opt | f2
def EltF : Kd → Addr → Int → List Int → List Int → Fact
  | .pln, x, p, ns, ms => PlnF 183 297 x p ns ms
  | .opt, x, p, ns, ms => OptF 422 x p ns ms
  | .f2, x, p, ns, ms => OptF 451 x p ns ms
local macro_rules | `(tactic| walk_at "call ref") => `(tactic| ((with_reducible rename At _ _ _ _ => $(Lean.mkIdent `hA):ident); refine r_use ?_; refine' s_law_at ?W ?hk $(Lean.mkIdent `hA):ident ?hm ?hi ?hz ?kk ?_; (case W => assumption); (case hk => k_extra "m ok"); (case hm => k_extra "m mem"); (case hi => assumption); (case hz => k_extra "m lens"); (case kk => decide); clear $(Lean.mkIdent `hA):ident; intro $(Lean.mkIdent `t9):ident $(Lean.mkIdent `s9):ident $(Lean.mkIdent `hA):ident))
/-- the values of the coefficients of an element of any kind -/
def ElsH (kd : Kd) (p : Int) (vs : List Value) (ns : List Int) (h : Heap) : Prop := match kd with
  | .pln => FQs 183 p h vs ns
  | .opt => IntsAre vs ns
  | .f2 => IntsAre vs ns
theorem ElsH.ext {kd : Kd} {p : Int} {vs : List Value} {ns : List Int} {h h' : Heap} (k : Ext h h') : ElsH kd p vs ns h → ElsH kd p vs ns h' := by
  cases kd
  · exact fun x => FQs.ext k x
  · exact id
  · exact id
def ElsF (kd : Kd) (p : Int) (vs : List Value) (ns : List Int) : Fact := ⟨ElsH kd p vs ns, ElsH.ext⟩
theorem At.addF {F : Fact} (H : At D Fs R s) (h : F.holds (seen D R s.heap)) : At D (F :: Fs) R s := ⟨H.os, H.gens, H.tab, H.cs, H.nodup, H.res, H.base, fun G hG => by
  rcases List.mem_cons.mp hG with rfl | hG
  · exact h
  · exact H.facts _ hG⟩
theorem r_eoc {kd : Kd} {y : Addr} {p : Int} {ns ms : List Int} {name : Str} {expr : Bool} (W : Wd (hd.heap_39 w.params) D) (H : At D Fs R s) (hm : EltF kd y p ns ms ∈ Fs) (e : name = "coeffs")
    (h : ∀ tC vs s', vs.length = ns.length → At D (TupF tC vs :: ElsF kd p vs ns :: Fs) R s' → Q (.ref tC) s') : wpAny (model prog w) A (getAttr (.ref y) name expr) Q E s := by
  subst e
  cases kd with
  | pln =>
    refine' r_pc (K := hd.heap_39 w.params) W H ?h1 ?h2 ?h3 ?h4 (hm : PlnF 183 297 y p ns ms ∈ Fs) rfl fun tC vs s' hl H' => h tC vs s' hl H'
    case h1 => k_is
    case h2 => k_is
    case h3 => k_is
    case h4 => k_is
  | opt =>
    refine' r_oc (K := hd.heap_39 w.params) W H ?h1 ?h2 ?h3 ?h4 (hm : OptF 422 y p ns ms ∈ Fs) rfl fun tC vs s' hi H' => h tC vs s' hi.length (At.sub (At.addF H' (F := ElsF .opt p vs ns) hi) (subf_cons (.tail _ (.head _)) (subf_cons (.head _) fun F hF => .tail _ (.tail _ hF))))
    case h1 => k_is
    case h2 => k_is
    case h3 => k_is
    case h4 => k_is
  | f2 =>
    refine' r_oc (K := hd.heap_39 w.params) W H ?h1 ?h2 ?h3 ?h4 (hm : OptF 451 y p ns ms ∈ Fs) rfl fun tC vs s' hi H' => h tC vs s' hi.length (At.sub (At.addF H' (F := ElsF .f2 p vs ns) hi) (subf_cons (.tail _ (.head _)) (subf_cons (.head _) fun F hF => .tail _ (.tail _ hF))))
    case h1 => k_is
    case h2 => k_is
    case h3 => k_is
    case h4 => k_is
local macro_rules | `(tactic| walk_at "getAttr ref") => `(tactic| ((with_reducible rename At _ _ _ _ => $(Lean.mkIdent `hA):ident); refine' r_eoc ?W $(Lean.mkIdent `hA):ident ?hm ?he ?_; (case W => assumption); (case he => exact rfl); (case hm => k_extra "m mem"); clear $(Lean.mkIdent `hA):ident; intro $(Lean.mkIdent `y9):ident $(Lean.mkIdent `v9):ident $(Lean.mkIdent `s9):ident $(Lean.mkIdent `hi9):ident $(Lean.mkIdent `hA):ident))
/-- one coefficient: an int or a field element -/
theorem At.pickE {kd : Kd} {p : Int} {vs : List Value} {ns : List Int} {i : Nat} {v : Value} (H : At D Fs R s) (hm : ElsF kd p vs ns ∈ Fs) (hv : vs[i]? = some v) :
    (∃ n t, v = .int n t ∧ ns[i]? = some n) ∨ (∃ a n, v = .ref a ∧ ns[i]? = some n ∧ At D (FQF 183 a p n :: Fs) R s) := by
  have q := H.facts _ hm
  cases kd with
  | pln =>
    obtain ⟨a, n, e, hn, q⟩ := FQs.at (q : FQs _ _ _ _ _) i v hv
    exact .inr ⟨a, n, e, hn, H.addF (F := FQF 183 a p n) q⟩
  | opt => obtain ⟨n, t, e, hn⟩ := IntsAre.at (q : IntsAre vs ns) i v hv; exact .inl ⟨n, t, e, hn⟩
  | f2 => obtain ⟨n, t, e, hn⟩ := IntsAre.at (q : IntsAre vs ns) i v hv; exact .inl ⟨n, t, e, hn⟩
/-- the fields of the law: (p, low, high) -/
def lawFields : List (Int × Int × Int) := [(3, 1, 0), (5, 2, 0), (7, 1, 0), (11, 1, 0), (13, 11, 0), (7, 3, 1), (11, 1, 1), (5, 1, 1)]
def FldH (vs : List Value) (fs : List (Int × Int × Int)) (h : Heap) : Prop := vs.length = fs.length ∧ ∀ (i : Nat) (v : Value) (f : Int × Int × Int), vs[i]? = some v → fs[i]? = some f → ∃ T t1 t2 t3, v = .ref T ∧ (TupF T [.int f.1 t1, .int f.2.1 t2, .int f.2.2 t3]).holds h
theorem FldH.ext {vs : List Value} {fs : List (Int × Int × Int)} {h h' : Heap} (k : Ext h h') (q : FldH vs fs h) : FldH vs fs h' := ⟨q.1, fun i v f a b => by
  obtain ⟨T, t1, t2, t3, e, x⟩ := q.2 i v f a b
  exact ⟨T, t1, t2, t3, e, Fact.mono _ k x⟩⟩
def FldF (vs : List Value) (fs : List (Int × Int × Int)) : Fact := ⟨FldH vs fs, FldH.ext⟩
theorem FldH.nil {h : Heap} : FldH [] [] h := ⟨rfl, fun i v f a _ => by simp at a⟩
theorem FldH.cons {h : Heap} {T : Addr} {a b c : Int} {t1 t2 t3 : Tok} {vs : List Value} {fs : List (Int × Int × Int)} (x : (TupF T [.int a t1, .int b t2, .int c t3]).holds h) (q : FldH vs fs h) : FldH (.ref T :: vs) ((a, b, c) :: fs) h := ⟨by simp [q.1], fun i v f e1 e2 => by
  cases i with
  | zero => simp at e1 e2; subst e1 e2; exact ⟨T, t1, t2, t3, rfl, x⟩
  | succ i => exact q.2 i v f (by simpa using e1) (by simpa using e2)⟩
set_option maxHeartbeats 4000000 in
set_option maxRecDepth 100000 in
theorem s_law_fields (W : Wd (hd.heap_39 w.params) D) (hk : Ok A 10) (H : At D Fs R s)
    (h : ∀ l vs s', At D (ListF l vs :: FldF vs lawFields :: Fs) R s' → Q (.ref l) s') : codeAny (model prog w) A (.call (.ref 460) ⟨[], []⟩) (Ret Q) s := by
  refine' v_call [] ?W H hk ?ho ?hcd ?hb ?hl ?hm ?_ ?c1 ?c2 ?c3 ?c4
  k_extra "m enter"
  clear H
  k_extra "wk"
  have H1 := At.fzL hA .head
  clear hA
  refine h _ _ _ (At.to' (H1.add1 (F := FldF _ lawFields) ?_) (by k_extra "m sub") (by k_extra "m facts"))
  repeat (first | exact FldH.nil | refine FldH.cons (H1.facts _ (by k_extra "m mem")) ?_)
set_option maxHeartbeats 4000000 in
set_option maxRecDepth 100000 in
theorem s_law_told {kd : Kd} {x : Addr} {p : Int} {ns ms : List Int} (W : Wd (hd.heap_39 w.params) D) (hk : Ok A 12) (H : At D Fs R s) (hm : EltF kd x p ns ms ∈ Fs) (hz : ns.length < 1000)
    (h : ∀ l vs s', IntsAre vs ns → At D (ListF l vs :: Fs) R s' → Q (.ref l) s') : codeAny (model prog w) A (.call (.ref 472) ⟨[.ref x], []⟩) (Ret Q) s := by
  refine' v_call [("element", .ref x)] ?W H hk ?ho ?hcd ?hb ?hl ?hm ?_ ?c1 ?c2 ?c3 ?c4
  k_extra "m enter"
  clear H
  k_extra "wk"
  refine' r_mapK (inG ns) (hN9 false _) ⟨_, _, rfl⟩ hK9.handled hA ?g1 ?g0 ?g2 inG.zero (fun _ _ _ q => q.len (by omega)) ?step ?done
  case g0 => decide
  case g2 => rfl
  case g1 => k_extra "m mem"
  case step =>
    clear hA
    intro C acc i ys' Gs v F s hi' hG hV H
    obtain ⟨hv, rfl⟩ := hV
    have hA := H.nil1 hG.2.2
    clear H
    rcases hA.pickE (vs := v9) (by k_extra "m mem") hv with ⟨n, t, rfl, hn⟩ | ⟨a, n, rfl, hn, hA⟩
    · k_extra "wk"
      exact hG.hold hn hA (by k_extra "m facts")
    · k_extra "wk"
      exact hG.hold hn hA (by k_extra "m facts")
  case done =>
    clear hA
    intro C acc ys' Gs s hG _ s H
    have hI := hG.done hi9.symm
    have H1 := H.nil0 hG.2.2
    have hA := At.fzL H1 .head
    clear H H1
    k_extra "wk"
    exact h _ _ _ hI (At.to' hA (by k_extra "m sub") (by k_extra "m facts"))
end
end
section
local macro_rules | `(tactic| walk_at "call ref") => `(tactic| ((with_reducible rename At _ _ _ _ => $(Lean.mkIdent `hA):ident); refine r_use ?_; refine' s_FQs ?W ?hk $(Lean.mkIdent `hA):ident ?hp ?hm ?_; (case W => assumption); (case hk => k_extra "m ok"); (case hp => assumption); (case hm => k_extra "m mem"); clear $(Lean.mkIdent `hA):ident; intro $(Lean.mkIdent `x9):ident $(Lean.mkIdent `s9):ident $(Lean.mkIdent `hA):ident))
local macro_rules | `(tactic| walk_at "call ref") => `(tactic| ((with_reducible rename At _ _ _ _ => $(Lean.mkIdent `hA):ident); refine r_use ?_; refine' s_P_corr0 ?W ?hk $(Lean.mkIdent `hA):ident ?hp ?hx ?hd ?hmp ?hm ?_; (case W => assumption); (case hk => k_extra "m ok"); (case hp => assumption); (case hx => k_extra "m mem"); (case hd => k_extra "m mem"); (case hmp => exact rfl); (case hm => k_extra "m mem"); clear $(Lean.mkIdent `hA):ident; intro $(Lean.mkIdent `x9):ident $(Lean.mkIdent `s9):ident $(Lean.mkIdent `hA):ident))
local macro_rules | `(tactic| walk_at "call ref") => `(tactic| ((with_reducible rename At _ _ _ _ => $(Lean.mkIdent `hA):ident); refine r_use ?_; refine' s_P ?W ?T ?hk $(Lean.mkIdent `hA):ident ?hp ?h1 ?h2 ?h3 ?h4 ?h5 ?h6 ?_; (case W => assumption); (case T => assumption); (case hk => k_extra "m ok"); (case hp => assumption); (case h2 => k_extra "m mem"); (case h1 => k_extra "m seq"); (case h4 => assumption); (case h3 => k_extra "m seq"); (case h5 => k_extra "m lens"); (case h6 => k_extra "m lens"); clear $(Lean.mkIdent `hA):ident; intro $(Lean.mkIdent `x9):ident $(Lean.mkIdent `s9):ident $(Lean.mkIdent `hA):ident))
local macro_rules | `(tactic| walk_at "call ref") => `(tactic| ((with_reducible rename At _ _ _ _ => $(Lean.mkIdent `hA):ident); refine r_use ?_; refine' s_P_made ?W ?T ?hk $(Lean.mkIdent `hA):ident ?hp ?hm ?h1 ?h2 ?h5 ?h6 ?_; (case W => assumption); (case T => assumption); (case hk => k_extra "m ok"); (case hp => assumption); (case hm => k_extra "m mem"); (case h2 => k_extra "m mem"); (case h1 => k_extra "m seq"); (case h5 => k_extra "m lens"); (case h6 => k_extra "m lens"); clear $(Lean.mkIdent `hA):ident; intro $(Lean.mkIdent `x9):ident $(Lean.mkIdent `s9):ident $(Lean.mkIdent `hA):ident))
local macro_rules | `(tactic| walk_at "call ref") => `(tactic| ((with_reducible rename At _ _ _ _ => $(Lean.mkIdent `hA):ident); refine r_use ?_; refine' s_O ?W ?T ?hk $(Lean.mkIdent `hA):ident ?hp ?h1 ?h2 ?h3 ?h4 ?h5 ?h6 ?h8 ?_; (case W => assumption); (case T => assumption); (case hk => k_extra "m ok"); (case hp => assumption); (case h1 => k_extra "m mem"); (case h2 => k_extra "m ints"); (case h4 => assumption); (case h3 => k_extra "m seq"); (case h5 => k_extra "m lens"); (case h6 => k_extra "m lens"); (case h8 => k_extra "m lens"); clear $(Lean.mkIdent `hA):ident; intro $(Lean.mkIdent `x9):ident $(Lean.mkIdent `s9):ident $(Lean.mkIdent `hA):ident))
local macro_rules | `(tactic| walk_at "call ref") => `(tactic| ((with_reducible rename At _ _ _ _ => $(Lean.mkIdent `hA):ident); refine r_use ?_; refine' s_F ?W ?T ?hk $(Lean.mkIdent `hA):ident ?hp ?h1 ?h2 ?h3 ?h4 ?h5 ?h6 ?h8 ?_; (case W => assumption); (case T => assumption); (case hk => k_extra "m ok"); (case hp => assumption); (case h1 => k_extra "m mem"); (case h2 => k_extra "m ints"); (case h4 => assumption); (case h3 => k_extra "m seq"); (case h5 => k_extra "m lens"); (case h6 => k_extra "m lens"); (case h8 => k_extra "m lens"); clear $(Lean.mkIdent `hA):ident; intro $(Lean.mkIdent `x9):ident $(Lean.mkIdent `s9):ident $(Lean.mkIdent `hA):ident))
local macro_rules | `(tactic| walk_at "call ref") => `(tactic| ((with_reducible rename At _ _ _ _ => $(Lean.mkIdent `hA):ident); refine r_use ?_; refine' s_law_at ?W ?hk $(Lean.mkIdent `hA):ident ?hm ?hi ?hz ?kk ?_; (case W => assumption); (case hk => k_extra "m ok"); (case hm => k_extra "m mem"); (case hi => assumption); (case hz => k_extra "m lens"); (case kk => decide); clear $(Lean.mkIdent `hA):ident; intro $(Lean.mkIdent `t9):ident $(Lean.mkIdent `s9):ident $(Lean.mkIdent `hA):ident))
local macro_rules | `(tactic| walk_at "getAttr ref") => `(tactic| ((with_reducible rename At _ _ _ _ => $(Lean.mkIdent `hA):ident); refine' r_eoc ?W $(Lean.mkIdent `hA):ident ?hm ?he ?_; (case W => assumption); (case he => exact rfl); (case hm => k_extra "m mem"); clear $(Lean.mkIdent `hA):ident; intro $(Lean.mkIdent `y9):ident $(Lean.mkIdent `v9):ident $(Lean.mkIdent `s9):ident $(Lean.mkIdent `hi9):ident $(Lean.mkIdent `hA):ident))
variable {prog : Program} {w : World} {A : Around} {E : Value → Shared → Prop} {D : Dat} {Fs : List Fact} {R : List Res} {s : Shared} {Q : Value → Shared → Prop}
local macro_rules | `(tactic| walk_at "call builtin:pow") => `(tactic| ((with_reducible rename At _ _ _ _ => $(Lean.mkIdent `hA):ident); refine r_pow3 $(Lean.mkIdent `hA):ident (by omega) (by omega) ?_; clear $(Lean.mkIdent `hA):ident; intro $(Lean.mkIdent `t9):ident $(Lean.mkIdent `s9):ident $(Lean.mkIdent `hA):ident))
def nameB (s p : Int) : Int := (Builtin.powMod (s % (p.natAbs : Int)).toNat (p - 2).natAbs p.natAbs : Nat)
def nameL (ns : List Int) (s t p : Int) : List Int := [(ns.getD 0 0 - ns.getD 1 0 * t * nameB s p).fmod p, (ns.getD 1 0 * nameB s p).fmod p]
theorem nameL_length (ns : List Int) (s t p : Int) : (nameL ns s t p).length = 2 := rfl
local macro_rules | `(tactic| walk_at "call ref") => `(tactic| ((with_reducible rename At _ _ _ _ => $(Lean.mkIdent `hA):ident); refine r_use ?_; refine' s_law_told ?W ?hk $(Lean.mkIdent `hA):ident ?hm ?hz ?_; (case W => assumption); (case hk => k_extra "m ok"); (case hm => k_extra "m mem"); (case hz => k_extra "m lens"); clear $(Lean.mkIdent `hA):ident; intro $(Lean.mkIdent `l9):ident $(Lean.mkIdent `v9):ident $(Lean.mkIdent `s9):ident $(Lean.mkIdent `hi9):ident $(Lean.mkIdent `hA):ident))
set_option maxHeartbeats 1000000 in
set_option maxRecDepth 100000 in
theorem s_law_named {l : Addr} {vs : List Value} {ns : List Int} {s0 t p : Int} {t1 t2 t3 : Tok} (W : Wd (hd.heap_39 w.params) D) (hk : Ok A 12) (H : At D Fs R s) (hm : ListF l vs ∈ Fs) (hi : IntsAre vs ns) (h2 : ns.length = 2) (hn : 1 < p) (hmt : ∀ a, IntMulOk a t) (hmb : ∀ a, IntMulOk a (nameB s0 p))
    (h : ∀ l vs s', IntsAre vs (nameL ns s0 t p) → At D (ListF l vs :: Fs) R s' → Q (.ref l) s') : codeAny (model prog w) A (.call (.ref 479) ⟨[.ref l, .int s0 t1, .int t t2, .int p t3], []⟩) (Ret Q) s := by
  refine' v_call [("p", .int p t3), ("t", .int t t2), ("s", .int s0 t1), ("numbers", .ref l)] ?W H hk ?ho ?hcd ?hb ?hl ?hm ?_ ?c1 ?c2 ?c3 ?c4
  k_extra "m enter"
  clear H
  have hL := hi.length
  have hq1 := hmt (ns.getD (1 : Int).toNat 0)
  have hq2 := hmb (ns.getD (1 : Int).toNat 0 * t)
  have hq3 := hmb (ns.getD (1 : Int).toNat 0)
  unfold nameB at hq2 hq3
  k_extra "wk"
  refine h _ _ _ ?_ (At.to' (At.fzL hA (by k_extra "m rm")) (by k_extra "m sub") (by k_extra "m facts"))
  exact .cons _ _ (.cons _ _ .nil)
local macro_rules | `(tactic| walk_at "call ref") => `(tactic| ((with_reducible rename At _ _ _ _ => $(Lean.mkIdent `hA):ident); refine r_use ?_; refine' s_law_named ?W ?hk $(Lean.mkIdent `hA):ident ?hm ?hi ?h2 ?hn ?hmt ?hmb ?_; (case W => assumption); (case hk => k_extra "m ok"); (case hm => k_extra "m mem"); (case hi => k_extra "m ints"); (case h2 => k_extra "m lens"); (case hn => assumption); (case hmt => assumption); (case hmb => assumption); clear $(Lean.mkIdent `hA):ident; intro $(Lean.mkIdent `l9):ident $(Lean.mkIdent `v9):ident $(Lean.mkIdent `s9):ident $(Lean.mkIdent `hi9):ident $(Lean.mkIdent `hA):ident))
def rowsQ (low high s t p : Int) : List Int := [(t * t - s * t * high + s * s * low).fmod p, (s * high - 2 * t).fmod p]
def kqOf (q : Bool) : Kd := if q then .f2 else .opt
local macro_rules | `(tactic| walk_at "call ref") => `(tactic| ((with_reducible rename At _ _ _ _ => $(Lean.mkIdent `hA):ident); refine r_use ?_; refine' s_P ?W ?T ?hk $(Lean.mkIdent `hA):ident ?hp ?h1 ?h2 ?h3 ?h4 ?h5 ?h6  ?_; (case W => assumption); (case T => assumption); (case hk => k_extra "m ok"); (case hp => assumption); (case h2 => k_extra "m mem"); (case h1 => k_extra "m seq"); (case h3 => k_extra "m seq"); (case h4 => k_extra "m ints"); (case h5 => k_extra "m lens"); (case h6 => k_extra "m lens");  clear $(Lean.mkIdent `hA):ident; intro $(Lean.mkIdent `x9):ident $(Lean.mkIdent `s9):ident $(Lean.mkIdent `hA):ident))
local macro_rules | `(tactic| walk_at "call ref") => `(tactic| ((with_reducible rename At _ _ _ _ => $(Lean.mkIdent `hA):ident); refine r_use ?_; refine' s_O ?W ?T ?hk $(Lean.mkIdent `hA):ident ?hp ?h1 ?h2 ?h3 ?h4 ?h5 ?h6 ?h8 ?_; (case W => assumption); (case T => assumption); (case hk => k_extra "m ok"); (case hp => assumption); (case h1 => k_extra "m mem"); (case h2 => k_extra "m ints"); (case h3 => k_extra "m seq"); (case h4 => k_extra "m ints"); (case h5 => k_extra "m lens"); (case h6 => k_extra "m lens"); (case h8 => k_extra "m lens"); clear $(Lean.mkIdent `hA):ident; intro $(Lean.mkIdent `x9):ident $(Lean.mkIdent `s9):ident $(Lean.mkIdent `hA):ident))
local macro_rules | `(tactic| walk_at "call ref") => `(tactic| ((with_reducible rename At _ _ _ _ => $(Lean.mkIdent `hA):ident); refine r_use ?_; refine' s_F ?W ?T ?hk $(Lean.mkIdent `hA):ident ?hp ?h1 ?h2 ?h3 ?h4 ?h5 ?h6 ?h8 ?_; (case W => assumption); (case T => assumption); (case hk => k_extra "m ok"); (case hp => assumption); (case h1 => k_extra "m mem"); (case h2 => k_extra "m ints"); (case h3 => k_extra "m seq"); (case h4 => k_extra "m ints"); (case h5 => k_extra "m lens"); (case h6 => k_extra "m lens"); (case h8 => k_extra "m lens"); clear $(Lean.mkIdent `hA):ident; intro $(Lean.mkIdent `x9):ident $(Lean.mkIdent `s9):ident $(Lean.mkIdent `hA):ident))
theorem two_ints {a b : Addr} {x y u v : Int} {t t' t2 t3 : Tok} (H : At D Fs (Lst a [.int x t, .int y t'] :: Lst b [.int u t2, .int v t3] :: R) s) : ∃ va vb, IntsAre va [x, y] ∧ IntsAre vb [u, v] ∧ va.length = 2 ∧ vb.length = 2 ∧ At D (ListF a va :: ListF b vb :: Fs) R s :=
  ⟨_, _, .cons _ _ (.cons _ _ .nil), .cons _ _ (.cons _ _ .nil), rfl, rfl, (At.fzL (At.fzL H (.tail .head)) .head)⟩
set_option maxHeartbeats 1000000 in
set_option maxRecDepth 100000 in
theorem s_law_pairs {T0 l : Addr} {vs : List Value} {ns : List Int} {s0 t p low high : Int} {t1 t2 t3 t4 t5 : Tok} {q : Bool} (W : Wd (hd.heap_39 w.params) D) (T : ∀ t ∈ WT, t ∈ D.tabs) (hk : Ok A 30) (H : At D Fs R s) (hT : TupF T0 [.int p t3, .int low t4, .int high t5] ∈ Fs) (hm : ListF l vs ∈ Fs) (hi : IntsAre vs ns) (h2 : ns.length = 2) (hn : 1 < p) (hn2 : p < 100)
    (hlo : 0 ≤ low ∧ low < 100) (hhi : 0 ≤ high ∧ high < 100) (hs : 0 ≤ s0 ∧ s0 < 100) (ht : 0 ≤ t ∧ t < 100) (hmb : ∀ a, IntMulOk a (nameB s0 p))
    (h : ∀ T1 x y s', At D (TupF T1 [.ref x, .ref y] :: EltF .pln x p (ns.map fun k => k.fmod p) [low, high] :: EltF (kqOf q) y p ((nameL ns s0 t p).map fun k => k.fmod p) (rowsQ low high s0 t p) :: Fs) R s' → Q (.ref T1) s') : codeAny (model prog w) A (.call (.ref 486) ⟨[.ref T0, .int s0 t1, .int t t2, .ref l, .bool q], []⟩) (Ret Q) s := by
  refine' v_call [("quick", .bool q), ("numbers", .ref l), ("t", .int t t2), ("s", .int s0 t1), ("field", .ref T0)] ?W H hk ?ho ?hcd ?hb ?hl ?hm ?_ ?c1 ?c2 ?c3 ?c4
  k_extra "m enter"
  clear H
  have hp : p ≠ 0 := by omega
  have hL := hi.length
  have hmt : ∀ a, IntMulOk a t := fun a => mulOk_right ⟨by omega, by omega⟩
  have hq1 : IntMulOk (s0 * t) high := mulOk_right ⟨by omega, by omega⟩
  have hq2 : IntMulOk (s0 * s0) low := mulOk_right ⟨by omega, by omega⟩
  k_extra "wk"
  obtain ⟨va, vb, q1, q2, z1, z2, H1⟩ := two_ints hA
  clear hA
  have hA := (H1.scsI (C := 183) (p := p) hi)
  clear H1
  have q2' : IntsAre vb (rowsQ low high s0 t p) := q2
  clear q2
  have z3 := nameL_length ns s0 t p
  have z4 := hi9.length
  have hz2 : (rowsQ low high s0 t p).length = 2 := rfl
  generalize hrq : rowsQ low high s0 t p = RW at *
  generalize hnl : nameL ns s0 t p = NL at *
  clear hq1 hq2 hlo hhi hs ht
  cases q
  · k_extra "wk"
    have hB : At D (TupF _ [Value.ref _, Value.ref _] :: PlnF 183 297 _ p (ns.map fun k => k.fmod p) [low, high] :: OptF 422 _ p (NL.map fun k => k.fmod p) RW :: Fs) R _ := hA.to' (by k_extra "m sub") (by k_extra "m facts")
    exact h _ _ _ _ hB
  · k_extra "wk"
    have hB : At D (TupF _ [Value.ref _, Value.ref _] :: PlnF 183 297 _ p (ns.map fun k => k.fmod p) [low, high] :: OptF 451 _ p (NL.map fun k => k.fmod p) RW :: Fs) R _ := hA.to' (by k_extra "m sub") (by k_extra "m facts")
    exact h _ _ _ _ hB
end
section
local macro_rules | `(tactic| walk_at "call ref") => `(tactic| ((with_reducible rename At _ _ _ _ => $(Lean.mkIdent `hA):ident); refine r_use ?_; refine' s_P_made ?W ?T ?hk $(Lean.mkIdent `hA):ident ?hp ?hm ?h1 ?h2 ?h5 ?h6 ?_; (case W => assumption); (case T => assumption); (case hk => k_extra "m ok"); (case hp => assumption); (case hm => k_extra "m mem"); (case h2 => k_extra "m mem"); (case h1 => k_extra "m seq"); (case h5 => k_extra "m lens"); (case h6 => k_extra "m lens"); clear $(Lean.mkIdent `hA):ident; intro $(Lean.mkIdent `x9):ident $(Lean.mkIdent `s9):ident $(Lean.mkIdent `hA):ident))
section
local macro_rules | `(tactic| walk_at "call builtin:pow") => `(tactic| ((with_reducible rename At _ _ _ _ => $(Lean.mkIdent `hA):ident); refine r_pow3 $(Lean.mkIdent `hA):ident (by omega) (by omega) ?_; clear $(Lean.mkIdent `hA):ident; intro $(Lean.mkIdent `t9):ident $(Lean.mkIdent `s9):ident $(Lean.mkIdent `hA):ident))
local macro_rules | `(tactic| walk_at "call ref") => `(tactic| ((with_reducible rename At _ _ _ _ => $(Lean.mkIdent `hA):ident); refine r_use ?_; refine' s_law_told ?W ?hk $(Lean.mkIdent `hA):ident ?hm ?hz ?_; (case W => assumption); (case hk => k_extra "m ok"); (case hm => k_extra "m mem"); (case hz => k_extra "m lens"); clear $(Lean.mkIdent `hA):ident; intro $(Lean.mkIdent `l9):ident $(Lean.mkIdent `v9):ident $(Lean.mkIdent `s9):ident $(Lean.mkIdent `hi9):ident $(Lean.mkIdent `hA):ident))
local macro_rules | `(tactic| walk_at "call ref") => `(tactic| ((with_reducible rename At _ _ _ _ => $(Lean.mkIdent `hA):ident); refine r_use ?_; refine' s_law_named ?W ?hk $(Lean.mkIdent `hA):ident ?hm ?hi ?h2 ?hn ?hmt ?hmb ?_; (case W => assumption); (case hk => k_extra "m ok"); (case hm => k_extra "m mem"); (case hi => k_extra "m ints"); (case h2 => k_extra "m lens"); (case hn => assumption); (case hmt => assumption); (case hmb => assumption); clear $(Lean.mkIdent `hA):ident; intro $(Lean.mkIdent `l9):ident $(Lean.mkIdent `v9):ident $(Lean.mkIdent `s9):ident $(Lean.mkIdent `hi9):ident $(Lean.mkIdent `hA):ident))
local macro_rules | `(tactic| walk_at "call ref") => `(tactic| ((with_reducible rename At _ _ _ _ => $(Lean.mkIdent `hA):ident); refine r_use ?_; refine' s_P ?W ?T ?hk $(Lean.mkIdent `hA):ident ?hp ?h1 ?h2 ?h3 ?h4 ?h5 ?h6  ?_; (case W => assumption); (case T => assumption); (case hk => k_extra "m ok"); (case hp => assumption); (case h2 => k_extra "m mem"); (case h1 => k_extra "m seq"); (case h3 => k_extra "m seq"); (case h4 => k_extra "m ints"); (case h5 => k_extra "m lens"); (case h6 => k_extra "m lens");  clear $(Lean.mkIdent `hA):ident; intro $(Lean.mkIdent `x9):ident $(Lean.mkIdent `s9):ident $(Lean.mkIdent `hA):ident))
local macro_rules | `(tactic| walk_at "call ref") => `(tactic| ((with_reducible rename At _ _ _ _ => $(Lean.mkIdent `hA):ident); refine r_use ?_; refine' s_O ?W ?T ?hk $(Lean.mkIdent `hA):ident ?hp ?h1 ?h2 ?h3 ?h4 ?h5 ?h6 ?h8 ?_; (case W => assumption); (case T => assumption); (case hk => k_extra "m ok"); (case hp => assumption); (case h1 => k_extra "m mem"); (case h2 => k_extra "m ints"); (case h3 => k_extra "m seq"); (case h4 => k_extra "m ints"); (case h5 => k_extra "m lens"); (case h6 => k_extra "m lens"); (case h8 => k_extra "m lens"); clear $(Lean.mkIdent `hA):ident; intro $(Lean.mkIdent `x9):ident $(Lean.mkIdent `s9):ident $(Lean.mkIdent `hA):ident))
local macro_rules | `(tactic| walk_at "call ref") => `(tactic| ((with_reducible rename At _ _ _ _ => $(Lean.mkIdent `hA):ident); refine r_use ?_; refine' s_F ?W ?T ?hk $(Lean.mkIdent `hA):ident ?hp ?h1 ?h2 ?h3 ?h4 ?h5 ?h6 ?h8 ?_; (case W => assumption); (case T => assumption); (case hk => k_extra "m ok"); (case hp => assumption); (case h1 => k_extra "m mem"); (case h2 => k_extra "m ints"); (case h3 => k_extra "m seq"); (case h4 => k_extra "m ints"); (case h5 => k_extra "m lens"); (case h6 => k_extra "m lens"); (case h8 => k_extra "m lens"); clear $(Lean.mkIdent `hA):ident; intro $(Lean.mkIdent `x9):ident $(Lean.mkIdent `s9):ident $(Lean.mkIdent `hA):ident))
variable {prog : Program} {w : World} {A : Around} {E : Value → Shared → Prop} {D : Dat} {Fs : List Fact} {R : List Res} {s : Shared} {Q : Value → Shared → Prop}
theorem r_neL {l b : Addr} {vs ws : List Value} {ns ms : List Int} (hu : A.units < 9900) (H : At D Fs R s) (h1 : s.heap.PlainList l vs.toArray) (h2 : s.heap.PlainList b ws.toArray) (i1 : IntsAre vs ns) (i2 : IntsAre ws ms) (hl : ns.length = ms.length)
    (h : Q (.bool (!decide (ns = ms))) s) : wpAny (model prog w) A (compareOp .NotEq (.ref l) (.ref b)) Q E s := by
  have l1 := i1.length
  have l2 := i2.length
  refine cmp_ofNotEq ?_
  refine SeqAt.RcNeAt.lists (e := fun j => ns.getD j 0 == ms.getD j 0) (Heap.PlainList.isList h1) (Heap.PlainList.isList h2) (by simp; omega) hu (fun j q1 q2 => ?_) prog w E Q ?_
  · obtain ⟨t, e⟩ := i1.int_at j (vs.toArray[j]) (by simp)
    obtain ⟨u, e'⟩ := i2.int_at j (ws.toArray[j]) (by simp)
    rw [e, e']
    exact SeqAt.EqAt.int_int _ _ _ _
  · rw [List.size_toArray, l1, all_eq_decide hl]
    exact h
theorem Ok.u99 {A : Around} {n : Nat} (h : Ok A n) : A.units < 9900 := by have := h.units; omega
local macro_rules | `(tactic| walk_at "compareOp Eq ref ref") => `(tactic| ((with_reducible rename At _ _ _ _ => $(Lean.mkIdent `hA):ident); refine' r_eqL (Ok.u99 $(Lean.mkIdent `hK9):ident) $(Lean.mkIdent `hA):ident ?h1 ?h2 ?i1 ?i2 ?hl ?_; (case h1 => k_extra "m pl"); (case h2 => k_extra "m pl"); (case i1 => k_extra "m ints"); (case i2 => k_extra "m ints"); (case hl => k_extra "m lenI")))
local macro_rules | `(tactic| walk_at "compareOp NotEq ref ref") => `(tactic| ((with_reducible rename At _ _ _ _ => $(Lean.mkIdent `hA):ident); refine' r_neL (Ok.u99 $(Lean.mkIdent `hK9):ident) $(Lean.mkIdent `hA):ident ?h1 ?h2 ?i1 ?i2 ?hl ?_; (case h1 => k_extra "m pl"); (case h2 => k_extra "m pl"); (case i1 => k_extra "m ints"); (case i2 => k_extra "m ints"); (case hl => k_extra "m lenI")))
def QC (C : Addr) : Prop := C = 422 ∨ C = 451
theorem qOC {C : Addr} (h : QC C) (P : Params) : ∃ mk, OC P C mk ∧ MadeOk C mk ∧ OC2 P C ∧ OC3 P C ∧ DivIOk C ∧ MulEOk C := by
  rcases h with rfl | rfl
  · exact ⟨_, ocO P, madeO, oc2O P, oc3O P, dvO, mlO⟩
  · exact ⟨_, ocF P, madeF, oc2F P, oc3F P, dvF, mlF⟩
theorem told_P {x : Addr} {p : Int} {ns ms : List Int} (W : Wd (hd.heap_39 w.params) D) (hk : Ok A 12) (H : At D Fs R s) (hm : PlnF 183 297 x p ns ms ∈ Fs) (hz : ns.length < 1000)
    (h : ∀ l vs s', IntsAre vs ns → At D (ListF l vs :: Fs) R s' → Q (.ref l) s') : codeAny (model prog w) A (.call (.ref 472) ⟨[.ref x], []⟩) (Ret Q) s := s_law_told (kd := .pln) W hk H hm hz h
theorem told_Q {C x : Addr} {p : Int} {ns ms : List Int} (hq : QC C) (W : Wd (hd.heap_39 w.params) D) (hk : Ok A 12) (H : At D Fs R s) (hm : OptF C x p ns ms ∈ Fs) (hz : ns.length < 1000)
    (h : ∀ l vs s', IntsAre vs ns → At D (ListF l vs :: Fs) R s' → Q (.ref l) s') : codeAny (model prog w) A (.call (.ref 472) ⟨[.ref x], []⟩) (Ret Q) s := by
  rcases hq with rfl | rfl
  · exact s_law_told (kd := .opt) W hk H hm hz h
  · exact s_law_told (kd := .f2) W hk H hm hz h
local macro_rules | `(tactic| walk_at "call ref") => `(tactic| ((with_reducible rename At _ _ _ _ => $(Lean.mkIdent `hA):ident); refine r_use ?_; refine' told_P ?W ?hk $(Lean.mkIdent `hA):ident ?hm ?hz ?_; (case W => assumption); (case hk => k_extra "m ok"); (case hm => k_extra "m mem"); (case hz => k_extra "m lens"); clear $(Lean.mkIdent `hA):ident; intro $(Lean.mkIdent `l9):ident $(Lean.mkIdent `v9):ident $(Lean.mkIdent `s9):ident $(Lean.mkIdent `hi9):ident $(Lean.mkIdent `hA):ident))
local macro_rules | `(tactic| walk_at "call ref") => `(tactic| ((with_reducible rename At _ _ _ _ => $(Lean.mkIdent `hA):ident); refine r_use ?_; refine' told_Q ?hq ?W ?hk $(Lean.mkIdent `hA):ident ?hm ?hz ?_; (case W => assumption); (case hk => k_extra "m ok"); (case hm => k_extra "m mem"); (case hq => assumption); (case hz => k_extra "m lens"); clear $(Lean.mkIdent `hA):ident; intro $(Lean.mkIdent `l9):ident $(Lean.mkIdent `v9):ident $(Lean.mkIdent `s9):ident $(Lean.mkIdent `hi9):ident $(Lean.mkIdent `hA):ident))
/-- the pairs: each the plain element and its other name -/
def PairH (C : Addr) (p s0 t : Int) (M Rw : List Int) (v : Value) (h : Heap) : Prop := ∃ T x y ns, v = .ref T ∧ ns.length = 2 ∧ InR p ns ∧ (TupF T [.ref x, .ref y]).holds h ∧ (PlnF 183 297 x p ns M).holds h ∧ (OptF C y p (nameL ns s0 t p) Rw).holds h
def PairsF (C : Addr) (p s0 t : Int) (M Rw : List Int) (vs : List Value) : Fact := ⟨fun h => ∀ v ∈ vs, PairH C p s0 t M Rw v h, fun k q v hv => by
  obtain ⟨T, x, y, ns, e, l, r, a, b, c⟩ := q v hv
  exact ⟨T, x, y, ns, e, l, r, Fact.mono _ k a, Fact.mono _ k b, Fact.mono _ k c⟩⟩
theorem At.pair {C : Addr} {p s0 t : Int} {M Rw : List Int} {vs : List Value} {i : Nat} {v : Value} (H : At D Fs R s) (hm : PairsF C p s0 t M Rw vs ∈ Fs) (hv : vs[i]? = some v) :
    ∃ T x y ns, v = .ref T ∧ ns.length = 2 ∧ InR p ns ∧ At D (TupF T [.ref x, .ref y] :: PlnF 183 297 x p ns M :: OptF C y p (nameL ns s0 t p) Rw :: Fs) R s := by
  obtain ⟨T, x, y, ns, e, l, r, a, b, c⟩ := H.facts _ hm v (List.mem_of_getElem? hv)
  exact ⟨T, x, y, ns, e, l, r, ((H.add1 c).add1 b).add1 a⟩
theorem At.pairs1 {C T x y : Addr} {p s0 t : Int} {M Rw ns ks : List Int} {vs : List Value} (H : At D Fs R s) (hm : PairsF C p s0 t M Rw vs ∈ Fs) (h1 : TupF T [.ref x, .ref y] ∈ Fs) (h2 : PlnF 183 297 x p ns M ∈ Fs) (h3 : OptF C y p ks Rw ∈ Fs) (hl : ns.length = 2) (hr : InR p ns) (e : nameL ns s0 t p = ks) : At D (PairsF C p s0 t M Rw (.ref T :: vs) :: Fs) R s := H.add1 fun v hv => by
  rcases List.mem_cons.mp hv with rfl | hv
  · exact ⟨T, x, y, ns, rfl, hl, hr, H.facts _ h1, H.facts _ h2, e ▸ H.facts _ h3⟩
  · exact H.facts _ hm v hv
theorem At.pairs0 {C : Addr} {p s0 t : Int} {M Rw : List Int} (H : At D Fs R s) : At D (PairsF C p s0 t M Rw [] :: Fs) R s := H.add1 fun v hv => absurd hv List.not_mem_nil
set_option maxHeartbeats 1000000 in
set_option maxRecDepth 100000 in
theorem law_tail {name qual : Str} {params : Arguments} {body rest : List Stmt} {scope : Scope} {dV kV doc pm cdv ct oc : Value} {an od : Option Addr} {osl : Array (Option Value)} {L9 lp C : Addr} {vp : List Value} {p s0 t : Int} {M Rw : List Int} {u1 u2 u3 : Tok}
    (ho : (hd.heap_39 w.params).lookup 493 = some ⟨oc, od, .func (fnOf name qual params body scope dV kV doc pm an cdv ct), osl⟩) (hr : body.drop 10 = rest)
    (W : Wd (hd.heap_39 w.params) D) (hK9 : Ok (A.deeper (envOf qual scope L9 493 cdv)) 100) (hq : QC C) (hn : 1 < p) (hn2 : p < 100) (hmt : ∀ a, IntMulOk a t) (hmb : ∀ a, IntMulOk a (nameB s0 p))
    (H : At D (ListF lp vp :: PairsF C p s0 t M Rw vp :: Fs) (Vars L9 [("p", .int p u1), ("s", .int s0 u2), ("t", .int t u3), ("pairs", .ref lp)] :: R) s)
    (h : ∀ s', At D Fs R s' → Q (.bool true) s') :
    wpAny (model prog w) (A.deeper (envOf qual scope L9 493 cdv)) (execs rest (envOf qual scope L9 493 cdv)) (fun fl s' => Q (match fl with | .ret v => v | _ => .none) s') (fun _ _ => False) s := by
  subst hr
  refine' use_body (P := fun b sc q c => Ok (A.deeper (envOf q sc L9 493 c)) 100 → wpAny (model prog w) (A.deeper (envOf q sc L9 493 c)) (execs (b.drop 10) (envOf q sc L9 493 c)) (fun fl s' => Q (match fl with | .ret v => v | _ => .none) s') (fun _ _ => False) s) ?h1 ho ?_ hK9
  case h1 => k_is
  clear hK9 ho
  intro hK9
  dsimp only [List.drop]
  w_top off
  have hA := H
  clear H
  k_extra "wk"
  refine r_for (fun i s => At D (ListF lp vp :: PairsF C p s0 t M Rw vp :: Fs) (LItR I9 lp i :: Vars L9 [("p", .int p u1), ("s", .int s0 u2), ("t", .int t u3)] :: R) s)
    (hN9 true D.ng) ⟨_, _, _, rfl⟩ hK9.handled (hA.to' (by k_extra "m sub") (by k_extra "m facts")) ?_ ?_
  · clear hA
    rintro i s hi H
    refine ⟨_, _, _, H, .head _, .head, ?_⟩
    rintro v F s ⟨hv, rfl⟩ H0
    clear H
    obtain ⟨T1, x, y, ns, rfl, hl, hr, hA⟩ := H0.pair (vs := vp) (by k_extra "m mem") hv
    clear H0
    have hl2 := nameL_length ns s0 t p
    k_extra "wk"
    · exact ⟨hA.to' (by k_extra "m sub") (by k_extra "m facts")⟩
    · rename_i e
      exact absurd rfl e
  · clear hA
    rintro s H
    refine ⟨_, _, _, H, .head _, .head, fun s hA => ?_⟩
    clear H
    show wpAny _ _ _ _ _ _
    k_extra "wk"
    exact h _ (hA.to' (by k_extra "m sub") (by k_extra "m facts"))
end
section
local macro_rules | `(tactic| walk_at "call builtin:isinstance") => `(tactic| ((with_reducible rename At _ _ _ _ => $(Lean.mkIdent `hA):ident); refine' o_isi (K := ?K) (F := OptF _ _ _ _ _) ?W $(Lean.mkIdent `hA):ident ?hm ?ho ?e ?h1 ?h2 ?h3 ?h4 ?h5 ?h6 ?_; (case W => assumption); (case ho => k_extra "m obj"); (case hm => k_extra "m mem"); (case e => assumption); (case h1 => first | assumption | k_is); (case h2 => first | assumption | k_is); (case h3 => first | assumption | k_is); (case h4 => first | assumption | k_is); (case h5 => first | assumption | k_is); (case h6 => first | assumption | k_is); clear $(Lean.mkIdent `hA):ident; intro $(Lean.mkIdent `s9):ident $(Lean.mkIdent `hA):ident))
local macro_rules | `(tactic| walk_at "call builtin:isinstance") => `(tactic| ((with_reducible rename At _ _ _ _ => $(Lean.mkIdent `hA):ident); refine' o_isiT (K := ?K) (F := OptF _ _ _ _ _) ?W $(Lean.mkIdent `hA):ident ?hm ?ho ?hc ?e ?h1 ?h2 ?h3 ?h4 ?h5 ?h6 ?_; (case W => assumption); (case ho => k_extra "m obj"); (case hm => k_extra "m mem"); (case hc => k_extra "m mem"); (case e => assumption); (case h1 => first | assumption | k_is); (case h2 => first | assumption | k_is); (case h3 => first | assumption | k_is); (case h4 => first | assumption | k_is); (case h5 => first | assumption | k_is); (case h6 => first | assumption | k_is); clear $(Lean.mkIdent `hA):ident; intro $(Lean.mkIdent `s9):ident $(Lean.mkIdent `hA):ident))
local macro_rules | `(tactic| walk_at "getMethod ref") => `(tactic| ((with_reducible rename At _ _ _ _ => $(Lean.mkIdent `hA):ident); refine' o_meth (K := ?K) (F := OptF _ _ _ _ _) ?W $(Lean.mkIdent `hA):ident ?hm ?ho ?h1 ?h2 ?h3 ?h4 ?_; (case W => assumption); (case ho => k_extra "m obj"); (case hm => k_extra "m mem"); (case h1 => first | assumption | k_is); (case h2 => first | assumption | k_is); (case h3 => first | assumption | k_is); (case h4 => decide)))
local macro_rules | `(tactic| walk_at "getAttr ref") => `(tactic| ((with_reducible rename At _ _ _ _ => $(Lean.mkIdent `hA):ident); refine' r_op (K := ?K) ?W $(Lean.mkIdent `hA):ident ?h1 ?h2 ?h3 ?h4 ?hm ?he ?_; (case W => assumption); (case he => exact rfl); (case hm => k_extra "m mem"); (case h1 => first | assumption | k_is); (case h2 => first | assumption | k_is); (case h3 => first | assumption | k_is); (case h4 => first | assumption | k_is); clear $(Lean.mkIdent `hA):ident; intro $(Lean.mkIdent `t9):ident $(Lean.mkIdent `s9):ident $(Lean.mkIdent `hA):ident))
local macro_rules | `(tactic| walk_at "getAttr ref") => `(tactic| ((with_reducible rename At _ _ _ _ => $(Lean.mkIdent `hA):ident); refine' r_od (K := ?K) ?W $(Lean.mkIdent `hA):ident ?h1 ?h2 ?h3 ?h4 ?hm ?he ?_; (case W => assumption); (case he => exact rfl); (case hm => k_extra "m mem"); (case h1 => first | assumption | k_is); (case h2 => first | assumption | k_is); (case h3 => first | assumption | k_is); (case h4 => first | assumption | k_is); clear $(Lean.mkIdent `hA):ident; intro $(Lean.mkIdent `t9):ident $(Lean.mkIdent `s9):ident $(Lean.mkIdent `hA):ident))
local macro_rules | `(tactic| walk_at "getAttr ref") => `(tactic| ((with_reducible rename At _ _ _ _ => $(Lean.mkIdent `hA):ident); refine' r_oc (K := ?K) ?W $(Lean.mkIdent `hA):ident ?h1 ?h2 ?h3 ?h4 ?hm ?he ?_; (case W => assumption); (case he => exact rfl); (case hm => k_extra "m mem"); (case h1 => first | assumption | k_is); (case h2 => first | assumption | k_is); (case h3 => first | assumption | k_is); (case h4 => first | assumption | k_is); clear $(Lean.mkIdent `hA):ident; intro $(Lean.mkIdent `y9):ident $(Lean.mkIdent `v9):ident $(Lean.mkIdent `s9):ident $(Lean.mkIdent `hi9):ident $(Lean.mkIdent `hA):ident))
local macro_rules | `(tactic| walk_at "getAttr ref") => `(tactic| ((with_reducible rename At _ _ _ _ => $(Lean.mkIdent `hA):ident); refine' r_om (K := ?K) ?W $(Lean.mkIdent `hA):ident ?h1 ?h2 ?h3 ?h4 ?hm ?he ?_; (case W => assumption); (case he => exact rfl); (case hm => k_extra "m mem"); (case h1 => first | assumption | k_is); (case h2 => first | assumption | k_is); (case h3 => first | assumption | k_is); (case h4 => first | assumption | k_is); clear $(Lean.mkIdent `hA):ident; intro $(Lean.mkIdent `y9):ident $(Lean.mkIdent `v9):ident $(Lean.mkIdent `s9):ident $(Lean.mkIdent `hi9):ident $(Lean.mkIdent `hA):ident))
local macro_rules | `(tactic| walk_at "getAttr ref") => `(tactic| ((with_reducible rename At _ _ _ _ => $(Lean.mkIdent `hA):ident); refine' r_ot (K := ?K) ?W $(Lean.mkIdent `hA):ident ?h1 ?h2 ?h3 ?h4 ?hm ?he ?_; (case W => assumption); (case he => exact rfl); (case hm => k_extra "m mem"); (case h1 => first | assumption | k_is); (case h2 => first | assumption | k_is); (case h3 => first | assumption | k_is); (case h4 => first | assumption | k_is); clear $(Lean.mkIdent `hA):ident; intro $(Lean.mkIdent `y9):ident $(Lean.mkIdent `v9):ident $(Lean.mkIdent `s9):ident $(Lean.mkIdent `hA):ident))
local macro_rules | `(tactic| walk_at "callWith ref") => `(tactic| ((with_reducible rename At _ _ _ _ => $(Lean.mkIdent `hA):ident); (try dsimp only); (first | refine' callWith_K (K := ?K) ?k1 ?k2 ?_ | refine' callWith_K0 (K := ?K) ?k1 ?k2 ?_); (case k1 => exact At.kin (by assumption) $(Lean.mkIdent `hA):ident); (case k2 => first | assumption | k_is)))
local macro_rules | `(tactic| walk_at "callWith") => `(tactic| ((with_reducible rename At _ _ _ _ => $(Lean.mkIdent `hA):ident); (try dsimp only); (with_reducible show wpAny _ _ (callWith _ (Value.ref _) _ _ _) _ _ _); (first | refine' callWith_K (K := ?K) ?k1 ?k2 ?_ | refine' callWith_K0 (K := ?K) ?k1 ?k2 ?_); (case k1 => exact At.kin (by assumption) $(Lean.mkIdent `hA):ident); (case k2 => first | assumption | k_is)))
local macro_rules | `(tactic| walk_at "call ref") => `(tactic| ((with_reducible rename At _ _ _ _ => $(Lean.mkIdent `hA):ident); refine r_use ?_; refine' (show MadeOk _ _ by assumption) ?W ?T ?hk $(Lean.mkIdent `hA):ident ?hp ?hm ?h1 ?h2 ?h5 ?h6 ?h8 ?_; (case W => assumption); (case T => assumption); (case hk => k_extra "m ok"); (case hp => assumption); (case hm => k_extra "m mem"); (case h1 => k_extra "m mem"); (case h2 => k_extra "m ints"); (case h5 => k_extra "m lens"); (case h6 => k_extra "m lens"); (case h8 => k_extra "m lens"); clear $(Lean.mkIdent `hA):ident; intro $(Lean.mkIdent `x9):ident $(Lean.mkIdent `s9):ident $(Lean.mkIdent `hA):ident))
local macro_rules | `(tactic| walk_at "call type:range") => `(tactic| ((with_reducible rename At _ _ _ _ => $(Lean.mkIdent `hA):ident); refine' r_range3 ?W $(Lean.mkIdent `hA):ident (by decide) ?n ?_; (case W => assumption); (case n => exact PyProof.noPylong_small (by decide)); clear $(Lean.mkIdent `hA):ident; intro $(Lean.mkIdent `r9):ident $(Lean.mkIdent `s9):ident $(Lean.mkIdent `hA):ident))
local macro_rules | `(tactic| walk_at "call type:enumerate") => `(tactic| ((with_reducible rename At _ _ _ _ => $(Lean.mkIdent `hA):ident); refine' r_enumT $(Lean.mkIdent `hA):ident ?h1 ?_; (case h1 => k_extra "m mem"); clear $(Lean.mkIdent `hA):ident; intro $(Lean.mkIdent `I9):ident $(Lean.mkIdent `t9):ident $(Lean.mkIdent `s9):ident $(Lean.mkIdent `hN9):ident $(Lean.mkIdent `hA):ident))
local macro_rules | `(tactic| walk_at "call type:list") => `(tactic| ((with_reducible rename At _ _ _ _ => $(Lean.mkIdent `hA):ident); refine' r_listEnum ?hh $(Lean.mkIdent `hA):ident ?hm ?hi ?h0 ?hz ?_; (case hh => k_extra "m hh"); (case hm => k_extra "m mem"); (case hi => assumption); (case h0 => k_extra "m lens"); (case hz => k_extra "m lens"); clear $(Lean.mkIdent `hA):ident; intro $(Lean.mkIdent `l9):ident $(Lean.mkIdent `v9):ident $(Lean.mkIdent `s9):ident $(Lean.mkIdent `hi9):ident $(Lean.mkIdent `hA):ident))
section
local macro_rules | `(tactic| walk_at "call builtin:pow") => `(tactic| ((with_reducible rename At _ _ _ _ => $(Lean.mkIdent `hA):ident); refine r_pow3 $(Lean.mkIdent `hA):ident (by omega) (by omega) ?_; clear $(Lean.mkIdent `hA):ident; intro $(Lean.mkIdent `t9):ident $(Lean.mkIdent `s9):ident $(Lean.mkIdent `hA):ident))
local macro_rules | `(tactic| walk_at "call ref") => `(tactic| ((with_reducible rename At _ _ _ _ => $(Lean.mkIdent `hA):ident); refine r_use ?_; refine' s_law_told ?W ?hk $(Lean.mkIdent `hA):ident ?hm ?hz ?_; (case W => assumption); (case hk => k_extra "m ok"); (case hm => k_extra "m mem"); (case hz => k_extra "m lens"); clear $(Lean.mkIdent `hA):ident; intro $(Lean.mkIdent `l9):ident $(Lean.mkIdent `v9):ident $(Lean.mkIdent `s9):ident $(Lean.mkIdent `hi9):ident $(Lean.mkIdent `hA):ident))
local macro_rules | `(tactic| walk_at "call ref") => `(tactic| ((with_reducible rename At _ _ _ _ => $(Lean.mkIdent `hA):ident); refine r_use ?_; refine' s_law_named ?W ?hk $(Lean.mkIdent `hA):ident ?hm ?hi ?h2 ?hn ?hmt ?hmb ?_; (case W => assumption); (case hk => k_extra "m ok"); (case hm => k_extra "m mem"); (case hi => k_extra "m ints"); (case h2 => k_extra "m lens"); (case hn => assumption); (case hmt => assumption); (case hmb => assumption); clear $(Lean.mkIdent `hA):ident; intro $(Lean.mkIdent `l9):ident $(Lean.mkIdent `v9):ident $(Lean.mkIdent `s9):ident $(Lean.mkIdent `hi9):ident $(Lean.mkIdent `hA):ident))
local macro_rules | `(tactic| walk_at "call ref") => `(tactic| ((with_reducible rename At _ _ _ _ => $(Lean.mkIdent `hA):ident); refine r_use ?_; refine' s_P ?W ?T ?hk $(Lean.mkIdent `hA):ident ?hp ?h1 ?h2 ?h3 ?h4 ?h5 ?h6  ?_; (case W => assumption); (case T => assumption); (case hk => k_extra "m ok"); (case hp => assumption); (case h2 => k_extra "m mem"); (case h1 => k_extra "m seq"); (case h3 => k_extra "m seq"); (case h4 => k_extra "m ints"); (case h5 => k_extra "m lens"); (case h6 => k_extra "m lens");  clear $(Lean.mkIdent `hA):ident; intro $(Lean.mkIdent `x9):ident $(Lean.mkIdent `s9):ident $(Lean.mkIdent `hA):ident))
local macro_rules | `(tactic| walk_at "call ref") => `(tactic| ((with_reducible rename At _ _ _ _ => $(Lean.mkIdent `hA):ident); refine r_use ?_; refine' s_O ?W ?T ?hk $(Lean.mkIdent `hA):ident ?hp ?h1 ?h2 ?h3 ?h4 ?h5 ?h6 ?h8 ?_; (case W => assumption); (case T => assumption); (case hk => k_extra "m ok"); (case hp => assumption); (case h1 => k_extra "m mem"); (case h2 => k_extra "m ints"); (case h3 => k_extra "m seq"); (case h4 => k_extra "m ints"); (case h5 => k_extra "m lens"); (case h6 => k_extra "m lens"); (case h8 => k_extra "m lens"); clear $(Lean.mkIdent `hA):ident; intro $(Lean.mkIdent `x9):ident $(Lean.mkIdent `s9):ident $(Lean.mkIdent `hA):ident))
local macro_rules | `(tactic| walk_at "call ref") => `(tactic| ((with_reducible rename At _ _ _ _ => $(Lean.mkIdent `hA):ident); refine r_use ?_; refine' s_F ?W ?T ?hk $(Lean.mkIdent `hA):ident ?hp ?h1 ?h2 ?h3 ?h4 ?h5 ?h6 ?h8 ?_; (case W => assumption); (case T => assumption); (case hk => k_extra "m ok"); (case hp => assumption); (case h1 => k_extra "m mem"); (case h2 => k_extra "m ints"); (case h3 => k_extra "m seq"); (case h4 => k_extra "m ints"); (case h5 => k_extra "m lens"); (case h6 => k_extra "m lens"); (case h8 => k_extra "m lens"); clear $(Lean.mkIdent `hA):ident; intro $(Lean.mkIdent `x9):ident $(Lean.mkIdent `s9):ident $(Lean.mkIdent `hA):ident))
local macro_rules | `(tactic| walk_at "compareOp Eq ref ref") => `(tactic| ((with_reducible rename At _ _ _ _ => $(Lean.mkIdent `hA):ident); refine' r_eqL (Ok.u99 $(Lean.mkIdent `hK9):ident) $(Lean.mkIdent `hA):ident ?h1 ?h2 ?i1 ?i2 ?hl ?_; (case h1 => k_extra "m pl"); (case h2 => k_extra "m pl"); (case i1 => k_extra "m ints"); (case i2 => k_extra "m ints"); (case hl => k_extra "m lenI")))
local macro_rules | `(tactic| walk_at "compareOp NotEq ref ref") => `(tactic| ((with_reducible rename At _ _ _ _ => $(Lean.mkIdent `hA):ident); refine' r_neL (Ok.u99 $(Lean.mkIdent `hK9):ident) $(Lean.mkIdent `hA):ident ?h1 ?h2 ?i1 ?i2 ?hl ?_; (case h1 => k_extra "m pl"); (case h2 => k_extra "m pl"); (case i1 => k_extra "m ints"); (case i2 => k_extra "m ints"); (case hl => k_extra "m lenI")))
local macro_rules | `(tactic| walk_at "call ref") => `(tactic| ((with_reducible rename At _ _ _ _ => $(Lean.mkIdent `hA):ident); refine r_use ?_; refine' told_P ?W ?hk $(Lean.mkIdent `hA):ident ?hm ?hz ?_; (case W => assumption); (case hk => k_extra "m ok"); (case hm => k_extra "m mem"); (case hz => k_extra "m lens"); clear $(Lean.mkIdent `hA):ident; intro $(Lean.mkIdent `l9):ident $(Lean.mkIdent `v9):ident $(Lean.mkIdent `s9):ident $(Lean.mkIdent `hi9):ident $(Lean.mkIdent `hA):ident))
local macro_rules | `(tactic| walk_at "call ref") => `(tactic| ((with_reducible rename At _ _ _ _ => $(Lean.mkIdent `hA):ident); refine r_use ?_; refine' told_Q ?hq ?W ?hk $(Lean.mkIdent `hA):ident ?hm ?hz ?_; (case W => assumption); (case hk => k_extra "m ok"); (case hm => k_extra "m mem"); (case hq => assumption); (case hz => k_extra "m lens"); clear $(Lean.mkIdent `hA):ident; intro $(Lean.mkIdent `l9):ident $(Lean.mkIdent `v9):ident $(Lean.mkIdent `s9):ident $(Lean.mkIdent `hi9):ident $(Lean.mkIdent `hA):ident))
variable {prog : Program} {w : World} {A : Around} {E : Value → Shared → Prop} {D : Dat} {Fs : List Fact} {R : List Res} {s : Shared} {Q : Value → Shared → Prop}
section
variable {C x y : Addr} {ns ks ms : List Int} {p : Int}
theorem d_Q_add (hq : QC C) (W : Wd (hd.heap_39 w.params) D) (T : ∀ t ∈ WT, t ∈ D.tabs) (hk : Ok A 24) (H : At D Fs R s) (hp : p ≠ 0) (hm : OptF C x p ns ms ∈ Fs) (hm2 : OptF C y p ks ms ∈ Fs) (h5 : ns.length = ms.length) (h7 : ks.length = ms.length) (h6 : ms.length < 1000) (h8 : 0 < ms.length)
    (h : ∀ x s', At D (OptF C x p (plnZip (· + ·) p ns ks) ms :: Fs) R s' → Q (.ref x) s') : wpAny (model prog w) A (binaryOp .Add (.ref x) (.ref y)) Q E s := by
  rcases hq with rfl | rfl
  · exact d_O_add W T hk H hp hm hm2 h5 h7 h6 h8 h
  · exact d_F_add W T hk H hp hm hm2 h5 h7 h6 h8 h
theorem d_Q_sub (hq : QC C) (W : Wd (hd.heap_39 w.params) D) (T : ∀ t ∈ WT, t ∈ D.tabs) (hk : Ok A 24) (H : At D Fs R s) (hp : p ≠ 0) (hm : OptF C x p ns ms ∈ Fs) (hm2 : OptF C y p ks ms ∈ Fs) (h5 : ns.length = ms.length) (h7 : ks.length = ms.length) (h6 : ms.length < 1000) (h8 : 0 < ms.length)
    (h : ∀ x s', At D (OptF C x p (plnZip (· - ·) p ns ks) ms :: Fs) R s' → Q (.ref x) s') : wpAny (model prog w) A (binaryOp .Sub (.ref x) (.ref y)) Q E s := by
  rcases hq with rfl | rfl
  · exact d_O_sub W T hk H hp hm hm2 h5 h7 h6 h8 h
  · exact d_F_sub W T hk H hp hm hm2 h5 h7 h6 h8 h
theorem d_Q_divE (hq : QC C) {lmF : List Int} {xF : Int} {k0 : Nat} (W : Wd (hd.heap_39 w.params) D) (T : ∀ t ∈ WT, t ∈ D.tabs) (hk : Ok A 44) (H : At D Fs R s) (hn : 1 < p) (hn2 : p < 2 ^ 20) (hm : OptF C x p ns ms ∈ Fs) (hm2 : OptF C y p ks ms ∈ Fs) (h5 : ns.length = ms.length) (h7 : ks.length = ms.length) (h6 : ms.length < 900) (h8 : 0 < ms.length) (hlF : lmF.length = ms.length + 1) (hbm : Bd ms)
    (hgo : jvGo p (ms.length + 1) k0 ([1] ++ List.replicate ms.length 0) (ks ++ [0]) (List.replicate (ms.length + 1) 0) (ms ++ [1]) = some (lmF, xF))
    (h : ∀ x s', At D (OptF C x p (optMul p ns (plnDiv p ((lmF.take ms.length).map fun k => k.fmod p) xF) ms) ms :: Fs) R s' → Q (.ref x) s') : wpAny (model prog w) A (binaryOp .Div (.ref x) (.ref y)) Q E s := by
  rcases hq with rfl | rfl
  · exact d_O_divE W T hk H hn hn2 hm hm2 h5 h7 h6 h8 hlF hbm hgo h
  · exact d_F_divE W T hk H hn hn2 hm hm2 h5 h7 h6 h8 hlF hbm hgo h
theorem d_Q_eq (hq : QC C) (W : Wd (hd.heap_39 w.params) D) (hk : Ok A 22) (H : At D Fs R s) (hm : OptF C x p ns ms ∈ Fs) (hm2 : OptF C y p ks ms ∈ Fs) (h5 : ns.length = ms.length) (h7 : ks.length = ms.length) (h6 : ms.length < 1000)
    (h : ∀ s', At D Fs R s' → Q (.bool (decide (ns = ks))) s') : wpAny (model prog w) A (compareOp .Eq (.ref x) (.ref y)) Q E s := by
  rcases hq with rfl | rfl
  · exact d_O_eq W hk H hm hm2 h5 h7 h6 h
  · exact d_F_eq W hk H hm hm2 h5 h7 h6 h
theorem d_Q_powI (hq : QC C) {k : Int} {t1 : Tok} (W : Wd (hd.heap_39 w.params) D) (T : ∀ t ∈ WT, t ∈ D.tabs) (hk : Ok A 90) (hk0 : 0 ≤ k ∧ k < 30) (H : At D Fs R s) (hp0 : 0 < p) (hp1 : p < 2 ^ 60) (hm : OptF C x p ns ms ∈ Fs) (h5 : ns.length = ms.length) (h6 : ms.length < 1000) (h8 : 0 < ms.length) (hb : Bd ns) (hbm : Bd ms)
    (h : ∀ x s', At D (OptF C x p (optPow p ms k.toNat ns) ms :: Fs) R s' → Q (.ref x) s') : wpAny (model prog w) A (binaryOp .Pow (.ref x) (.int k t1)) Q E s := by
  obtain ⟨n, rfl⟩ := Int.eq_ofNat_of_zero_le hk0.1
  rcases hq with rfl | rfl
  · exact d_O_pow W T (hk.mono (by omega)) H hp0 hp1 hm h5 h6 h8 hb hbm h
  · exact d_F_pow W T (hk.mono (by omega)) H hp0 hp1 hm h5 h6 h8 hb hbm h
theorem d_P_powI {k : Int} {t1 : Tok} (W : Wd (hd.heap_39 w.params) D) (T : ∀ t ∈ WT, t ∈ D.tabs) (hk : Ok A 90) (hk0 : 0 ≤ k ∧ k < 30) (H : At D Fs R s) (hp0 : 0 < p) (hp1 : p < 2 ^ 60) (hm : PlnF 183 297 x p ns ms ∈ Fs) (h5 : ns.length = ms.length) (h6 : ms.length < 1000) (h8 : 0 < ms.length) (hb : Bd ns)
    (h : ∀ x s', At D (PlnF 183 297 x p (plnPow p ms k.toNat ns) ms :: Fs) R s' → Q (.ref x) s') : wpAny (model prog w) A (binaryOp .Pow (.ref x) (.int k t1)) Q E s := by
  obtain ⟨n, rfl⟩ := Int.eq_ofNat_of_zero_le hk0.1
  refine' o_binT W H (F := PlnF 183 297 x p ns ms) hm .pln ?q1 ?q2 ?q3 (T := "int") rfl ?q4 (.inl rfl) ?q5 ?q6 ?q7 (r_use (s_P_pow n W T (hk.mono (by omega)) (by omega) H hp0 hp1 hm h5 h6 h8 hb h))
  case q1 => k_is
  case q2 => k_is
  case q3 => k_is
  case q4 => k_is
  case q5 => k_is
  case q6 => k_is
  case q7 => k_is
end
local macro_rules | `(tactic| walk_at "binaryOp Add ref ref") => `(tactic| ((with_reducible rename At _ _ _ _ => $(Lean.mkIdent `hA):ident); refine' d_Q_add ?hq ?W ?T ?hk $(Lean.mkIdent `hA):ident ?hp ?hm ?hm2 ?h5 ?h7 ?h6 ?h8 ?_; (case W => assumption); (case T => assumption); (case hk => k_extra "m ok"); (case hm => k_extra "m mem"); (case hm2 => k_extra "m mem"); (case hq => assumption); (case hp => assumption); (case h5 => k_extra "m lens"); (case h7 => k_extra "m lens"); (case h6 => k_extra "m lens"); (case h8 => k_extra "m lens"); clear $(Lean.mkIdent `hA):ident; intro $(Lean.mkIdent `x9):ident $(Lean.mkIdent `s9):ident $(Lean.mkIdent `hA):ident))
local macro_rules | `(tactic| walk_at "binaryOp Sub ref ref") => `(tactic| ((with_reducible rename At _ _ _ _ => $(Lean.mkIdent `hA):ident); refine' d_Q_sub ?hq ?W ?T ?hk $(Lean.mkIdent `hA):ident ?hp ?hm ?hm2 ?h5 ?h7 ?h6 ?h8 ?_; (case W => assumption); (case T => assumption); (case hk => k_extra "m ok"); (case hm => k_extra "m mem"); (case hm2 => k_extra "m mem"); (case hq => assumption); (case hp => assumption); (case h5 => k_extra "m lens"); (case h7 => k_extra "m lens"); (case h6 => k_extra "m lens"); (case h8 => k_extra "m lens"); clear $(Lean.mkIdent `hA):ident; intro $(Lean.mkIdent `x9):ident $(Lean.mkIdent `s9):ident $(Lean.mkIdent `hA):ident))
local macro_rules | `(tactic| walk_at "binaryOp Add ref ref") => `(tactic| ((with_reducible rename At _ _ _ _ => $(Lean.mkIdent `hA):ident); refine' d_P_add ?W ?T ?hk $(Lean.mkIdent `hA):ident ?hp ?hm ?hm2 ?h5 ?h7 ?h6 ?_; (case W => assumption); (case T => assumption); (case hk => k_extra "m ok"); (case hm => k_extra "m mem"); (case hm2 => k_extra "m mem"); (case hp => assumption); (case h5 => k_extra "m lens"); (case h7 => k_extra "m lens"); (case h6 => k_extra "m lens"); clear $(Lean.mkIdent `hA):ident; intro $(Lean.mkIdent `x9):ident $(Lean.mkIdent `s9):ident $(Lean.mkIdent `hA):ident))
local macro_rules | `(tactic| walk_at "binaryOp Sub ref ref") => `(tactic| ((with_reducible rename At _ _ _ _ => $(Lean.mkIdent `hA):ident); refine' d_P_sub ?W ?T ?hk $(Lean.mkIdent `hA):ident ?hp ?hm ?hm2 ?h5 ?h7 ?h6 ?_; (case W => assumption); (case T => assumption); (case hk => k_extra "m ok"); (case hm => k_extra "m mem"); (case hm2 => k_extra "m mem"); (case hp => assumption); (case h5 => k_extra "m lens"); (case h7 => k_extra "m lens"); (case h6 => k_extra "m lens"); clear $(Lean.mkIdent `hA):ident; intro $(Lean.mkIdent `x9):ident $(Lean.mkIdent `s9):ident $(Lean.mkIdent `hA):ident))
local macro_rules | `(tactic| walk_at "binaryOp Mult ref ref") => `(tactic| ((with_reducible rename At _ _ _ _ => $(Lean.mkIdent `hA):ident); refine' (show MulEOk _ by assumption) ?W ?T ?hk $(Lean.mkIdent `hA):ident ?hp0 ?hp1 ?hm ?hm2 ?h5 ?h7 ?h6 ?h8 ?hb ?hbm ?_; (case W => assumption); (case T => assumption); (case hk => k_extra "m ok"); (case hp0 => assumption); (case hp1 => assumption); (case hm => k_extra "m mem"); (case hm2 => k_extra "m mem"); (case h5 => k_extra "m lens"); (case h7 => k_extra "m lens"); (case h6 => k_extra "m lens"); (case h8 => k_extra "m lens"); (case hb => assumption); (case hbm => assumption); clear $(Lean.mkIdent `hA):ident; intro $(Lean.mkIdent `x9):ident $(Lean.mkIdent `s9):ident $(Lean.mkIdent `hA):ident))
local macro_rules | `(tactic| walk_at "binaryOp Mult ref ref") => `(tactic| ((with_reducible rename At _ _ _ _ => $(Lean.mkIdent `hA):ident); refine' d_P_mul ?W ?T ?hk $(Lean.mkIdent `hA):ident ?hp0 ?hp1 ?hm ?hm2 ?h5 ?h7 ?h6 ?h8 ?hb ?_; (case W => assumption); (case T => assumption); (case hk => k_extra "m ok"); (case hp0 => assumption); (case hp1 => assumption); (case hm => k_extra "m mem"); (case hm2 => k_extra "m mem"); (case h5 => k_extra "m lens"); (case h7 => k_extra "m lens"); (case h6 => k_extra "m lens"); (case h8 => k_extra "m lens"); (case hb => assumption); clear $(Lean.mkIdent `hA):ident; intro $(Lean.mkIdent `x9):ident $(Lean.mkIdent `s9):ident $(Lean.mkIdent `hA):ident))
local macro_rules | `(tactic| walk_at "binaryOp Div ref ref") => `(tactic| ((with_reducible rename At _ _ _ _ => $(Lean.mkIdent `hA):ident); refine' d_Q_divE ?hq ?W ?T ?hk $(Lean.mkIdent `hA):ident ?hn ?hn2 ?hm ?hm2 ?h5 ?h7 ?h6 ?h8 ?hlF ?hbm ?hgo ?_; (case W => assumption); (case T => assumption); (case hk => k_extra "m ok"); (case hn => assumption); (case hn2 => assumption); (case hm => k_extra "m mem"); (case hm2 => k_extra "m mem"); (case hq => assumption); (case hgo => assumption); (case hlF => assumption); (case h5 => k_extra "m lens"); (case h7 => k_extra "m lens"); (case h6 => k_extra "m lens"); (case h8 => k_extra "m lens"); (case hbm => assumption); clear $(Lean.mkIdent `hA):ident; intro $(Lean.mkIdent `x9):ident $(Lean.mkIdent `s9):ident $(Lean.mkIdent `hA):ident))
local macro_rules | `(tactic| walk_at "binaryOp Div ref ref") => `(tactic| ((with_reducible rename At _ _ _ _ => $(Lean.mkIdent `hA):ident); refine' d_P_divE ?W ?T ?hk $(Lean.mkIdent `hA):ident ?hn ?hn2 ?hm ?hm2 ?h5 ?h7 ?h6 ?h8 ?hlF ?hgo ?_; (case W => assumption); (case T => assumption); (case hk => k_extra "m ok"); (case hn => assumption); (case hn2 => assumption); (case hm => k_extra "m mem"); (case hm2 => k_extra "m mem"); (case hgo => assumption); (case hlF => assumption); (case h5 => k_extra "m lens"); (case h7 => k_extra "m lens"); (case h6 => k_extra "m lens"); (case h8 => k_extra "m lens"); clear $(Lean.mkIdent `hA):ident; intro $(Lean.mkIdent `x9):ident $(Lean.mkIdent `s9):ident $(Lean.mkIdent `hA):ident))
local macro_rules | `(tactic| walk_at "binaryOp Pow ref int") => `(tactic| ((with_reducible rename At _ _ _ _ => $(Lean.mkIdent `hA):ident); refine' d_Q_powI ?hq ?W ?T ?hk ?hk0 $(Lean.mkIdent `hA):ident ?hp0 ?hp1 ?hm ?h5 ?h6 ?h8 ?hb ?hbm ?_; (case W => assumption); (case T => assumption); (case hk => k_extra "m ok"); (case hk0 => assumption); (case hp0 => assumption); (case hp1 => assumption); (case hm => k_extra "m mem"); (case hq => assumption); (case h5 => k_extra "m lens"); (case h6 => k_extra "m lens"); (case h8 => k_extra "m lens"); (case hb => assumption); (case hbm => assumption); clear $(Lean.mkIdent `hA):ident; intro $(Lean.mkIdent `x9):ident $(Lean.mkIdent `s9):ident $(Lean.mkIdent `hA):ident))
local macro_rules | `(tactic| walk_at "binaryOp Pow ref int") => `(tactic| ((with_reducible rename At _ _ _ _ => $(Lean.mkIdent `hA):ident); refine' d_P_powI ?W ?T ?hk ?hk0 $(Lean.mkIdent `hA):ident ?hp0 ?hp1 ?hm ?h5 ?h6 ?h8 ?hb ?_; (case W => assumption); (case T => assumption); (case hk => k_extra "m ok"); (case hk0 => assumption); (case hp0 => assumption); (case hp1 => assumption); (case hm => k_extra "m mem"); (case h5 => k_extra "m lens"); (case h6 => k_extra "m lens"); (case h8 => k_extra "m lens"); (case hb => assumption); clear $(Lean.mkIdent `hA):ident; intro $(Lean.mkIdent `x9):ident $(Lean.mkIdent `s9):ident $(Lean.mkIdent `hA):ident))
local macro_rules | `(tactic| walk_at "compareOp Eq ref ref") => `(tactic| ((with_reducible rename At _ _ _ _ => $(Lean.mkIdent `hA):ident); refine' d_Q_eq ?hq ?W ?hk $(Lean.mkIdent `hA):ident ?hm ?hm2 ?h5 ?h7 ?h6 ?_; (case W => assumption); (case hk => k_extra "m ok"); (case hm => k_extra "m mem"); (case hm2 => k_extra "m mem"); (case hq => assumption); (case h5 => k_extra "m lens"); (case h7 => k_extra "m lens"); (case h6 => k_extra "m lens"); clear $(Lean.mkIdent `hA):ident; intro $(Lean.mkIdent `s9):ident $(Lean.mkIdent `hA):ident))
local macro_rules | `(tactic| walk_at "compareOp Eq ref ref") => `(tactic| ((with_reducible rename At _ _ _ _ => $(Lean.mkIdent `hA):ident); refine' d_P_eq ?W ?hk $(Lean.mkIdent `hA):ident ?hm ?hm2 ?h5 ?h7 ?h6 ?_; (case W => assumption); (case hk => k_extra "m ok"); (case hm => k_extra "m mem"); (case hm2 => k_extra "m mem"); (case h5 => k_extra "m lens"); (case h7 => k_extra "m lens"); (case h6 => k_extra "m lens"); clear $(Lean.mkIdent `hA):ident; intro $(Lean.mkIdent `s9):ident $(Lean.mkIdent `hA):ident))
local macro_rules | `(tactic| walk_at "call ref") => `(tactic| ((with_reducible rename At _ _ _ _ => $(Lean.mkIdent `hA):ident); refine r_use ?_; refine' s_P_inv ?W ?T ?hk $(Lean.mkIdent `hA):ident ?hn ?hn2 ?hm ?h5 ?h6 ?h8 ?hgo ?_; (case W => assumption); (case T => assumption); (case hk => k_extra "m ok"); (case hn => assumption); (case hn2 => assumption); (case hm => k_extra "m mem"); (case hgo => assumption); (case h5 => k_extra "m lens"); (case h6 => k_extra "m lens"); (case h8 => k_extra "m lens"); clear $(Lean.mkIdent `hA):ident; intro $(Lean.mkIdent `x9):ident $(Lean.mkIdent `s9):ident $(Lean.mkIdent `hA):ident))
local macro_rules | `(tactic| walk_at "call ref") => `(tactic| ((with_reducible rename At _ _ _ _ => $(Lean.mkIdent `hA):ident); refine r_use ?_; refine' s_G_inv (show OC _ _ _ by assumption) (show OC2 _ _ by assumption) (show MadeOk _ _ by assumption) (show DivIOk _ by assumption) ?W ?T ?hk $(Lean.mkIdent `hA):ident ?hn ?hn2 ?hm ?h5 ?h6 ?h8 ?hgo ?_; (case W => assumption); (case T => assumption); (case hk => k_extra "m ok"); (case hn => assumption); (case hn2 => assumption); (case hm => k_extra "m mem"); (case hgo => assumption); (case h5 => k_extra "m lens"); (case h6 => k_extra "m lens"); (case h8 => k_extra "m lens"); clear $(Lean.mkIdent `hA):ident; intro $(Lean.mkIdent `x9):ident $(Lean.mkIdent `s9):ident $(Lean.mkIdent `hA):ident))
local macro_rules | `(tactic| walk_at "call ref") => `(tactic| ((with_reducible rename At _ _ _ _ => $(Lean.mkIdent `hA):ident); refine r_use ?_; refine' s_P_one ?W ?T ?hk $(Lean.mkIdent `hA):ident ?hp ?hm ?h5 ?h6 ?_; (case W => assumption); (case T => assumption); (case hk => k_extra "m ok"); (case hm => k_extra "m mem"); (case hp => assumption); (case h5 => k_extra "m lens"); (case h6 => k_extra "m lens"); clear $(Lean.mkIdent `hA):ident; intro $(Lean.mkIdent `x9):ident $(Lean.mkIdent `s9):ident $(Lean.mkIdent `hA):ident))
local macro_rules | `(tactic| walk_at "call ref") => `(tactic| ((with_reducible rename At _ _ _ _ => $(Lean.mkIdent `hA):ident); refine r_use ?_; refine' s_P_zero ?W ?T ?hk $(Lean.mkIdent `hA):ident ?hp ?hm ?h5 ?h6 ?_; (case W => assumption); (case T => assumption); (case hk => k_extra "m ok"); (case hm => k_extra "m mem"); (case hp => assumption); (case h5 => k_extra "m lens"); (case h6 => k_extra "m lens"); clear $(Lean.mkIdent `hA):ident; intro $(Lean.mkIdent `x9):ident $(Lean.mkIdent `s9):ident $(Lean.mkIdent `hA):ident))
local macro_rules | `(tactic| walk_at "call ref") => `(tactic| ((with_reducible rename At _ _ _ _ => $(Lean.mkIdent `hA):ident); refine r_use ?_; refine' s_G_one (show OC _ _ _ by assumption) (show MadeOk _ _ by assumption) ?W ?T ?hk $(Lean.mkIdent `hA):ident ?hp ?hm ?h5 ?h6 ?_; (case W => assumption); (case T => assumption); (case hk => k_extra "m ok"); (case hm => k_extra "m mem"); (case hp => assumption); (case h5 => k_extra "m lens"); (case h6 => k_extra "m lens"); clear $(Lean.mkIdent `hA):ident; intro $(Lean.mkIdent `x9):ident $(Lean.mkIdent `s9):ident $(Lean.mkIdent `hA):ident))
local macro_rules | `(tactic| walk_at "call ref") => `(tactic| ((with_reducible rename At _ _ _ _ => $(Lean.mkIdent `hA):ident); refine r_use ?_; refine' s_G_zero (show OC _ _ _ by assumption) (show MadeOk _ _ by assumption) ?W ?T ?hk $(Lean.mkIdent `hA):ident ?hp ?hm ?h5 ?h6 ?_; (case W => assumption); (case T => assumption); (case hk => k_extra "m ok"); (case hm => k_extra "m mem"); (case hp => assumption); (case h5 => k_extra "m lens"); (case h6 => k_extra "m lens"); clear $(Lean.mkIdent `hA):ident; intro $(Lean.mkIdent `x9):ident $(Lean.mkIdent `s9):ident $(Lean.mkIdent `hA):ident))
end
section
local macro_rules | `(tactic| walk_at "call ref") => `(tactic| ((with_reducible rename At _ _ _ _ => $(Lean.mkIdent `hA):ident); refine r_use ?_; refine' s_law_at ?W ?hk $(Lean.mkIdent `hA):ident ?hm ?hi ?hz ?kk ?_; (case W => assumption); (case hk => k_extra "m ok"); (case hm => k_extra "m mem"); (case hi => assumption); (case hz => k_extra "m lens"); (case kk => decide); clear $(Lean.mkIdent `hA):ident; intro $(Lean.mkIdent `t9):ident $(Lean.mkIdent `s9):ident $(Lean.mkIdent `hA):ident))
local macro_rules | `(tactic| walk_at "getAttr ref") => `(tactic| ((with_reducible rename At _ _ _ _ => $(Lean.mkIdent `hA):ident); refine' r_eoc ?W $(Lean.mkIdent `hA):ident ?hm ?he ?_; (case W => assumption); (case he => exact rfl); (case hm => k_extra "m mem"); clear $(Lean.mkIdent `hA):ident; intro $(Lean.mkIdent `y9):ident $(Lean.mkIdent `v9):ident $(Lean.mkIdent `s9):ident $(Lean.mkIdent `hi9):ident $(Lean.mkIdent `hA):ident))
local macro_rules | `(tactic| walk_at "call builtin:pow") => `(tactic| ((with_reducible rename At _ _ _ _ => $(Lean.mkIdent `hA):ident); refine r_pow3 $(Lean.mkIdent `hA):ident (by omega) (by omega) ?_; clear $(Lean.mkIdent `hA):ident; intro $(Lean.mkIdent `t9):ident $(Lean.mkIdent `s9):ident $(Lean.mkIdent `hA):ident))
local macro_rules | `(tactic| walk_at "call ref") => `(tactic| ((with_reducible rename At _ _ _ _ => $(Lean.mkIdent `hA):ident); refine r_use ?_; refine' s_law_told ?W ?hk $(Lean.mkIdent `hA):ident ?hm ?hz ?_; (case W => assumption); (case hk => k_extra "m ok"); (case hm => k_extra "m mem"); (case hz => k_extra "m lens"); clear $(Lean.mkIdent `hA):ident; intro $(Lean.mkIdent `l9):ident $(Lean.mkIdent `v9):ident $(Lean.mkIdent `s9):ident $(Lean.mkIdent `hi9):ident $(Lean.mkIdent `hA):ident))
local macro_rules | `(tactic| walk_at "call ref") => `(tactic| ((with_reducible rename At _ _ _ _ => $(Lean.mkIdent `hA):ident); refine r_use ?_; refine' s_law_named ?W ?hk $(Lean.mkIdent `hA):ident ?hm ?hi ?h2 ?hn ?hmt ?hmb ?_; (case W => assumption); (case hk => k_extra "m ok"); (case hm => k_extra "m mem"); (case hi => k_extra "m ints"); (case h2 => k_extra "m lens"); (case hn => assumption); (case hmt => assumption); (case hmb => assumption); clear $(Lean.mkIdent `hA):ident; intro $(Lean.mkIdent `l9):ident $(Lean.mkIdent `v9):ident $(Lean.mkIdent `s9):ident $(Lean.mkIdent `hi9):ident $(Lean.mkIdent `hA):ident))
local macro_rules | `(tactic| walk_at "call ref") => `(tactic| ((with_reducible rename At _ _ _ _ => $(Lean.mkIdent `hA):ident); refine r_use ?_; refine' s_P ?W ?T ?hk $(Lean.mkIdent `hA):ident ?hp ?h1 ?h2 ?h3 ?h4 ?h5 ?h6  ?_; (case W => assumption); (case T => assumption); (case hk => k_extra "m ok"); (case hp => assumption); (case h2 => k_extra "m mem"); (case h1 => k_extra "m seq"); (case h3 => k_extra "m seq"); (case h4 => k_extra "m ints"); (case h5 => k_extra "m lens"); (case h6 => k_extra "m lens");  clear $(Lean.mkIdent `hA):ident; intro $(Lean.mkIdent `x9):ident $(Lean.mkIdent `s9):ident $(Lean.mkIdent `hA):ident))
local macro_rules | `(tactic| walk_at "call ref") => `(tactic| ((with_reducible rename At _ _ _ _ => $(Lean.mkIdent `hA):ident); refine r_use ?_; refine' s_O ?W ?T ?hk $(Lean.mkIdent `hA):ident ?hp ?h1 ?h2 ?h3 ?h4 ?h5 ?h6 ?h8 ?_; (case W => assumption); (case T => assumption); (case hk => k_extra "m ok"); (case hp => assumption); (case h1 => k_extra "m mem"); (case h2 => k_extra "m ints"); (case h3 => k_extra "m seq"); (case h4 => k_extra "m ints"); (case h5 => k_extra "m lens"); (case h6 => k_extra "m lens"); (case h8 => k_extra "m lens"); clear $(Lean.mkIdent `hA):ident; intro $(Lean.mkIdent `x9):ident $(Lean.mkIdent `s9):ident $(Lean.mkIdent `hA):ident))
local macro_rules | `(tactic| walk_at "call ref") => `(tactic| ((with_reducible rename At _ _ _ _ => $(Lean.mkIdent `hA):ident); refine r_use ?_; refine' s_F ?W ?T ?hk $(Lean.mkIdent `hA):ident ?hp ?h1 ?h2 ?h3 ?h4 ?h5 ?h6 ?h8 ?_; (case W => assumption); (case T => assumption); (case hk => k_extra "m ok"); (case hp => assumption); (case h1 => k_extra "m mem"); (case h2 => k_extra "m ints"); (case h3 => k_extra "m seq"); (case h4 => k_extra "m ints"); (case h5 => k_extra "m lens"); (case h6 => k_extra "m lens"); (case h8 => k_extra "m lens"); clear $(Lean.mkIdent `hA):ident; intro $(Lean.mkIdent `x9):ident $(Lean.mkIdent `s9):ident $(Lean.mkIdent `hA):ident))
local macro_rules | `(tactic| walk_at "compareOp Eq ref ref") => `(tactic| ((with_reducible rename At _ _ _ _ => $(Lean.mkIdent `hA):ident); refine' r_eqL (Ok.u99 $(Lean.mkIdent `hK9):ident) $(Lean.mkIdent `hA):ident ?h1 ?h2 ?i1 ?i2 ?hl ?_; (case h1 => k_extra "m pl"); (case h2 => k_extra "m pl"); (case i1 => k_extra "m ints"); (case i2 => k_extra "m ints"); (case hl => k_extra "m lenI")))
local macro_rules | `(tactic| walk_at "compareOp NotEq ref ref") => `(tactic| ((with_reducible rename At _ _ _ _ => $(Lean.mkIdent `hA):ident); refine' r_neL (Ok.u99 $(Lean.mkIdent `hK9):ident) $(Lean.mkIdent `hA):ident ?h1 ?h2 ?i1 ?i2 ?hl ?_; (case h1 => k_extra "m pl"); (case h2 => k_extra "m pl"); (case i1 => k_extra "m ints"); (case i2 => k_extra "m ints"); (case hl => k_extra "m lenI")))
local macro_rules | `(tactic| walk_at "call ref") => `(tactic| ((with_reducible rename At _ _ _ _ => $(Lean.mkIdent `hA):ident); refine r_use ?_; refine' told_P ?W ?hk $(Lean.mkIdent `hA):ident ?hm ?hz ?_; (case W => assumption); (case hk => k_extra "m ok"); (case hm => k_extra "m mem"); (case hz => k_extra "m lens"); clear $(Lean.mkIdent `hA):ident; intro $(Lean.mkIdent `l9):ident $(Lean.mkIdent `v9):ident $(Lean.mkIdent `s9):ident $(Lean.mkIdent `hi9):ident $(Lean.mkIdent `hA):ident))
local macro_rules | `(tactic| walk_at "call ref") => `(tactic| ((with_reducible rename At _ _ _ _ => $(Lean.mkIdent `hA):ident); refine r_use ?_; refine' told_Q ?hq ?W ?hk $(Lean.mkIdent `hA):ident ?hm ?hz ?_; (case W => assumption); (case hk => k_extra "m ok"); (case hm => k_extra "m mem"); (case hq => assumption); (case hz => k_extra "m lens"); clear $(Lean.mkIdent `hA):ident; intro $(Lean.mkIdent `l9):ident $(Lean.mkIdent `v9):ident $(Lean.mkIdent `s9):ident $(Lean.mkIdent `hi9):ident $(Lean.mkIdent `hA):ident))
local macro_rules | `(tactic| walk_at "binaryOp Add ref ref") => `(tactic| ((with_reducible rename At _ _ _ _ => $(Lean.mkIdent `hA):ident); refine' d_Q_add ?hq ?W ?T ?hk $(Lean.mkIdent `hA):ident ?hp ?hm ?hm2 ?h5 ?h7 ?h6 ?h8 ?_; (case W => assumption); (case T => assumption); (case hk => k_extra "m ok"); (case hm => k_extra "m mem"); (case hm2 => k_extra "m mem"); (case hq => assumption); (case hp => assumption); (case h5 => k_extra "m lens"); (case h7 => k_extra "m lens"); (case h6 => k_extra "m lens"); (case h8 => k_extra "m lens"); clear $(Lean.mkIdent `hA):ident; intro $(Lean.mkIdent `x9):ident $(Lean.mkIdent `s9):ident $(Lean.mkIdent `hA):ident))
local macro_rules | `(tactic| walk_at "binaryOp Sub ref ref") => `(tactic| ((with_reducible rename At _ _ _ _ => $(Lean.mkIdent `hA):ident); refine' d_Q_sub ?hq ?W ?T ?hk $(Lean.mkIdent `hA):ident ?hp ?hm ?hm2 ?h5 ?h7 ?h6 ?h8 ?_; (case W => assumption); (case T => assumption); (case hk => k_extra "m ok"); (case hm => k_extra "m mem"); (case hm2 => k_extra "m mem"); (case hq => assumption); (case hp => assumption); (case h5 => k_extra "m lens"); (case h7 => k_extra "m lens"); (case h6 => k_extra "m lens"); (case h8 => k_extra "m lens"); clear $(Lean.mkIdent `hA):ident; intro $(Lean.mkIdent `x9):ident $(Lean.mkIdent `s9):ident $(Lean.mkIdent `hA):ident))
local macro_rules | `(tactic| walk_at "binaryOp Add ref ref") => `(tactic| ((with_reducible rename At _ _ _ _ => $(Lean.mkIdent `hA):ident); refine' d_P_add ?W ?T ?hk $(Lean.mkIdent `hA):ident ?hp ?hm ?hm2 ?h5 ?h7 ?h6 ?_; (case W => assumption); (case T => assumption); (case hk => k_extra "m ok"); (case hm => k_extra "m mem"); (case hm2 => k_extra "m mem"); (case hp => assumption); (case h5 => k_extra "m lens"); (case h7 => k_extra "m lens"); (case h6 => k_extra "m lens"); clear $(Lean.mkIdent `hA):ident; intro $(Lean.mkIdent `x9):ident $(Lean.mkIdent `s9):ident $(Lean.mkIdent `hA):ident))
local macro_rules | `(tactic| walk_at "binaryOp Sub ref ref") => `(tactic| ((with_reducible rename At _ _ _ _ => $(Lean.mkIdent `hA):ident); refine' d_P_sub ?W ?T ?hk $(Lean.mkIdent `hA):ident ?hp ?hm ?hm2 ?h5 ?h7 ?h6 ?_; (case W => assumption); (case T => assumption); (case hk => k_extra "m ok"); (case hm => k_extra "m mem"); (case hm2 => k_extra "m mem"); (case hp => assumption); (case h5 => k_extra "m lens"); (case h7 => k_extra "m lens"); (case h6 => k_extra "m lens"); clear $(Lean.mkIdent `hA):ident; intro $(Lean.mkIdent `x9):ident $(Lean.mkIdent `s9):ident $(Lean.mkIdent `hA):ident))
local macro_rules | `(tactic| walk_at "binaryOp Mult ref ref") => `(tactic| ((with_reducible rename At _ _ _ _ => $(Lean.mkIdent `hA):ident); refine' (show MulEOk _ by assumption) ?W ?T ?hk $(Lean.mkIdent `hA):ident ?hp0 ?hp1 ?hm ?hm2 ?h5 ?h7 ?h6 ?h8 ?hb ?hbm ?_; (case W => assumption); (case T => assumption); (case hk => k_extra "m ok"); (case hp0 => assumption); (case hp1 => assumption); (case hm => k_extra "m mem"); (case hm2 => k_extra "m mem"); (case h5 => k_extra "m lens"); (case h7 => k_extra "m lens"); (case h6 => k_extra "m lens"); (case h8 => k_extra "m lens"); (case hb => assumption); (case hbm => assumption); clear $(Lean.mkIdent `hA):ident; intro $(Lean.mkIdent `x9):ident $(Lean.mkIdent `s9):ident $(Lean.mkIdent `hA):ident))
local macro_rules | `(tactic| walk_at "binaryOp Mult ref ref") => `(tactic| ((with_reducible rename At _ _ _ _ => $(Lean.mkIdent `hA):ident); refine' d_P_mul ?W ?T ?hk $(Lean.mkIdent `hA):ident ?hp0 ?hp1 ?hm ?hm2 ?h5 ?h7 ?h6 ?h8 ?hb ?_; (case W => assumption); (case T => assumption); (case hk => k_extra "m ok"); (case hp0 => assumption); (case hp1 => assumption); (case hm => k_extra "m mem"); (case hm2 => k_extra "m mem"); (case h5 => k_extra "m lens"); (case h7 => k_extra "m lens"); (case h6 => k_extra "m lens"); (case h8 => k_extra "m lens"); (case hb => assumption); clear $(Lean.mkIdent `hA):ident; intro $(Lean.mkIdent `x9):ident $(Lean.mkIdent `s9):ident $(Lean.mkIdent `hA):ident))
local macro_rules | `(tactic| walk_at "binaryOp Div ref ref") => `(tactic| ((with_reducible rename At _ _ _ _ => $(Lean.mkIdent `hA):ident); refine' d_Q_divE ?hq ?W ?T ?hk $(Lean.mkIdent `hA):ident ?hn ?hn2 ?hm ?hm2 ?h5 ?h7 ?h6 ?h8 ?hlF ?hbm ?hgo ?_; (case W => assumption); (case T => assumption); (case hk => k_extra "m ok"); (case hn => assumption); (case hn2 => assumption); (case hm => k_extra "m mem"); (case hm2 => k_extra "m mem"); (case hq => assumption); (case hgo => assumption); (case hlF => assumption); (case h5 => k_extra "m lens"); (case h7 => k_extra "m lens"); (case h6 => k_extra "m lens"); (case h8 => k_extra "m lens"); (case hbm => assumption); clear $(Lean.mkIdent `hA):ident; intro $(Lean.mkIdent `x9):ident $(Lean.mkIdent `s9):ident $(Lean.mkIdent `hA):ident))
local macro_rules | `(tactic| walk_at "binaryOp Div ref ref") => `(tactic| ((with_reducible rename At _ _ _ _ => $(Lean.mkIdent `hA):ident); refine' d_P_divE ?W ?T ?hk $(Lean.mkIdent `hA):ident ?hn ?hn2 ?hm ?hm2 ?h5 ?h7 ?h6 ?h8 ?hlF ?hgo ?_; (case W => assumption); (case T => assumption); (case hk => k_extra "m ok"); (case hn => assumption); (case hn2 => assumption); (case hm => k_extra "m mem"); (case hm2 => k_extra "m mem"); (case hgo => assumption); (case hlF => assumption); (case h5 => k_extra "m lens"); (case h7 => k_extra "m lens"); (case h6 => k_extra "m lens"); (case h8 => k_extra "m lens"); clear $(Lean.mkIdent `hA):ident; intro $(Lean.mkIdent `x9):ident $(Lean.mkIdent `s9):ident $(Lean.mkIdent `hA):ident))
local macro_rules | `(tactic| walk_at "binaryOp Pow ref int") => `(tactic| ((with_reducible rename At _ _ _ _ => $(Lean.mkIdent `hA):ident); refine' d_Q_powI ?hq ?W ?T ?hk ?hk0 $(Lean.mkIdent `hA):ident ?hp0 ?hp1 ?hm ?h5 ?h6 ?h8 ?hb ?hbm ?_; (case W => assumption); (case T => assumption); (case hk => k_extra "m ok"); (case hk0 => assumption); (case hp0 => assumption); (case hp1 => assumption); (case hm => k_extra "m mem"); (case hq => assumption); (case h5 => k_extra "m lens"); (case h6 => k_extra "m lens"); (case h8 => k_extra "m lens"); (case hb => assumption); (case hbm => assumption); clear $(Lean.mkIdent `hA):ident; intro $(Lean.mkIdent `x9):ident $(Lean.mkIdent `s9):ident $(Lean.mkIdent `hA):ident))
local macro_rules | `(tactic| walk_at "binaryOp Pow ref int") => `(tactic| ((with_reducible rename At _ _ _ _ => $(Lean.mkIdent `hA):ident); refine' d_P_powI ?W ?T ?hk ?hk0 $(Lean.mkIdent `hA):ident ?hp0 ?hp1 ?hm ?h5 ?h6 ?h8 ?hb ?_; (case W => assumption); (case T => assumption); (case hk => k_extra "m ok"); (case hk0 => assumption); (case hp0 => assumption); (case hp1 => assumption); (case hm => k_extra "m mem"); (case h5 => k_extra "m lens"); (case h6 => k_extra "m lens"); (case h8 => k_extra "m lens"); (case hb => assumption); clear $(Lean.mkIdent `hA):ident; intro $(Lean.mkIdent `x9):ident $(Lean.mkIdent `s9):ident $(Lean.mkIdent `hA):ident))
local macro_rules | `(tactic| walk_at "compareOp Eq ref ref") => `(tactic| ((with_reducible rename At _ _ _ _ => $(Lean.mkIdent `hA):ident); refine' d_Q_eq ?hq ?W ?hk $(Lean.mkIdent `hA):ident ?hm ?hm2 ?h5 ?h7 ?h6 ?_; (case W => assumption); (case hk => k_extra "m ok"); (case hm => k_extra "m mem"); (case hm2 => k_extra "m mem"); (case hq => assumption); (case h5 => k_extra "m lens"); (case h7 => k_extra "m lens"); (case h6 => k_extra "m lens"); clear $(Lean.mkIdent `hA):ident; intro $(Lean.mkIdent `s9):ident $(Lean.mkIdent `hA):ident))
local macro_rules | `(tactic| walk_at "compareOp Eq ref ref") => `(tactic| ((with_reducible rename At _ _ _ _ => $(Lean.mkIdent `hA):ident); refine' d_P_eq ?W ?hk $(Lean.mkIdent `hA):ident ?hm ?hm2 ?h5 ?h7 ?h6 ?_; (case W => assumption); (case hk => k_extra "m ok"); (case hm => k_extra "m mem"); (case hm2 => k_extra "m mem"); (case h5 => k_extra "m lens"); (case h7 => k_extra "m lens"); (case h6 => k_extra "m lens"); clear $(Lean.mkIdent `hA):ident; intro $(Lean.mkIdent `s9):ident $(Lean.mkIdent `hA):ident))
local macro_rules | `(tactic| walk_at "call ref") => `(tactic| ((with_reducible rename At _ _ _ _ => $(Lean.mkIdent `hA):ident); refine r_use ?_; refine' s_P_inv ?W ?T ?hk $(Lean.mkIdent `hA):ident ?hn ?hn2 ?hm ?h5 ?h6 ?h8 ?hgo ?_; (case W => assumption); (case T => assumption); (case hk => k_extra "m ok"); (case hn => assumption); (case hn2 => assumption); (case hm => k_extra "m mem"); (case hgo => assumption); (case h5 => k_extra "m lens"); (case h6 => k_extra "m lens"); (case h8 => k_extra "m lens"); clear $(Lean.mkIdent `hA):ident; intro $(Lean.mkIdent `x9):ident $(Lean.mkIdent `s9):ident $(Lean.mkIdent `hA):ident))
local macro_rules | `(tactic| walk_at "call ref") => `(tactic| ((with_reducible rename At _ _ _ _ => $(Lean.mkIdent `hA):ident); refine r_use ?_; refine' s_G_inv (show OC _ _ _ by assumption) (show OC2 _ _ by assumption) (show MadeOk _ _ by assumption) (show DivIOk _ by assumption) ?W ?T ?hk $(Lean.mkIdent `hA):ident ?hn ?hn2 ?hm ?h5 ?h6 ?h8 ?hgo ?_; (case W => assumption); (case T => assumption); (case hk => k_extra "m ok"); (case hn => assumption); (case hn2 => assumption); (case hm => k_extra "m mem"); (case hgo => assumption); (case h5 => k_extra "m lens"); (case h6 => k_extra "m lens"); (case h8 => k_extra "m lens"); clear $(Lean.mkIdent `hA):ident; intro $(Lean.mkIdent `x9):ident $(Lean.mkIdent `s9):ident $(Lean.mkIdent `hA):ident))
local macro_rules | `(tactic| walk_at "call ref") => `(tactic| ((with_reducible rename At _ _ _ _ => $(Lean.mkIdent `hA):ident); refine r_use ?_; refine' s_P_one ?W ?T ?hk $(Lean.mkIdent `hA):ident ?hp ?hm ?h5 ?h6 ?_; (case W => assumption); (case T => assumption); (case hk => k_extra "m ok"); (case hm => k_extra "m mem"); (case hp => assumption); (case h5 => k_extra "m lens"); (case h6 => k_extra "m lens"); clear $(Lean.mkIdent `hA):ident; intro $(Lean.mkIdent `x9):ident $(Lean.mkIdent `s9):ident $(Lean.mkIdent `hA):ident))
local macro_rules | `(tactic| walk_at "call ref") => `(tactic| ((with_reducible rename At _ _ _ _ => $(Lean.mkIdent `hA):ident); refine r_use ?_; refine' s_P_zero ?W ?T ?hk $(Lean.mkIdent `hA):ident ?hp ?hm ?h5 ?h6 ?_; (case W => assumption); (case T => assumption); (case hk => k_extra "m ok"); (case hm => k_extra "m mem"); (case hp => assumption); (case h5 => k_extra "m lens"); (case h6 => k_extra "m lens"); clear $(Lean.mkIdent `hA):ident; intro $(Lean.mkIdent `x9):ident $(Lean.mkIdent `s9):ident $(Lean.mkIdent `hA):ident))
local macro_rules | `(tactic| walk_at "call ref") => `(tactic| ((with_reducible rename At _ _ _ _ => $(Lean.mkIdent `hA):ident); refine r_use ?_; refine' s_G_one (show OC _ _ _ by assumption) (show MadeOk _ _ by assumption) ?W ?T ?hk $(Lean.mkIdent `hA):ident ?hp ?hm ?h5 ?h6 ?_; (case W => assumption); (case T => assumption); (case hk => k_extra "m ok"); (case hm => k_extra "m mem"); (case hp => assumption); (case h5 => k_extra "m lens"); (case h6 => k_extra "m lens"); clear $(Lean.mkIdent `hA):ident; intro $(Lean.mkIdent `x9):ident $(Lean.mkIdent `s9):ident $(Lean.mkIdent `hA):ident))
local macro_rules | `(tactic| walk_at "call ref") => `(tactic| ((with_reducible rename At _ _ _ _ => $(Lean.mkIdent `hA):ident); refine r_use ?_; refine' s_G_zero (show OC _ _ _ by assumption) (show MadeOk _ _ by assumption) ?W ?T ?hk $(Lean.mkIdent `hA):ident ?hp ?hm ?h5 ?h6 ?_; (case W => assumption); (case T => assumption); (case hk => k_extra "m ok"); (case hm => k_extra "m mem"); (case hp => assumption); (case h5 => k_extra "m lens"); (case h6 => k_extra "m lens"); clear $(Lean.mkIdent `hA):ident; intro $(Lean.mkIdent `x9):ident $(Lean.mkIdent `s9):ident $(Lean.mkIdent `hA):ident))
variable {prog : Program} {w : World} {A : Around} {E : Value → Shared → Prop} {D : Dat} {Fs : List Fact} {R : List Res} {s : Shared} {Q : Value → Shared → Prop}
/-- what the walk of law asks of the numbers -/
structure LawOk (p s0 t : Int) (M Rw NU OT : List Int) : Prop where
  lM : M.length = 2
  lR : Rw.length = 2
  lN : NU.length = 2
  lO : OT.length = 2
  rN : InR p NU
  rO : InR p OT
  rM : InR p M
  rR : InR p Rw
  add : nameL (plnZip (· + ·) p NU OT) s0 t p = plnZip (· + ·) p (nameL NU s0 t p) (nameL OT s0 t p)
  sub : nameL (plnZip (· - ·) p NU OT) s0 t p = plnZip (· - ·) p (nameL NU s0 t p) (nameL OT s0 t p)
  mul : nameL (plnMul p NU OT M) s0 t p = optMul p (nameL NU s0 t p) (nameL OT s0 t p) Rw
  pow : ∀ n, nameL (plnPow p M n NU) s0 t p = optPow p Rw n (nameL NU s0 t p)
  inv : ∃ k0 lmF xF k1 lmG xG, ivGo p (M.length + 1) k0 ([1] ++ List.replicate M.length 0) (OT.map (fun n => (n, true)) ++ [(0, false)]) (List.replicate (M.length + 1) 0) (M.map (fun n => (n, false)) ++ [(1, false)]) = some (lmF, xF) ∧ lmF.length = M.length + 1 ∧
    jvGo p (Rw.length + 1) k1 ([1] ++ List.replicate Rw.length 0) (nameL OT s0 t p ++ [0]) (List.replicate (Rw.length + 1) 0) (Rw ++ [1]) = some (lmG, xG) ∧ lmG.length = Rw.length + 1 ∧
    nameL (plnDiv p ((lmF.take M.length).map fun k => k.fmod p) xF.1) s0 t p = plnDiv p ((lmG.take Rw.length).map fun k => k.fmod p) xG ∧
    nameL (plnMul p NU (plnDiv p ((lmF.take M.length).map fun k => k.fmod p) xF.1) M) s0 t p = optMul p (nameL NU s0 t p) (plnDiv p ((lmG.take Rw.length).map fun k => k.fmod p) xG) Rw
  one : ∀ a, a.length = 2 → InR p a → decide (a = plnOne p M.length) = decide (nameL a s0 t p = plnOne p Rw.length)
  zero : ∀ a, a.length = 2 → InR p a → decide (a = plnZero p M.length) = decide (nameL a s0 t p = plnZero p Rw.length)
theorem nameL_in {p : Int} (h0 : 0 < p) (ns : List Int) (s0 t : Int) : InR p (nameL ns s0 t p) := fun x hx => by
  simp only [nameL, List.mem_cons, List.not_mem_nil, or_false] at hx
  rcases hx with rfl | rfl
  · exact fmod_in h0
  · exact fmod_in h0
theorem plnZip_in {p : Int} (h0 : 0 < p) (f : Int → Int → Int) (xs ys : List Int) : InR p (plnZip f p xs ys) := fun x hx => by
  unfold plnZip at hx
  rw [← List.map_uncurry_zip_eq_zipWith] at hx
  obtain ⟨a, _, rfl⟩ := List.mem_map.mp hx
  exact fmod_in h0
theorem plnPow_in {p : Int} (h0 : 0 < p) (ms : List Int) (n : Nat) : ∀ (xs : List Int), InR p xs → InR p (plnPow p ms n xs) := by
  induction n using Nat.strongRecOn with
  | ind n ih =>
    intro xs hx
    match n, ih with
    | 0, _ => rw [plnPow]; intro x h; obtain ⟨a, _, rfl⟩ := List.mem_map.mp h; exact fmod_in h0
    | 1, _ => rw [plnPow]; exact hx
    | k + 2, ih =>
      rw [plnPow]
      split
      · exact ih _ (by omega) _ (plnMul_in h0 _ _ _)
      · exact plnMul_in h0 _ _ _
section
variable {C : Addr} {p s0 t : Int} {M Rw : List Int}
theorem pairs_one {l T x y : Addr} {ns ks : List Int} (H : At D Fs (Lst l [.ref T] :: R) s) (h1 : TupF T [.ref x, .ref y] ∈ Fs) (h2 : PlnF 183 297 x p ns M ∈ Fs) (h3 : OptF C y p ks Rw ∈ Fs) (hl : ns.length = 2) (hr : InR p ns) (e : nameL ns s0 t p = ks) : ∃ vp, At D (ListF l vp :: PairsF C p s0 t M Rw vp :: Fs) R s := by
  have H1 := At.fzL H .head
  have H2 := H1.pairs0 (C := C) (p := p) (s0 := s0) (t := t) (M := M) (Rw := Rw)
  have H3 := H2.pairs1 (vs := []) mem_hd (.tail _ (.tail _ h1)) (.tail _ (.tail _ h2)) (.tail _ (.tail _ h3)) hl hr e
  exact ⟨_, H3.sub (subf_cons (.tail _ (.tail _ mem_hd)) (subf_cons mem_hd (by k_extra "m facts")))⟩
theorem pairs_three {l T x y T2 x2 y2 T3 x3 y3 : Addr} {ns ks ns2 ks2 ns3 ks3 : List Int} (H : At D Fs (Lst l [.ref T, .ref T2, .ref T3] :: R) s) (h1 : TupF T [.ref x, .ref y] ∈ Fs) (h2 : PlnF 183 297 x p ns M ∈ Fs) (h3 : OptF C y p ks Rw ∈ Fs) (hl : ns.length = 2) (hr : InR p ns) (e : nameL ns s0 t p = ks)
    (h1' : TupF T2 [.ref x2, .ref y2] ∈ Fs) (h2' : PlnF 183 297 x2 p ns2 M ∈ Fs) (h3' : OptF C y2 p ks2 Rw ∈ Fs) (hl' : ns2.length = 2) (hr' : InR p ns2) (e' : nameL ns2 s0 t p = ks2)
    (h1'' : TupF T3 [.ref x3, .ref y3] ∈ Fs) (h2'' : PlnF 183 297 x3 p ns3 M ∈ Fs) (h3'' : OptF C y3 p ks3 Rw ∈ Fs) (hl'' : ns3.length = 2) (hr'' : InR p ns3) (e'' : nameL ns3 s0 t p = ks3) : ∃ vp, At D (ListF l vp :: PairsF C p s0 t M Rw vp :: Fs) R s := by
  have H1 := At.fzL H .head
  have H2 := H1.pairs0 (C := C) (p := p) (s0 := s0) (t := t) (M := M) (Rw := Rw)
  have H3 := H2.pairs1 (vs := []) mem_hd (.tail _ (.tail _ h1'')) (.tail _ (.tail _ h2'')) (.tail _ (.tail _ h3'')) hl'' hr'' e''
  have H4 := H3.pairs1 (vs := [.ref T3]) mem_hd (.tail _ (.tail _ (.tail _ h1'))) (.tail _ (.tail _ (.tail _ h2'))) (.tail _ (.tail _ (.tail _ h3'))) hl' hr' e'
  have H5 := H4.pairs1 (vs := [.ref T2, .ref T3]) mem_hd (.tail _ (.tail _ (.tail _ (.tail _ h1)))) (.tail _ (.tail _ (.tail _ (.tail _ h2)))) (.tail _ (.tail _ (.tail _ (.tail _ h3)))) hl hr e
  exact ⟨_, H5.sub (subf_cons (.tail _ (.tail _ (.tail _ (.tail _ mem_hd)))) (subf_cons mem_hd (by k_extra "m facts")))⟩
theorem pairs_two {l T x y T2 x2 y2 : Addr} {ns ks ns2 ks2 : List Int} (H : At D Fs R s) (hm : ListF l [.ref T, .ref T2] ∈ Fs) (h1 : TupF T [.ref x, .ref y] ∈ Fs) (h2 : PlnF 183 297 x p ns M ∈ Fs) (h3 : OptF C y p ks Rw ∈ Fs) (hl : ns.length = 2) (hr : InR p ns) (e : nameL ns s0 t p = ks)
    (h1' : TupF T2 [.ref x2, .ref y2] ∈ Fs) (h2' : PlnF 183 297 x2 p ns2 M ∈ Fs) (h3' : OptF C y2 p ks2 Rw ∈ Fs) (hl' : ns2.length = 2) (hr' : InR p ns2) (e' : nameL ns2 s0 t p = ks2) : At D (PairsF C p s0 t M Rw [.ref T, .ref T2] :: Fs) R s := by
  have H2 := H.pairs0 (C := C) (p := p) (s0 := s0) (t := t) (M := M) (Rw := Rw)
  have H4 := H2.pairs1 (vs := []) mem_hd (.tail _ h1') (.tail _ h2') (.tail _ h3') hl' hr' e'
  have H5 := H4.pairs1 (vs := [.ref T2]) mem_hd (.tail _ (.tail _ h1)) (.tail _ (.tail _ h2)) (.tail _ (.tail _ h3)) hl hr e
  exact H5.sub (subf_cons mem_hd (by k_extra "m facts"))
end
set_option maxHeartbeats 4000000 in
set_option maxRecDepth 100000 in
theorem law_mid {name qual : Str} {params : Arguments} {body rest : List Stmt} {scope : Scope} {dV kV doc pm cdv ct oc : Value} {an od : Option Addr} {osl : Array (Option Value)} {L9 l C x y xq yq : Addr} {vs : List Value} {ns NU OT M Rw : List Int} {p s0 t : Int} {u1 u2 u3 : Tok}
    (ho : (hd.heap_39 w.params).lookup 493 = some ⟨oc, od, .func (fnOf name qual params body scope dV kV doc pm an cdv ct), osl⟩) (hr : body.drop 8 = rest)
    (W : Wd (hd.heap_39 w.params) D) (T : ∀ t ∈ WT, t ∈ D.tabs) (hK9 : Ok (A.deeper (envOf qual scope L9 493 cdv)) 100) (hq : QC C) (hn : 1 < p) (hn2 : p < 100) (hmt : ∀ a, IntMulOk a t) (hmb : ∀ a, IntMulOk a (nameB s0 p))
    (hL : LawOk p s0 t M Rw NU OT) (hm : ListF l vs ∈ Fs) (hi : IntsAre vs ns) (hz : vs.length < 2 ^ 20)
    (H : At D (PlnF 183 297 x p NU M :: OptF C xq p (nameL NU s0 t p) Rw :: PlnF 183 297 y p OT M :: OptF C yq p (nameL OT s0 t p) Rw :: Fs) (Vars L9 [("script", .ref l), ("p", .int p u1), ("s", .int s0 u2), ("t", .int t u3), ("one", .ref x), ("quick_one", .ref xq), ("other", .ref y), ("quick_other", .ref yq)] :: R) s)
    (h : ∀ s', At D Fs R s' → Q (.bool true) s') :
    wpAny (model prog w) (A.deeper (envOf qual scope L9 493 cdv)) (execs rest (envOf qual scope L9 493 cdv)) (fun fl s' => Q (match fl with | .ret v => v | _ => .none) s') (fun _ _ => False) s := by
  subst hr
  refine' use_body (P := fun b sc q c => Ok (A.deeper (envOf q sc L9 493 c)) 100 → wpAny (model prog w) (A.deeper (envOf q sc L9 493 c)) (execs (b.drop 8) (envOf q sc L9 493 c)) (fun fl s' => Q (match fl with | .ret v => v | _ => .none) s') (fun _ _ => False) s) ?h1 ho ?_ hK9
  case h1 => k_is
  clear hK9 ho
  intro hK9
  dsimp only [List.drop]
  w_top off
  obtain ⟨lM, lR, lN, lO, rN, rO, rM, rR, eadd, esub, emul, epow, ⟨k0, lmF, xF, k1, lmG, xG, hgo, hlF, hgo2, hlG, einv, ediv⟩, hone, hzero⟩ := hL
  obtain ⟨mk, hC, hMk, hC2, hC3, hDv, hMl⟩ := qOC hq w.params
  obtain ⟨g1, g2, g3, g4, g5, f1, f2, f3, f4, f5, dct, m1, m2, m3, m4, c1, c2, c3, i1, i2⟩ := id hC
  obtain ⟨p1, p2, p3, p4, p5, p6⟩ := id hC3
  have hp : p ≠ 0 := by omega
  have hp0 : 0 < p := by omega
  have hp1 : p < 2 ^ 60 := by omega
  have hn20 : p < 2 ^ 20 := by omega
  have bN := rN.bd hp1
  have bO := rO.bd hp1
  have bM := rM.bd hp1
  have bR := rR.bd hp1
  have bKN := (nameL_in hp0 NU s0 t).bd hp1
  have bKO := (nameL_in hp0 OT s0 t).bd hp1
  have lKN := nameL_length NU s0 t p
  have lKO := nameL_length OT s0 t p
  have n30 : 0 ≤ (lawAt ns 9).fmod 30 ∧ (lawAt ns 9).fmod 30 < 30 := fmod_in (by decide)
  have w0 := fmod_in (x := lawAt ns 7) (p := 5) (by decide)
  generalize hKN : nameL NU s0 t p = KN at *
  generalize hKO : nameL OT s0 t p = KO at *
  have hA := H
  clear H
  iterate 17 walk1
  generalize hw : (lawAt ns 7).fmod 5 = way at *
  refine wpAny_mono (Q := fun fl s' => Hold (fl = .next ∧ ∃ lp vp, At D (ListF lp vp :: PairsF C p s0 t M Rw vp :: Fs) (Vars L9 [("p", .int p u1), ("s", .int s0 u2), ("t", .int t u3), ("pairs", .ref lp)] :: R) s')) ?ifa ?ifb (fun _ _ e => e)
  case ifb =>
    clear hA
    rintro _ s ⟨rfl, lp, vp, hA⟩
    dsimp only
    refine' law_tail ?ho ?hr W hK9 hq hn hn2 hmt hmb hA h
    case ho => k_is
    case hr => exact rfl
  case ifa =>
    clear h
    k_extra "wk"
    · obtain ⟨vp, H1⟩ := pairs_one (s0 := s0) (t := t) hA (by k_extra "m mem") (by k_extra "m mem") (by k_extra "m mem") (by simp [plnDiv]; omega) (plnDiv_in hp0 _ _) einv
      exact ⟨rfl, _, _, H1.to' (by k_extra "m sub") (by k_extra "m facts")⟩
    · obtain ⟨vp, H1⟩ := pairs_one (s0 := s0) (t := t) hA (by k_extra "m mem") (by k_extra "m mem") (by k_extra "m mem") ((plnMul_length _ _ _ _ (by omega)).trans lM) (plnMul_in hp0 _ _ _) ediv
      exact ⟨rfl, _, _, H1.to' (by k_extra "m sub") (by k_extra "m facts")⟩
    · obtain ⟨vp, H1⟩ := pairs_three (s0 := s0) (t := t) hA (by k_extra "m mem") (by k_extra "m mem") (by k_extra "m mem") ((plnMul_length _ _ _ _ (by omega)).trans lM) (plnMul_in hp0 _ _ _) emul (by k_extra "m mem") (by k_extra "m mem") (by k_extra "m mem") ((plnZip_length _ _ _ _).trans (by omega)) (plnZip_in hp0 _ _ _) eadd
        (by k_extra "m mem") (by k_extra "m mem") (by k_extra "m mem") ((plnZip_length _ _ _ _).trans (by omega)) (plnZip_in hp0 _ _ _) esub
      exact ⟨rfl, _, _, H1.to' (by k_extra "m sub") (by k_extra "m facts")⟩
    · obtain ⟨vp, H1⟩ := pairs_one (s0 := s0) (t := t) hA (by k_extra "m mem") (by k_extra "m mem") (by k_extra "m mem") ((plnPow_length _ _ (by omega) _ _ (lN.trans lM.symm)).trans lM) (plnPow_in hp0 _ _ _ rN) (epow _)
      exact ⟨rfl, _, _, H1.to' (by k_extra "m sub") (by k_extra "m facts")⟩
    · have H1 := pairs_two (s0 := s0) (t := t) (C := C) (p := p) (M := M) (Rw := Rw) (ns := NU) (ns2 := OT) (ks := KN) (ks2 := KO) hA (by k_extra "m mem") (by k_extra "m mem") (by k_extra "m mem") (by k_extra "m mem") lN rN hKN (by k_extra "m mem") (by k_extra "m mem") (by k_extra "m mem") lO rO hKO
      clear hA
      have hA := H1
      clear H1
      generalize hvp : [Value.ref _, Value.ref _] = vp at hA hN9
      refine r_for (fun i s => At D (PairsF C p s0 t M Rw vp :: ListF l9 vp :: Fs) (LItR I9 l9 i :: Vars L9 [("p", .int p u1), ("s", .int s0 u2), ("t", .int t u3), ("pairs", .ref l9)] :: R) s)
        (hN9 true D.ng) ⟨_, _, _, rfl⟩ hK9.handled (hA.to' (by k_extra "m sub") (by k_extra "m facts")) ?_ ?_
      · clear hA
        rintro i s hi' H
        refine ⟨_, _, _, H, .tail _ (.head _), .head, ?_⟩
        rintro v F s ⟨hv, rfl⟩ H0
        clear H
        obtain ⟨T1, x1, y1, ks, rfl, hl, hr, hA⟩ := H0.pair (vs := vp) (by k_extra "m mem") hv
        clear H0
        have e1 := hone ks hl hr
        have e2 := hzero ks hl hr
        have hl2 := nameL_length ks s0 t p
        have hoM : (plnOne p M.length).length = M.length := by simp [plnOne]; omega
        have hoR : (plnOne p Rw.length).length = Rw.length := by simp [plnOne]; omega
        have hzM : (plnZero p M.length).length = M.length := by simp [plnZero]
        have hzR : (plnZero p Rw.length).length = Rw.length := by simp [plnZero]
        generalize nameL ks s0 t p = KK at *
        clear hone hzero
        k_extra "wk"
        · rename_i q
          rw [e1] at q
          simp at q
        · rename_i q
          rw [e2] at q
          simp at q
        · exact ⟨hA.to' (by k_extra "m sub") (by k_extra "m facts")⟩
      · clear hA
        rintro s H
        refine ⟨_, _, _, H, .tail _ (.head _), .head, fun s hA => ?_⟩
        clear H
        show wpAny _ _ _ _ _ _
        k_extra "wk"
        exact ⟨rfl, _, _, hA.to' (by k_extra "m sub") (by k_extra "m facts")⟩
end
end
section
local macro_rules | `(tactic| walk_at "call ref") => `(tactic| ((with_reducible rename At _ _ _ _ => $(Lean.mkIdent `hA):ident); refine r_use ?_; refine' s_law_at ?W ?hk $(Lean.mkIdent `hA):ident ?hm ?hi ?hz ?kk ?_; (case W => assumption); (case hk => k_extra "m ok"); (case hm => k_extra "m mem"); (case hi => assumption); (case hz => k_extra "m lens"); (case kk => decide); clear $(Lean.mkIdent `hA):ident; intro $(Lean.mkIdent `t9):ident $(Lean.mkIdent `s9):ident $(Lean.mkIdent `hA):ident))
local macro_rules | `(tactic| walk_at "getAttr ref") => `(tactic| ((with_reducible rename At _ _ _ _ => $(Lean.mkIdent `hA):ident); refine' r_eoc ?W $(Lean.mkIdent `hA):ident ?hm ?he ?_; (case W => assumption); (case he => exact rfl); (case hm => k_extra "m mem"); clear $(Lean.mkIdent `hA):ident; intro $(Lean.mkIdent `y9):ident $(Lean.mkIdent `v9):ident $(Lean.mkIdent `s9):ident $(Lean.mkIdent `hi9):ident $(Lean.mkIdent `hA):ident))
local macro_rules | `(tactic| walk_at "call builtin:pow") => `(tactic| ((with_reducible rename At _ _ _ _ => $(Lean.mkIdent `hA):ident); refine r_pow3 $(Lean.mkIdent `hA):ident (by omega) (by omega) ?_; clear $(Lean.mkIdent `hA):ident; intro $(Lean.mkIdent `t9):ident $(Lean.mkIdent `s9):ident $(Lean.mkIdent `hA):ident))
local macro_rules | `(tactic| walk_at "call ref") => `(tactic| ((with_reducible rename At _ _ _ _ => $(Lean.mkIdent `hA):ident); refine r_use ?_; refine' s_law_told ?W ?hk $(Lean.mkIdent `hA):ident ?hm ?hz ?_; (case W => assumption); (case hk => k_extra "m ok"); (case hm => k_extra "m mem"); (case hz => k_extra "m lens"); clear $(Lean.mkIdent `hA):ident; intro $(Lean.mkIdent `l9):ident $(Lean.mkIdent `v9):ident $(Lean.mkIdent `s9):ident $(Lean.mkIdent `hi9):ident $(Lean.mkIdent `hA):ident))
local macro_rules | `(tactic| walk_at "call ref") => `(tactic| ((with_reducible rename At _ _ _ _ => $(Lean.mkIdent `hA):ident); refine r_use ?_; refine' s_law_named ?W ?hk $(Lean.mkIdent `hA):ident ?hm ?hi ?h2 ?hn ?hmt ?hmb ?_; (case W => assumption); (case hk => k_extra "m ok"); (case hm => k_extra "m mem"); (case hi => k_extra "m ints"); (case h2 => k_extra "m lens"); (case hn => assumption); (case hmt => assumption); (case hmb => assumption); clear $(Lean.mkIdent `hA):ident; intro $(Lean.mkIdent `l9):ident $(Lean.mkIdent `v9):ident $(Lean.mkIdent `s9):ident $(Lean.mkIdent `hi9):ident $(Lean.mkIdent `hA):ident))
local macro_rules | `(tactic| walk_at "call ref") => `(tactic| ((with_reducible rename At _ _ _ _ => $(Lean.mkIdent `hA):ident); refine r_use ?_; refine' s_P ?W ?T ?hk $(Lean.mkIdent `hA):ident ?hp ?h1 ?h2 ?h3 ?h4 ?h5 ?h6  ?_; (case W => assumption); (case T => assumption); (case hk => k_extra "m ok"); (case hp => assumption); (case h2 => k_extra "m mem"); (case h1 => k_extra "m seq"); (case h3 => k_extra "m seq"); (case h4 => k_extra "m ints"); (case h5 => k_extra "m lens"); (case h6 => k_extra "m lens");  clear $(Lean.mkIdent `hA):ident; intro $(Lean.mkIdent `x9):ident $(Lean.mkIdent `s9):ident $(Lean.mkIdent `hA):ident))
local macro_rules | `(tactic| walk_at "call ref") => `(tactic| ((with_reducible rename At _ _ _ _ => $(Lean.mkIdent `hA):ident); refine r_use ?_; refine' s_O ?W ?T ?hk $(Lean.mkIdent `hA):ident ?hp ?h1 ?h2 ?h3 ?h4 ?h5 ?h6 ?h8 ?_; (case W => assumption); (case T => assumption); (case hk => k_extra "m ok"); (case hp => assumption); (case h1 => k_extra "m mem"); (case h2 => k_extra "m ints"); (case h3 => k_extra "m seq"); (case h4 => k_extra "m ints"); (case h5 => k_extra "m lens"); (case h6 => k_extra "m lens"); (case h8 => k_extra "m lens"); clear $(Lean.mkIdent `hA):ident; intro $(Lean.mkIdent `x9):ident $(Lean.mkIdent `s9):ident $(Lean.mkIdent `hA):ident))
local macro_rules | `(tactic| walk_at "call ref") => `(tactic| ((with_reducible rename At _ _ _ _ => $(Lean.mkIdent `hA):ident); refine r_use ?_; refine' s_F ?W ?T ?hk $(Lean.mkIdent `hA):ident ?hp ?h1 ?h2 ?h3 ?h4 ?h5 ?h6 ?h8 ?_; (case W => assumption); (case T => assumption); (case hk => k_extra "m ok"); (case hp => assumption); (case h1 => k_extra "m mem"); (case h2 => k_extra "m ints"); (case h3 => k_extra "m seq"); (case h4 => k_extra "m ints"); (case h5 => k_extra "m lens"); (case h6 => k_extra "m lens"); (case h8 => k_extra "m lens"); clear $(Lean.mkIdent `hA):ident; intro $(Lean.mkIdent `x9):ident $(Lean.mkIdent `s9):ident $(Lean.mkIdent `hA):ident))
local macro_rules | `(tactic| walk_at "compareOp Eq ref ref") => `(tactic| ((with_reducible rename At _ _ _ _ => $(Lean.mkIdent `hA):ident); refine' r_eqL (Ok.u99 $(Lean.mkIdent `hK9):ident) $(Lean.mkIdent `hA):ident ?h1 ?h2 ?i1 ?i2 ?hl ?_; (case h1 => k_extra "m pl"); (case h2 => k_extra "m pl"); (case i1 => k_extra "m ints"); (case i2 => k_extra "m ints"); (case hl => k_extra "m lenI")))
local macro_rules | `(tactic| walk_at "compareOp NotEq ref ref") => `(tactic| ((with_reducible rename At _ _ _ _ => $(Lean.mkIdent `hA):ident); refine' r_neL (Ok.u99 $(Lean.mkIdent `hK9):ident) $(Lean.mkIdent `hA):ident ?h1 ?h2 ?i1 ?i2 ?hl ?_; (case h1 => k_extra "m pl"); (case h2 => k_extra "m pl"); (case i1 => k_extra "m ints"); (case i2 => k_extra "m ints"); (case hl => k_extra "m lenI")))
local macro_rules | `(tactic| walk_at "call ref") => `(tactic| ((with_reducible rename At _ _ _ _ => $(Lean.mkIdent `hA):ident); refine r_use ?_; refine' told_P ?W ?hk $(Lean.mkIdent `hA):ident ?hm ?hz ?_; (case W => assumption); (case hk => k_extra "m ok"); (case hm => k_extra "m mem"); (case hz => k_extra "m lens"); clear $(Lean.mkIdent `hA):ident; intro $(Lean.mkIdent `l9):ident $(Lean.mkIdent `v9):ident $(Lean.mkIdent `s9):ident $(Lean.mkIdent `hi9):ident $(Lean.mkIdent `hA):ident))
local macro_rules | `(tactic| walk_at "call ref") => `(tactic| ((with_reducible rename At _ _ _ _ => $(Lean.mkIdent `hA):ident); refine r_use ?_; refine' told_Q ?hq ?W ?hk $(Lean.mkIdent `hA):ident ?hm ?hz ?_; (case W => assumption); (case hk => k_extra "m ok"); (case hm => k_extra "m mem"); (case hq => assumption); (case hz => k_extra "m lens"); clear $(Lean.mkIdent `hA):ident; intro $(Lean.mkIdent `l9):ident $(Lean.mkIdent `v9):ident $(Lean.mkIdent `s9):ident $(Lean.mkIdent `hi9):ident $(Lean.mkIdent `hA):ident))
variable {prog : Program} {w : World} {A : Around} {E : Value → Shared → Prop} {D : Dat} {Fs : List Fact} {R : List Res} {s : Shared} {Q : Value → Shared → Prop}
theorem map_in {p : Int} {l : List Int} (h : InR p l) : (l.map fun k => k.fmod p) = l := by
  induction l with
  | nil => rfl
  | cons a l ih =>
    have ha := h a (.head _)
    rw [List.map_cons, ih fun x hx => h x (.tail _ hx), Int.fmod_eq_emod_of_nonneg _ (by omega), Int.emod_eq_of_lt ha.1 ha.2]
def clsQ (q : Bool) : Addr := if q then 451 else 422
theorem qcQ (q : Bool) : QC (clsQ q) := by cases q; exact .inl rfl; exact .inr rfl
theorem eltQ (q : Bool) (y : Addr) (p : Int) (ns ms : List Int) : EltF (kqOf q) y p ns ms = OptF (clsQ q) y p ns ms := by cases q <;> rfl
theorem law_pairs2 {T0 l : Addr} {vs : List Value} {ns : List Int} {s0 t p low high : Int} {t1 t2 t3 t4 t5 : Tok} {q : Bool} (W : Wd (hd.heap_39 w.params) D) (T : ∀ t ∈ WT, t ∈ D.tabs) (hk : Ok A 30) (H : At D Fs R s) (hT : TupF T0 [.int p t3, .int low t4, .int high t5] ∈ Fs) (hm : ListF l vs ∈ Fs) (hi : IntsAre vs ns) (h2 : ns.length = 2) (hin : InR p ns) (hn : 1 < p) (hn2 : p < 100)
    (hlo : 0 ≤ low ∧ low < 100) (hhi : 0 ≤ high ∧ high < 100) (hs : 0 ≤ s0 ∧ s0 < 100) (ht : 0 ≤ t ∧ t < 100) (hmb : ∀ a, IntMulOk a (nameB s0 p))
    (h : ∀ T1 x y s', At D (TupF T1 [.ref x, .ref y] :: PlnF 183 297 x p ns [low, high] :: OptF (clsQ q) y p (nameL ns s0 t p) (rowsQ low high s0 t p) :: Fs) R s' → Q (.ref T1) s') : codeAny (model prog w) A (.call (.ref 486) ⟨[.ref T0, .int s0 t1, .int t t2, .ref l, .bool q], []⟩) (Ret Q) s := by
  refine s_law_pairs W T hk H hT hm hi h2 hn hn2 hlo hhi hs ht hmb fun T1 x y s' H' => h T1 x y s' ?_
  rw [eltQ, map_in hin, map_in (nameL_in (by omega) _ _ _)] at H'
  exact H'
local macro_rules | `(tactic| walk_at "call ref") => `(tactic| ((with_reducible rename At _ _ _ _ => $(Lean.mkIdent `hA):ident); refine r_use ?_; refine' law_pairs2 ?W ?T ?hk $(Lean.mkIdent `hA):ident ?hT ?hm ?hi ?h2 ?hin ?hn ?hn2 ?hlo ?hhi ?hs ?ht ?hmb ?_; (case W => assumption); (case T => assumption); (case hk => k_extra "m ok"); (case hT => k_extra "m mem"); (case hm => k_extra "m mem"); (case hi => k_extra "m ints"); (case h2 => assumption); (case hin => assumption); (case hn => assumption); (case hn2 => assumption); (case hlo => assumption); (case hhi => assumption); (case hs => assumption); (case ht => assumption); (case hmb => assumption); clear $(Lean.mkIdent `hA):ident; intro $(Lean.mkIdent `l9):ident $(Lean.mkIdent `x9):ident $(Lean.mkIdent `y9):ident $(Lean.mkIdent `s9):ident $(Lean.mkIdent `hA):ident))
local macro_rules | `(tactic| walk_at "call ref") => `(tactic| ((with_reducible rename At _ _ _ _ => $(Lean.mkIdent `hA):ident); refine r_use ?_; refine' s_law_fields ?W ?hk $(Lean.mkIdent `hA):ident ?_; (case W => assumption); (case hk => k_extra "m ok"); clear $(Lean.mkIdent `hA):ident; intro $(Lean.mkIdent `l9):ident $(Lean.mkIdent `v9):ident $(Lean.mkIdent `s9):ident $(Lean.mkIdent `hA):ident))
theorem r_itemFld {value slice : Expr} {l : Addr} {vs : List Value} {fs : List (Int × Int × Int)} {k : Int} {u : Tok} (H : At D Fs R s) (hm : ListF l vs ∈ Fs) (hq : FldF vs fs ∈ Fs) (h0 : 0 ≤ k) (h1 : k < fs.length) (h2 : k < 2 ^ 60) (h : ∀ T p low high t1 t2 t3, (p, low, high) ∈ fs → At D (TupF T [.int p t1, .int low t2, .int high t3] :: Fs) R s → Q (.ref T) s)
    (hs : subscripted slice false (.ref l) (.int k u) = operate [.ref l, .int k u] (getItem (.ref l) (.int k u))) : wpAny (model prog w) A (subscriptTail value slice (.ref l) (.int k u)) Q E s := by
  have q := (H.facts _ hq : FldH vs fs _)
  have hl := q.1
  have c : k.toNat < vs.length := by omega
  have c2 : k.toNat < fs.length := by omega
  obtain ⟨T, t1, t2, t3, e, x⟩ := q.2 k.toNat vs[k.toNat] fs[k.toNat] (by simp [c]) (by simp [c2])
  exact r_itemL H hm h0 h2 (by simp [c, e]) (h T _ _ _ t1 t2 t3 (List.getElem_mem c2) (H.add1 x)) hs
local macro_rules | `(tactic| walk_at "subscriptTail") => `(tactic| ((with_reducible rename At _ _ _ _ => $(Lean.mkIdent `hA):ident); (with_reducible show wpAny _ _ (subscriptTail _ _ (Value.ref _) (Value.int _ _)) _ _ _); refine' r_itemFld $(Lean.mkIdent `hA):ident ?h1 ?h2 ?h3 ?h4 ?h5 ?_ ?h6; (case h1 => k_extra "m mem"); (case h2 => k_extra "m mem"); (case h3 => omega); (case h4 => (show _ < ((8 : Nat) : Int); omega)); (case h5 => omega); (case h6 => exact rfl); clear $(Lean.mkIdent `hA):ident; intro T9 p9 low9 high9 u91 u92 u93 hf9 $(Lean.mkIdent `hA):ident))
local macro_rules | `(tactic| walk_at "subscriptTail") => `(tactic| ((with_reducible rename At _ _ _ _ => $(Lean.mkIdent `hA):ident); (with_reducible show wpAny _ _ (subscriptTail _ _ (Value.ref _) (Value.int _ _)) _ _ _); refine r_itemT $(Lean.mkIdent `hA):ident (by k_extra "m mem") (by k_extra "m size") (by k_extra "m size") (by exact rfl) ?_ rfl))
theorem fields_bd {p low high : Int} (h : (p, low, high) ∈ lawFields) : 3 ≤ p ∧ p < 100 ∧ 0 ≤ low ∧ low < p ∧ 0 ≤ high ∧ high < p := by
  simp only [lawFields, List.mem_cons, Prod.mk.injEq, List.not_mem_nil, or_false] at h
  omega
set_option maxHeartbeats 4000000 in
set_option maxRecDepth 100000 in
theorem s_law {l : Addr} {vs : List Value} {ns : List Int} (W : Wd (hd.heap_39 w.params) D) (T : ∀ t ∈ WT, t ∈ D.tabs) (hk : Ok A 120) (H : At D Fs R s) (hm : ListF l vs ∈ Fs) (hi : IntsAre vs ns) (hz : vs.length < 2 ^ 20)
    (LK : ∀ p low high s0 t NU OT, (p, low, high) ∈ lawFields → 1 ≤ s0 → s0 < p → 0 ≤ t → t < p → NU.length = 2 → OT.length = 2 → InR p NU → InR p OT → OT ≠ [0, 0] → LawOk p s0 t [low, high] (rowsQ low high s0 t p) NU OT)
    (hB : ∀ p low high s0 : Int, (p, low, high) ∈ lawFields → 1 ≤ s0 → s0 < p → ∀ a, IntMulOk a (nameB s0 p))
    (h : ∀ s', At D Fs R s' → Q (.bool true) s') : codeAny (model prog w) A (.call (.ref 493) ⟨[.ref l], []⟩) (Ret Q) s := by
  refine' v_call [("script", .ref l)] ?W H hk ?ho ?hcd ?hb ?hl ?hm ?_ ?c1 ?c2 ?c3 ?c4
  k_extra "m enter"
  clear H
  have f0 := fmod_in (x := lawAt ns 0) (p := 8) (by decide)
  iterate 20 walk1
  generalize (lawAt ns 0).fmod 8 = kf at *
  iterate 1 walk1
  rename_i T0 p low high u1 u2 u3 hf
  obtain ⟨p3, p100, lo0, lo1, hi0, hi1⟩ := fields_bd hf
  iterate 6 walk1
  refine r_itemT hA (by k_extra "m mem") (by decide) (by decide) (show _ = some (Value.int p u1) from rfl) ?_ rfl
  have hp1n : p - 1 ≠ 0 := by omega
  have a1 := fmod_in (x := lawAt ns 1) (p := p - 1) (by omega)
  have a2 := fmod_in (x := lawAt ns 2) (p := p) (by omega)
  have a3 := fmod_in (x := lawAt ns 3) (p := p) (by omega)
  have a4 := fmod_in (x := lawAt ns 4) (p := p) (by omega)
  have a5 := fmod_in (x := lawAt ns 5) (p := p) (by omega)
  have a6 := fmod_in (x := lawAt ns 6) (p := p) (by omega)
  iterate 145 walk1
  generalize (lawAt ns 3).fmod p = n3 at *
  generalize (lawAt ns 4).fmod p = n4 at *
  generalize (lawAt ns 5).fmod p = n5 at *
  generalize (lawAt ns 6).fmod p = n6 at *
  generalize (lawAt ns 2).fmod p = t0 at *
  generalize hs0 : 1 + (lawAt ns 1).fmod (p - 1) = s0 at *
  generalize ((lawAt ns 8).fmod 2 == 0) = q at *
  have s1 : 1 ≤ s0 := by omega
  have s2 : s0 < p := by omega
  clear hs0 a1
  obtain ⟨lo, ln, vo, vn, k1, k2, q1, q2, hA⟩ : ∃ lo ln vo vn k1 k2, IntsAre vo [n5, n6] ∧ IntsAre vn [n3, n4] ∧ At D (TupF T0 [.int p u1, .int low u2, .int high u3] :: ListF ln vn :: Fs) (Lst lo vo :: Vars L9 [("script", .ref l), ("field", .ref T0), ("p", .int p u1), ("t", .int t0 k1), ("s", .int s0 k2), ("quick", .bool q), ("others", .ref lo), ("numbers", .ref ln)] :: R) s9 := by
    have H1 := At.fzL hA (.tail .head)
    exact ⟨_, _, _, _, _, _, .cons _ _ (.cons _ _ .nil), .cons _ _ (.cons _ _ .nil), H1.to' (by k_extra "m sub") (by k_extra "m facts")⟩
  refine wpAny_mono (Q := fun fl s' => Hold (fl = .next ∧ ∃ OT vo, OT.length = 2 ∧ InR p OT ∧ OT ≠ [0, 0] ∧ IntsAre vo OT ∧ At D (TupF T0 [.int p u1, .int low u2, .int high u3] :: ListF ln vn :: Fs) (Lst lo vo :: Vars L9 [("script", .ref l), ("field", .ref T0), ("p", .int p u1), ("t", .int t0 k1), ("s", .int s0 k2), ("quick", .bool q), ("others", .ref lo), ("numbers", .ref ln)] :: R) s')) ?ifa ?ifb (fun _ _ e => e)
  case ifa =>
    clear h LK
    have l5 := q1.length
    have l6 : vo.length = 2 := l5
    k_extra "wk"
    · exact ⟨rfl, _, _, by simp, fun x hx => by simp at hx; omega, by simp, ints_set q1 0 1 _, hA.to' (Sub.drop (Sub.refl _)) (by k_extra "m facts")⟩
    · rename_i ne
      exact ⟨rfl, _, _, by simp, fun x hx => by simp at hx; omega, ne, q1, hA.to' (by k_extra "m sub") (by k_extra "m facts")⟩
  case ifb =>
    clear hA
    rintro _ s ⟨rfl, OT, wo, lO, rO, nO, q3, hA0⟩
    dsimp only
    have hA := At.fzL hA0 (l := lo) (by k_extra "m rm")
    clear hA0
    have lN : [n3, n4].length = 2 := rfl
    have rN : InR p [n3, n4] := fun x hx => by simp at hx; omega
    have hb := hB p low high s0 hf s1 s2
    have hn1 : 1 < p := by omega
    have hlo : 0 ≤ low ∧ low < 100 := by omega
    have hhi : 0 ≤ high ∧ high < 100 := by omega
    have hs : 0 ≤ s0 ∧ s0 < 100 := by omega
    have ht : 0 ≤ t0 ∧ t0 < 100 := by omega
    have hL := LK p low high s0 t0 [n3, n4] OT hf s1 s2 a2.1 a2.2 lN lO rN rO nO
    have hmt : ∀ a, IntMulOk a t0 := fun a => mulOk_right ⟨by omega, by omega⟩
    generalize [n3, n4] = NU at *
    iterate 1 walk1
    refine wpAny_mono (Q := fun fl s' => Hold (fl = .next ∧ ∃ x xq, At D (PlnF 183 297 x p NU [low, high] :: OptF (clsQ q) xq p (nameL NU s0 t0 p) (rowsQ low high s0 t0 p) :: ListF lo wo :: TupF T0 [.int p u1, .int low u2, .int high u3] :: Fs) (Vars L9 [("script", .ref l), ("field", .ref T0), ("p", .int p u1), ("t", .int t0 k1), ("s", .int s0 k2), ("quick", .bool q), ("others", .ref lo), ("one", .ref x), ("quick_one", .ref xq)] :: R) s')) ?iga ?igb (fun _ _ e => e)
    case iga =>
      clear h LK hL
      k_extra "wk"
      exact ⟨trivial, _, _, hA.to' (by k_extra "m sub") (by k_extra "m facts")⟩
    case igb =>
    clear hA
    rintro _ s ⟨rfl, x, xq, hA⟩
    dsimp only
    iterate 1 walk1
    refine wpAny_mono (Q := fun fl s' => Hold (fl = .next ∧ ∃ y yq, At D (PlnF 183 297 x p NU [low, high] :: OptF (clsQ q) xq p (nameL NU s0 t0 p) (rowsQ low high s0 t0 p) :: PlnF 183 297 y p OT [low, high] :: OptF (clsQ q) yq p (nameL OT s0 t0 p) (rowsQ low high s0 t0 p) :: Fs) (Vars L9 [("script", .ref l), ("p", .int p u1), ("s", .int s0 k2), ("t", .int t0 k1), ("one", .ref x), ("quick_one", .ref xq), ("other", .ref y), ("quick_other", .ref yq)] :: R) s')) ?iha ?ihb (fun _ _ e => e)
    case iha =>
      clear h LK hL
      k_extra "wk"
      exact ⟨trivial, _, _, hA.to' (by k_extra "m sub") (by k_extra "m facts")⟩
    case ihb =>
    clear hA
    rintro _ s ⟨rfl, y, yq, hA⟩
    dsimp only
    refine' law_mid ?ho ?hr W T (hK9.mono (by omega)) (qcQ q) hn1 p100 hmt hb hL hm hi hz hA h
    case ho => k_is
    case hr => exact rfl
end
end
end
end
section
/-- the residue -/
def fi (n : Nat) [NeZero n] (x : Int) : Fin n := Fin.ofNat n (x % (n : Int)).toNat
section
variable {n : Nat} [NeZero n]
theorem fi_val (x : Int) : (((fi n x).val : Nat) : Int) = x % (n : Int) := by
  have hn : 0 < n := Nat.pos_of_neZero n
  have h0 : 0 ≤ x % (n : Int) := Int.emod_nonneg _ (by omega)
  have h1 : x % (n : Int) < n := Int.emod_lt_of_pos _ (by omega)
  unfold fi
  simp only [Fin.ofNat]
  rw [Nat.mod_eq_of_lt (by omega)]
  omega
theorem fi_eq {x y : Int} : fi n x = fi n y ↔ x % (n : Int) = y % (n : Int) := by
  constructor
  · intro h; rw [← fi_val, ← fi_val, h]
  · intro h
    apply Fin.ext
    have := fi_val (n := n) x
    have := fi_val (n := n) y
    omega
theorem fi_add (x y : Int) : fi n (x + y) = fi n x + fi n y := by
  apply Fin.ext
  have h : ((((fi n x + fi n y).val : Nat)) : Int) = (x + y) % (n : Int) := by
    rw [Fin.val_add, Int.natCast_emod, Int.natCast_add, fi_val, fi_val, ← Int.add_emod]
  have := fi_val (n := n) (x + y)
  omega
theorem fi_mul (x y : Int) : fi n (x * y) = fi n x * fi n y := by
  apply Fin.ext
  have h : ((((fi n x * fi n y).val : Nat)) : Int) = (x * y) % (n : Int) := by
    rw [Fin.val_mul, Int.natCast_emod, Int.natCast_mul, fi_val, fi_val, ← Int.mul_emod]
  have := fi_val (n := n) (x * y)
  omega
theorem fi_zero : fi n 0 = 0 := by
  apply Fin.ext
  have := fi_val (n := n) 0
  simp at this
  rw [this]; try rfl
theorem fi_neg (x : Int) : fi n (-x) = -fi n x := by
  have h := fi_add (n := n) (-x) x
  rw [show -x + x = 0 by omega, fi_zero] at h
  grind
theorem fi_sub (x y : Int) : fi n (x - y) = fi n x - fi n y := by
  rw [Int.sub_eq_add_neg, fi_add, fi_neg, Fin.sub_eq_add_neg]
theorem fi_fmod (x : Int) : fi n (x.fmod (n : Int)) = fi n x := by
  rw [fi_eq, Int.fmod_eq_emod_of_nonneg _ (by omega), Int.emod_emod]
theorem fi_in {x y : Int} (h : fi n x = fi n y) (hx : 0 ≤ x ∧ x < n) (hy : 0 ≤ y ∧ y < n) : x = y := by
  have := fi_eq.mp h
  rwa [Int.emod_eq_of_lt hx.1 hx.2, Int.emod_eq_of_lt hy.1 hy.2] at this
theorem fi_one : fi n 1 = 1 := by
  apply Fin.ext
  have := fi_val (n := n) 1
  have h2 : (((1 : Fin n).val : Nat) : Int) = ((1 % n : Nat) : Int) := rfl
  rw [Int.natCast_emod] at h2
  have h3 : ((1 : Nat) : Int) = 1 := rfl
  rw [h3] at h2
  omega
end
end
section
section
variable {n : Nat} [NeZero n]
theorem fi_rr (x : Int) : fi n (rr (n : Int) x) = fi n x := by unfold rr; rw [fi_fmod, fi_fmod]
theorem plnMul2 (p a0 a1 b0 b1 m0 m1 : Int) : plnMul p [a0, a1] [b0, b1] [m0, m1] =
    [rr p (rr p ((0 : Int).fmod p + rr p (a0 * b0)) - rr p (rr p ((0 : Int).fmod p + rr p (a1 * b1)) * m0.fmod p)),
     rr p (rr p (rr p ((0 : Int).fmod p + rr p (a0 * b1)) + rr p (a1 * b0)) - rr p (rr p ((0 : Int).fmod p + rr p (a1 * b1)) * m1.fmod p))] := rfl
theorem mul_pln (a0 a1 b0 b1 m0 m1 : Int) : ∃ e0 e1, plnMul (n : Int) [a0, a1] [b0, b1] [m0, m1] = [e0, e1] ∧ fi n e0 = fi n a0 * fi n b0 - fi n m0 * fi n a1 * fi n b1 ∧ fi n e1 = fi n a0 * fi n b1 + fi n a1 * fi n b0 - fi n m1 * fi n a1 * fi n b1 := by
  refine ⟨_, _, plnMul2 .., ?_, ?_⟩
  · simp only [fi_add, fi_sub, fi_mul, fi_fmod, fi_zero]
    grind
  · simp only [fi_add, fi_sub, fi_mul, fi_fmod, fi_zero]
    grind
theorem optMul2 (p a0 a1 b0 b1 m0 m1 : Int) : optMul p [a0, a1] [b0, b1] [m0, m1] =
    [rr p (0 + a0 * b0 - (if m0 = 0 then 0 else (0 + a1 * b1) * m0)), rr p (0 + a0 * b1 + a1 * b0 - (if m1 = 0 then 0 else (0 + a1 * b1) * m1))] := by
  have e : optMul p [a0, a1] [b0, b1] [m0, m1] = ((mcFrom 0 [m0, m1]).foldl (rdP 0 (0 + a1 * b1)) [0 + a0 * b0, 0 + a0 * b1 + a1 * b0]).map fun k => (k.fmod p).fmod p := rfl
  rw [e]
  by_cases c0 : m0 = 0 <;> by_cases c1 : m1 = 0
  · have h : mcFrom 0 [m0, m1] = [] := by simp [mcFrom, c0, c1]
    rw [h, if_pos c0, if_pos c1, Int.sub_zero, Int.sub_zero]; rfl
  · have h : mcFrom 0 [m0, m1] = [(1, m1)] := by simp [mcFrom, c0, c1]
    rw [h, if_pos c0, if_neg c1, Int.sub_zero]; rfl
  · have h : mcFrom 0 [m0, m1] = [(0, m0)] := by simp [mcFrom, c0, c1]
    rw [h, if_neg c0, if_pos c1, Int.sub_zero]; rfl
  · have h : mcFrom 0 [m0, m1] = [(0, m0), (1, m1)] := by simp [mcFrom, c0, c1]
    rw [h, if_neg c0, if_neg c1]; rfl
theorem fi_ite (m x : Int) : fi n (if m = 0 then 0 else x * m) = fi n x * fi n m := by
  by_cases c : m = 0
  · rw [if_pos c, c, fi_zero]; grind
  · rw [if_neg c, fi_mul]
theorem mul_opt (a0 a1 b0 b1 m0 m1 : Int) : ∃ e0 e1, optMul (n : Int) [a0, a1] [b0, b1] [m0, m1] = [e0, e1] ∧ fi n e0 = fi n a0 * fi n b0 - fi n m0 * fi n a1 * fi n b1 ∧ fi n e1 = fi n a0 * fi n b1 + fi n a1 * fi n b0 - fi n m1 * fi n a1 * fi n b1 := by
  refine ⟨_, _, optMul2 .., ?_, ?_⟩
  · simp only [fi_rr, fi_add, fi_sub, fi_mul, fi_ite, fi_zero]
    grind
  · simp only [fi_rr, fi_add, fi_sub, fi_mul, fi_ite, fi_zero]
    grind
/-- pairs of residues: the ring's product -/
abbrev Pr (n : Nat) := Fin n × Fin n
def mulF (q0 q1 : Fin n) (x y : Pr n) : Pr n := (x.1 * y.1 - q0 * x.2 * y.2, x.1 * y.2 + x.2 * y.1 - q1 * x.2 * y.2)
def oneF : Pr n := (1, 0)
def powF (q0 q1 : Fin n) (x : Pr n) : Nat → Pr n
  | 0 => oneF
  | k + 1 => mulF q0 q1 (powF q0 q1 x k) x
theorem mulF_comm (q0 q1 : Fin n) (x y : Pr n) : mulF q0 q1 x y = mulF q0 q1 y x := by unfold mulF; ext <;> simp <;> grind
theorem mulF_assoc (q0 q1 : Fin n) (x y z : Pr n) : mulF q0 q1 (mulF q0 q1 x y) z = mulF q0 q1 x (mulF q0 q1 y z) := by
  unfold mulF
  refine Prod.ext ?_ ?_
  · show _ * _ - _ * _ * _ = _; grind
  · show _ * _ + _ * _ - _ * _ * _ = _; grind
theorem mulF_one (q0 q1 : Fin n) (x : Pr n) : mulF q0 q1 x oneF = x := by
  unfold mulF oneF
  refine Prod.ext ?_ ?_
  · show _ * _ - _ * _ * _ = _; grind
  · show _ * _ + _ * _ - _ * _ * _ = _; grind
theorem powF_add (q0 q1 : Fin n) (x : Pr n) (a b : Nat) : powF q0 q1 x (a + b) = mulF q0 q1 (powF q0 q1 x a) (powF q0 q1 x b) := by
  induction b with
  | zero => exact (mulF_one ..).symm
  | succ b ih => show mulF q0 q1 (powF q0 q1 x (a + b)) x = _; rw [ih, mulF_assoc]; rfl
theorem powF_sq (q0 q1 : Fin n) (x : Pr n) (a : Nat) : powF q0 q1 (mulF q0 q1 x x) a = powF q0 q1 x (2 * a) := by
  induction a with
  | zero => rfl
  | succ a ih =>
    show mulF q0 q1 (powF q0 q1 (mulF q0 q1 x x) a) (mulF q0 q1 x x) = powF q0 q1 x (2 * a + 1 + 1)
    rw [ih, ← mulF_assoc]; rfl
end
end
section
section
variable {n : Nat} [NeZero n]
theorem len2 {l : List Int} (h : l.length = 2) : ∃ a b, l = [a, b] := by
  match l, h with
  | [a, b], _ => exact ⟨a, b, rfl⟩
def phi (n : Nat) [NeZero n] (l : List Int) : Pr n := (fi n (l.getD 0 0), fi n (l.getD 1 0))
theorem phi_ext {l m : List Int} (hl : l.length = 2) (hm : m.length = 2) (rl : InR (n : Int) l) (rm : InR (n : Int) m) (h : phi n l = phi n m) : l = m := by
  obtain ⟨a, b, rfl⟩ := len2 hl
  obtain ⟨c, d, rfl⟩ := len2 hm
  have h1 : fi n a = fi n c := congrArg Prod.fst h
  have h2 : fi n b = fi n d := congrArg Prod.snd h
  rw [fi_in h1 (rl a (.head _)) (rm c (.head _)), fi_in h2 (rl b (.tail _ (.head _))) (rm d (.tail _ (.head _)))]
def q0 (n : Nat) [NeZero n] (ms : List Int) : Fin n := fi n (ms.getD 0 0)
def q1 (n : Nat) [NeZero n] (ms : List Int) : Fin n := fi n (ms.getD 1 0)
theorem phi_pln {xs ys ms : List Int} (hx : xs.length = 2) (hy : ys.length = 2) (hm : ms.length = 2) : phi n (plnMul (n : Int) xs ys ms) = mulF (q0 n ms) (q1 n ms) (phi n xs) (phi n ys) := by
  obtain ⟨a0, a1, rfl⟩ := len2 hx
  obtain ⟨b0, b1, rfl⟩ := len2 hy
  obtain ⟨m0, m1, rfl⟩ := len2 hm
  obtain ⟨e0, e1, e, h0, h1⟩ := mul_pln (n := n) a0 a1 b0 b1 m0 m1
  rw [e]
  exact Prod.ext h0 h1
theorem phi_opt {xs ys ms : List Int} (hx : xs.length = 2) (hy : ys.length = 2) (hm : ms.length = 2) : phi n (optMul (n : Int) xs ys ms) = mulF (q0 n ms) (q1 n ms) (phi n xs) (phi n ys) := by
  obtain ⟨a0, a1, rfl⟩ := len2 hx
  obtain ⟨b0, b1, rfl⟩ := len2 hy
  obtain ⟨m0, m1, rfl⟩ := len2 hm
  obtain ⟨e0, e1, e, h0, h1⟩ := mul_opt (n := n) a0 a1 b0 b1 m0 m1
  rw [e]
  exact Prod.ext h0 h1
theorem phi_one : phi n (plnOne (n : Int) 2) = oneF := by
  show (fi n ((1 : Int).fmod n), fi n ((0 : Int).fmod n)) = _
  rw [fi_fmod, fi_fmod, fi_one, fi_zero]; rfl
theorem powF_one (a b : Fin n) (x : Pr n) : powF a b x 1 = x := by show mulF a b oneF x = x; rw [mulF_comm, mulF_one]
theorem plnPow_two (p : Int) (ms : List Int) (hm : ms.length = 2) (e : Nat) (xs : List Int) (hx : xs.length = 2) : (plnPow p ms e xs).length = 2 := (plnPow_length p ms (by omega) e xs (hx.trans hm.symm)).trans hm
theorem phi_plnPow {ms : List Int} (hm : ms.length = 2) (e : Nat) : ∀ (xs : List Int), xs.length = 2 → phi n (plnPow (n : Int) ms e xs) = powF (q0 n ms) (q1 n ms) (phi n xs) e := by
  induction e using Nat.strongRecOn with
  | ind e ih =>
    intro xs hx
    match e, ih with
    | 0, _ => rw [plnPow, hm]; exact phi_one
    | 1, _ => rw [plnPow, powF_one]
    | k + 2, ih =>
      have hl : (plnMul (n : Int) xs xs ms).length = 2 := (plnMul_length _ _ _ _ (by omega)).trans hm
      have h2 := ih ((k + 2) / 2) (by omega) _ hl
      rw [phi_pln hx hx hm, powF_sq] at h2
      rw [plnPow]
      split
      · rw [h2]; congr 1; omega
      · rw [phi_pln (plnPow_two _ _ hm _ _ hl) hx hm, h2]
        show powF _ _ _ (2 * ((k + 2) / 2) + 1) = _
        congr 1; omega
theorem optMul_two (p : Int) (xs ys ms : List Int) (hm : ms.length = 2) : (optMul p xs ys ms).length = 2 := (optMul_length p xs ys ms (by omega)).trans hm
theorem phi_powW {ms : List Int} (hm : ms.length = 2) (e : Nat) : ∀ (o t : List Int), o.length = 2 → t.length = 2 → phi n (powW (n : Int) ms e o t) = mulF (q0 n ms) (q1 n ms) (phi n o) (powF (q0 n ms) (q1 n ms) (phi n t) e) := by
  induction e using Nat.strongRecOn with
  | ind e ih =>
    intro o t ho ht
    match e, ih with
    | 0, _ => rw [powW]; exact (mulF_one ..).symm
    | k + 1, ih =>
      rw [powW]
      split
      · rename_i c
        rw [ih ((k + 1) / 2) (by omega) _ _ (optMul_two _ _ _ _ hm) (optMul_two _ _ _ _ hm), phi_opt ho ht hm, phi_opt ht ht hm, powF_sq, mulF_assoc]
        congr 1
        rw [mulF_comm]
        show powF _ _ _ (2 * ((k + 1) / 2) + 1) = _
        congr 1; omega
      · rename_i c
        rw [ih ((k + 1) / 2) (by omega) _ _ ho (optMul_two _ _ _ _ hm), phi_opt ht ht hm, powF_sq]
        congr 2; omega
theorem phi_optPow {ms : List Int} (hm : ms.length = 2) (e : Nat) (xs : List Int) (hx : xs.length = 2) : phi n (optPow (n : Int) ms e xs) = powF (q0 n ms) (q1 n ms) (phi n xs) e := by
  unfold optPow
  rw [phi_powW hm e _ _ (by rw [hm]; rfl) hx, hm, phi_one, mulF_comm, mulF_one]
/-- the other name -/
def nmF (t k : Fin n) (x : Pr n) : Pr n := (x.1 - x.2 * t * k, x.2 * k)
theorem phi_name (ns : List Int) (s t : Int) : phi n (nameL ns s t (n : Int)) = nmF (fi n t) (fi n (nameB s n)) (phi n ns) := by
  refine Prod.ext ?_ ?_
  · show fi n ((ns.getD 0 0 - ns.getD 1 0 * t * nameB s n).fmod n) = fi n (ns.getD 0 0) - fi n (ns.getD 1 0) * fi n t * fi n (nameB s n)
    rw [fi_fmod, fi_sub, fi_mul, fi_mul]
  · show fi n ((ns.getD 1 0 * nameB s n).fmod n) = fi n (ns.getD 1 0) * fi n (nameB s n)
    rw [fi_fmod, fi_mul]
theorem nmF_mul {s t k m0 m1 r0 r1 : Fin n} (h : s * k = 1) (h0 : r0 = t * t - s * t * m1 + s * s * m0) (h1 : r1 = s * m1 - 2 * t) (x y : Pr n) : nmF t k (mulF m0 m1 x y) = mulF r0 r1 (nmF t k x) (nmF t k y) := by
  obtain ⟨a0, a1⟩ := x
  obtain ⟨b0, b1⟩ := y
  unfold nmF mulF
  refine Prod.ext ?_ ?_
  · show (a0 * b0 - m0 * a1 * b1) - (a0 * b1 + a1 * b0 - m1 * a1 * b1) * t * k = (a0 - a1 * t * k) * (b0 - b1 * t * k) - r0 * (a1 * k) * (b1 * k)
    grind
  · show (a0 * b1 + a1 * b0 - m1 * a1 * b1) * k = (a0 - a1 * t * k) * (b1 * k) + a1 * k * (b0 - b1 * t * k) - r1 * (a1 * k) * (b1 * k)
    grind
theorem nmF_one (t k : Fin n) : nmF t k oneF = oneF := by
  unfold nmF oneF
  refine Prod.ext ?_ ?_
  · show (1 : Fin n) - 0 * t * k = 1; grind
  · show (0 : Fin n) * k = 0; grind
theorem nmF_pow {s t k m0 m1 r0 r1 : Fin n} (h : s * k = 1) (h0 : r0 = t * t - s * t * m1 + s * s * m0) (h1 : r1 = s * m1 - 2 * t) (x : Pr n) (e : Nat) : nmF t k (powF m0 m1 x e) = powF r0 r1 (nmF t k x) e := by
  induction e with
  | zero => exact nmF_one t k
  | succ e ih => show nmF t k (mulF m0 m1 (powF m0 m1 x e) x) = _; rw [nmF_mul h h0 h1, ih]; rfl
theorem nmF_inj {s t k : Fin n} (h : s * k = 1) {x y : Pr n} (e : nmF t k x = nmF t k y) : x = y := by
  obtain ⟨a0, a1⟩ := x
  obtain ⟨b0, b1⟩ := y
  have e0 : a0 - a1 * t * k = b0 - b1 * t * k := congrArg Prod.fst e
  have e1 : a1 * k = b1 * k := congrArg Prod.snd e
  have e2 : a1 = b1 := by grind
  have e3 : a0 = b0 := by grind
  rw [e2, e3]
theorem phi_zipA {xs ys : List Int} (hx : xs.length = 2) (hy : ys.length = 2) : phi n (plnZip (· + ·) (n : Int) xs ys) = ((phi n xs).1 + (phi n ys).1, (phi n xs).2 + (phi n ys).2) := by
  obtain ⟨a0, a1, rfl⟩ := len2 hx
  obtain ⟨b0, b1, rfl⟩ := len2 hy
  refine Prod.ext ?_ ?_
  · show fi n (((a0 + b0).fmod n).fmod n) = fi n a0 + fi n b0; rw [fi_fmod, fi_fmod, fi_add]
  · show fi n (((a1 + b1).fmod n).fmod n) = fi n a1 + fi n b1; rw [fi_fmod, fi_fmod, fi_add]
theorem phi_zipS {xs ys : List Int} (hx : xs.length = 2) (hy : ys.length = 2) : phi n (plnZip (· - ·) (n : Int) xs ys) = ((phi n xs).1 - (phi n ys).1, (phi n xs).2 - (phi n ys).2) := by
  obtain ⟨a0, a1, rfl⟩ := len2 hx
  obtain ⟨b0, b1, rfl⟩ := len2 hy
  refine Prod.ext ?_ ?_
  · show fi n (((a0 - b0).fmod n).fmod n) = fi n a0 - fi n b0; rw [fi_fmod, fi_fmod, fi_sub]
  · show fi n (((a1 - b1).fmod n).fmod n) = fi n a1 - fi n b1; rw [fi_fmod, fi_fmod, fi_sub]
theorem phi_div (xs : List Int) (k : Int) (hx : xs.length = 2) : phi n (plnDiv (n : Int) xs k) = ((phi n xs).1 * fi n (pfi k n), (phi n xs).2 * fi n (pfi k n)) := by
  obtain ⟨a0, a1, rfl⟩ := len2 hx
  refine Prod.ext ?_ ?_
  · show fi n (rr n (a0 * pfi k n)) = fi n a0 * fi n (pfi k n); rw [fi_rr, fi_mul]
  · show fi n (rr n (a1 * pfi k n)) = fi n a1 * fi n (pfi k n); rw [fi_rr, fi_mul]
theorem phi_fm (xs : List Int) (hx : xs.length = 2) : phi n (xs.map fun k => k.fmod (n : Int)) = phi n xs := by
  obtain ⟨a0, a1, rfl⟩ := len2 hx
  refine Prod.ext ?_ ?_
  · show fi n (a0.fmod n) = fi n a0; rw [fi_fmod]
  · show fi n (a1.fmod n) = fi n a1; rw [fi_fmod]
end
end
section
section
theorem degX_3 (x y z : Sx) : degX [x, y, z] 2 = if z.1 = 0 then (if y.1 = 0 then 0 else 1) else 2 := rfl
theorem degI_3 (x y z : Int) : degI [x, y, z] 2 = if z = 0 then (if y = 0 then 0 else 1) else 2 := rfl
theorem prd_21 {p : Int} {x0 x1 x2 y0 y1 y2 : Sx} (hx : degX [x0, x1, x2] 2 = 2) (hy : degX [y0, y1, y2] 2 = 1) (he : ¬ 0 + sxDiv p x2 y1.1 = 0) :
    prd p [x0, x1, x2] [y0, y1, y2] = [0 + sxDiv p (sxSub p x1 (0, false)) y1.1, 0 + sxDiv p x2 y1.1] := by
  have e : prd p [x0, x1, x2] [y0, y1, y2] = (let o := (prdS p [x0, x1, x2] [y0, y1, y2] (degX [x0, x1, x2] 2) (degX [y0, y1, y2] 2) (degX [x0, x1, x2] 2 + 1 - degX [y0, y1, y2] 2)).1; o.take (degI o (o.length - 1) + 1)) := rfl
  rw [e, hx, hy]
  have e2 : (prdS p [x0, x1, x2] [y0, y1, y2] 2 1 (2 + 1 - 1)).1 = [0 + sxDiv p (sxSub p x1 (0, false)) y1.1, 0 + sxDiv p x2 y1.1, 0] := rfl
  rw [e2]
  have e3 : degI [0 + sxDiv p (sxSub p x1 (0, false)) y1.1, 0 + sxDiv p x2 y1.1, 0] 2 = 1 := by rw [degI_3, if_pos rfl, if_neg he]
  show List.take (degI [0 + sxDiv p (sxSub p x1 (0, false)) y1.1, 0 + sxDiv p x2 y1.1, 0] 2 + 1) _ = _
  rw [e3]; rfl
theorem prd_11 {p : Int} {x0 x1 x2 y0 y1 y2 : Sx} (hx : degX [x0, x1, x2] 2 = 1) (hy : degX [y0, y1, y2] 2 = 1) :
    prd p [x0, x1, x2] [y0, y1, y2] = [0 + sxDiv p x1 y1.1] := by
  have e : prd p [x0, x1, x2] [y0, y1, y2] = (let o := (prdS p [x0, x1, x2] [y0, y1, y2] (degX [x0, x1, x2] 2) (degX [y0, y1, y2] 2) (degX [x0, x1, x2] 2 + 1 - degX [y0, y1, y2] 2)).1; o.take (degI o (o.length - 1) + 1)) := rfl
  rw [e, hx, hy]
  have e2 : (prdS p [x0, x1, x2] [y0, y1, y2] 1 1 (1 + 1 - 1)).1 = [0 + sxDiv p x1 y1.1, 0, 0] := rfl
  rw [e2]
  rfl
theorem ivS3 {p : Int} {l0 l1 l2 h0 h1 h2 r0 r1 r2 : Int} {x0 x1 x2 y0 y1 y2 : Sx} (hR : ivR p 3 [x0, x1, x2] [y0, y1, y2] = [r0, r1, r2]) :
    ivS p 3 [l0, l1, l2] [x0, x1, x2] [h0, h1, h2] [y0, y1, y2] 3 = ([h0 - l0 * r0, h1 - l0 * r1 - l1 * r0, h2 - l0 * r2 - l1 * r1 - l2 * r0],
      [sxSub p y0 (sxMul p x0 r0), sxSub p (sxSub p y1 (sxMul p x0 r1)) (sxMul p x1 r0), sxSub p (sxSub p (sxSub p y2 (sxMul p x0 r2)) (sxMul p x1 r1)) (sxMul p x2 r0)]) := by
  unfold ivS; rw [hR]; rfl
theorem ivGo_stop {p : Int} {k : Nat} {lm hm : List Int} {low high : List Sx} (h : degX low 2 = 0) : ivGo p 3 k lm low hm high = some (lm, low.getD 0 (0, false)) := by
  cases k <;> (rw [ivGo]; exact if_pos h)
theorem ivGo_more {p : Int} {k : Nat} {lm hm : List Int} {low high : List Sx} (h : degX low 2 = 1) (h2 : (low.getD 1 (0, false)).2 = true) (hb : bdB (ivR p 3 low high) = true) : ivGo p 3 (k + 1) lm low hm high = ivGo p 3 k (ivS p 3 lm low hm high 3).1 (ivS p 3 lm low hm high 3).2 lm low := by
  rw [ivGo]
  have e : ¬ degX low (3 - 1) = 0 := by show ¬ degX low 2 = 0; rw [h]; decide
  have e2 : (low.getD (degX low (3 - 1)) (0, false)).2 = true := by show (low.getD (degX low 2) (0, false)).2 = true; rw [h]; exact h2
  rw [if_neg e, if_pos ⟨e2, hb⟩]
theorem bdB_of {p : Int} {l : List Int} (hp : p < 2 ^ 60) (h : ∀ x ∈ l, 0 ≤ x ∧ x < p) : bdB l = true := List.all_eq_true.mpr fun x hx => by
  have := h x hx
  rw [decide_eq_true_iff]
  omega
theorem sxMul_t (p a k : Int) : sxMul p (a, true) k = (rr p (a * k), true) := rfl
theorem sxMul_f (p a k : Int) : sxMul p (a, false) k = (a * k, false) := rfl
theorem sxSub_ft (p x y : Int) : sxSub p (x, false) (y, true) = (rr p (x - y), true) := rfl
theorem sxSub_tf (p x y : Int) : sxSub p (x, true) (y, false) = (rr p (x - y), true) := rfl
theorem sxSub_tt (p x y : Int) : sxSub p (x, true) (y, true) = (rr p (x - y), true) := rfl
variable {n : Nat} [NeZero n]
/-- pfi inverts -/
def PfiOk (n : Nat) [NeZero n] : Prop := ∀ a : Int, 0 ≤ a → a < n → a ≠ 0 → fi n a * fi n (pfi a n) = 1
def IrrF (m0 m1 : Fin n) : Prop := ∀ r : Fin n, r * r - m1 * r + m0 ≠ 0
theorem one_ne (h : 1 < n) : (1 : Fin n) ≠ 0 := fun e => by
  have := congrArg Fin.val e
  have h1 : ((1 : Fin n)).val = 1 % n := rfl
  have h0 : ((0 : Fin n)).val = 0 := by simp
  rw [h1, h0, Nat.mod_eq_of_lt h] at this
  cases this
theorem rr_in' (h : 0 < n) (x : Int) : 0 ≤ rr (n : Int) x ∧ rr (n : Int) x < n := rr_in (by omega)
theorem sxDiv_in (h : 0 < n) (x : Sx) (k : Int) : 0 ≤ 0 + sxDiv (n : Int) x k ∧ 0 + sxDiv (n : Int) x k < n := by unfold sxDiv; rw [Int.zero_add]; exact rr_in' h _
theorem fi_sxDiv (x : Sx) (k : Int) : fi n (0 + sxDiv (n : Int) x k) = fi n x.1 * fi n (pfi k n) := by unfold sxDiv; rw [Int.zero_add, fi_rr, fi_mul]
theorem fi_ne {a : Int} (h0 : 0 ≤ a) (h1 : a < n) (h : a ≠ 0) : fi n a ≠ 0 := fun e => h (fi_in (n := n) (by rw [e, fi_zero]) ⟨h0, h1⟩ ⟨by omega, by omega⟩)
set_option maxHeartbeats 1000000 in
theorem inv_pln (hn : 1 < n) (hn2 : n < 100) (hP : PfiOk n) {b0 b1 m0 m1 : Int} (hb0 : 0 ≤ b0 ∧ b0 < n) (hb1 : 0 ≤ b1 ∧ b1 < n) (hnz : ¬ (b0 = 0 ∧ b1 = 0)) (hI : IrrF (fi n m0) (fi n m1)) :
    ∃ k0 lmF xF, ivGo (n : Int) 3 k0 [1, 0, 0] [(b0, true), (b1, true), (0, false)] [0, 0, 0] [(m0, false), (m1, false), (1, false)] = some (lmF, xF) ∧ lmF.length = 3 ∧
      mulF (fi n m0) (fi n m1) (fi n b0, fi n b1) (phi n (plnDiv n ((lmF.take 2).map fun k => k.fmod n) xF.1)) = oneF := by
  have hp0 : 0 < n := by omega
  have h10 := one_ne hn
  by_cases c1 : b1 = 0
  · subst c1
    have c0 : b0 ≠ 0 := fun e => hnz ⟨e, rfl⟩
    have hi := hP b0 hb0.1 hb0.2 c0
    refine ⟨0, [1, 0, 0], (b0, true), ivGo_stop (by rw [degX_3, if_pos rfl, if_pos rfl]), rfl, ?_⟩
    rw [phi_div _ _ (by rfl), phi_fm _ rfl]
    show mulF (fi n m0) (fi n m1) (fi n b0, fi n 0) (fi n 1 * fi n (pfi b0 n), fi n 0 * fi n (pfi b0 n)) = oneF
    rw [fi_zero, fi_one]
    unfold mulF oneF
    generalize fi n (pfi b0 n) = g at *
    generalize fi n b0 = B0 at *
    refine Prod.ext ?_ ?_
    · show B0 * (1 * g) - _ * 0 * _ = 1; grind
    · show B0 * (0 * g) + 0 * (1 * g) - _ * 0 * _ = 0; grind
  · have hi1 := hP b1 hb1.1 hb1.2 c1
    have E1i := sxDiv_in hp0 (1, false) b1
    have E0i := sxDiv_in hp0 (sxSub (n : Int) (m1, false) (0, false)) b1
    have hE1 := fi_sxDiv (n := n) (1, false) b1
    have hE0 := fi_sxDiv (n := n) (sxSub (n : Int) (m1, false) (0, false)) b1
    have hs : (sxSub (n : Int) (m1, false) (0, false)).1 = m1 - 0 := rfl
    rw [hs, Int.sub_zero] at hE0
    simp only at hE1
    rw [fi_one] at hE1
    have E1n : ¬ 0 + sxDiv (n : Int) (1, false) b1 = 0 := fun e => by
      rw [e, fi_zero] at hE1
      grind
    have dl : degX [(b0, true), (b1, true), (0, false)] 2 = 1 := by rw [degX_3, if_pos rfl, if_neg c1]
    have hR1 : ivR (n : Int) 3 [(b0, true), (b1, true), (0, false)] [(m0, false), (m1, false), (1, false)] = [0 + sxDiv (n : Int) (sxSub (n : Int) (m1, false) (0, false)) b1, 0 + sxDiv (n : Int) (1, false) b1, 0] := by
      unfold ivR
      rw [prd_21 (by rw [degX_3, if_neg (by decide)]) dl E1n]; rfl
    generalize 0 + sxDiv (n : Int) (sxSub (n : Int) (m1, false) (0, false)) b1 = E0 at *
    generalize 0 + sxDiv (n : Int) (1, false) b1 = E1 at *
    have hS1 := ivS3 (l0 := 1) (l1 := 0) (l2 := 0) (h0 := 0) (h1 := 0) (h2 := 0) hR1
    have hbd1 : bdB (ivR (n : Int) 3 [(b0, true), (b1, true), (0, false)] [(m0, false), (m1, false), (1, false)]) = true := by
      rw [hR1]
      exact bdB_of (p := n) (by omega) fun x hx => by
        simp only [List.mem_cons, List.not_mem_nil, or_false] at hx
        rcases hx with rfl | rfl | rfl <;> omega
    have hgo1 : ∀ k, ivGo (n : Int) 3 (k + 1) [1, 0, 0] [(b0, true), (b1, true), (0, false)] [0, 0, 0] [(m0, false), (m1, false), (1, false)] = _ := fun k => ivGo_more dl rfl hbd1
    rw [hS1] at hgo1
    simp only [sxMul_t, sxMul_f, sxSub_ft, sxSub_tt, sxSub_tf] at hgo1
    clear hS1 hbd1 hR1
    have r0 := rr_in' hp0 (m0 - rr (n : Int) (b0 * E0))
    have r1 := rr_in' hp0 (rr (n : Int) (m1 - rr (n : Int) (b0 * E1)) - rr (n : Int) (b1 * E0))
    have r2 := rr_in' hp0 (rr (n : Int) (rr (n : Int) (1 - rr (n : Int) (b0 * 0)) - rr (n : Int) (b1 * E1)) - 0 * E0)
    have f0 : fi n (rr (n : Int) (m0 - rr (n : Int) (b0 * E0))) = fi n m0 - fi n b0 * fi n E0 := by simp only [fi_rr, fi_sub, fi_mul]
    have f1 : fi n (rr (n : Int) (rr (n : Int) (m1 - rr (n : Int) (b0 * E1)) - rr (n : Int) (b1 * E0))) = fi n m1 - fi n b0 * fi n E1 - fi n b1 * fi n E0 := by simp only [fi_rr, fi_sub, fi_mul]
    have f2 : fi n (rr (n : Int) (rr (n : Int) (rr (n : Int) (1 - rr (n : Int) (b0 * 0)) - rr (n : Int) (b1 * E1)) - 0 * E0)) = 0 := by
      simp only [fi_rr, fi_sub, fi_mul, fi_zero, fi_one]
      rw [hE1]
      clear hgo1 r0 r1 r2 f0 f1
      grind
    generalize rr (n : Int) (m0 - rr (n : Int) (b0 * E0)) = N0 at *
    generalize rr (n : Int) (rr (n : Int) (m1 - rr (n : Int) (b0 * E1)) - rr (n : Int) (b1 * E0)) = N1 at *
    generalize rr (n : Int) (rr (n : Int) (rr (n : Int) (1 - rr (n : Int) (b0 * 0)) - rr (n : Int) (b1 * E1)) - 0 * E0) = N2 at *
    have z2 : N2 = 0 := fi_in (n := n) (by rw [f2, fi_zero]) r2 ⟨by omega, by omega⟩
    subst z2
    have gl0 : fi n (0 - 1 * E0) = - fi n E0 := by rw [fi_sub, fi_mul, fi_zero, fi_one]; grind
    have gl1 : fi n (0 - 1 * E1 - 0 * E0) = - fi n E1 := by rw [fi_sub, fi_sub, fi_mul, fi_mul, fi_zero, fi_one]; grind
    by_cases c2 : N1 = 0
    · subst c2
      have hst : ivGo (n : Int) 3 0 [0 - 1 * E0, 0 - 1 * E1 - 0 * E0, 0 - 1 * 0 - 0 * E1 - 0 * E0] [(N0, true), (0, true), (0, true)] [1, 0, 0] [(b0, true), (b1, true), (0, false)] = _ := ivGo_stop (by rw [degX_3, if_pos rfl, if_pos rfl])
      refine ⟨1, _, _, (hgo1 0).trans hst, rfl, ?_⟩
      rw [phi_div _ _ (by rfl), phi_fm _ rfl]
      have hd : N0 ≠ 0 := fun e => by
        have h1 := hI 0
        rw [e, fi_zero] at f0
        rw [fi_zero] at f1
        grind
      have hg := hP N0 r0.1 r0.2 hd
      show mulF (fi n m0) (fi n m1) (fi n b0, fi n b1) (fi n (0 - 1 * E0) * fi n (pfi N0 n), fi n (0 - 1 * E1 - 0 * E0) * fi n (pfi N0 n)) = oneF
      rw [gl0, gl1]
      rw [fi_zero] at f1
      unfold mulF oneF
      generalize fi n (pfi N0 n) = g at *
      generalize fi n (pfi b1 n) = i1 at *
      refine Prod.ext ?_ ?_
      · show fi n b0 * (-fi n E0 * g) - fi n m0 * fi n b1 * (-fi n E1 * g) = 1
        grind
      · show fi n b0 * (-fi n E1 * g) + fi n b1 * (-fi n E0 * g) - fi n m1 * fi n b1 * (-fi n E1 * g) = 0
        grind
    · have hj := hP N1 r1.1 r1.2 c2
      have dn : degX [(N0, true), (N1, true), (0, true)] 2 = 1 := by rw [degX_3, if_pos rfl, if_neg c2]
      have F0i := sxDiv_in hp0 (b1, true) N1
      have hF0 := fi_sxDiv (n := n) (b1, true) N1
      simp only at hF0
      have hR2 : ivR (n : Int) 3 [(N0, true), (N1, true), (0, true)] [(b0, true), (b1, true), (0, false)] = [0 + sxDiv (n : Int) (b1, true) N1, 0, 0] := by
        unfold ivR
        rw [prd_11 dl dn]; rfl
      generalize 0 + sxDiv (n : Int) (b1, true) N1 = F0 at *
      have hS2 := ivS3 (l0 := 0 - 1 * E0) (l1 := 0 - 1 * E1 - 0 * E0) (l2 := 0 - 1 * 0 - 0 * E1 - 0 * E0) (h0 := 1) (h1 := 0) (h2 := 0) hR2
      have hbd2 : bdB (ivR (n : Int) 3 [(N0, true), (N1, true), (0, true)] [(b0, true), (b1, true), (0, false)]) = true := by
        rw [hR2]
        exact bdB_of (p := n) (by omega) fun x hx => by
          simp only [List.mem_cons, List.not_mem_nil, or_false] at hx
          rcases hx with rfl | rfl | rfl <;> omega
      have hgo2 : ∀ k, ivGo (n : Int) 3 (k + 1) [0 - 1 * E0, 0 - 1 * E1 - 0 * E0, 0 - 1 * 0 - 0 * E1 - 0 * E0] [(N0, true), (N1, true), (0, true)] [1, 0, 0] [(b0, true), (b1, true), (0, false)] = _ := fun k => ivGo_more dn rfl hbd2
      rw [hS2] at hgo2
      simp only [sxMul_t, sxMul_f, sxSub_ft, sxSub_tt, sxSub_tf] at hgo2
      clear hS2 hbd2 hR2
      have s0 := rr_in' hp0 (b0 - rr (n : Int) (N0 * F0))
      have s1 := rr_in' hp0 (rr (n : Int) (b1 - rr (n : Int) (N0 * 0)) - rr (n : Int) (N1 * F0))
      have s2 := rr_in' hp0 (rr (n : Int) (rr (n : Int) (0 - rr (n : Int) (N0 * 0)) - rr (n : Int) (N1 * 0)) - rr (n : Int) (0 * F0))
      have k0 : fi n (rr (n : Int) (b0 - rr (n : Int) (N0 * F0))) = fi n b0 - fi n N0 * fi n F0 := by simp only [fi_rr, fi_sub, fi_mul]
      have k1 : fi n (rr (n : Int) (rr (n : Int) (b1 - rr (n : Int) (N0 * 0)) - rr (n : Int) (N1 * F0))) = 0 := by
        simp only [fi_rr, fi_sub, fi_mul, fi_zero]
        rw [hF0]
        clear hgo1 hgo2 s0 s1 s2 k0
        grind
      have k2 : fi n (rr (n : Int) (rr (n : Int) (rr (n : Int) (0 - rr (n : Int) (N0 * 0)) - rr (n : Int) (N1 * 0)) - rr (n : Int) (0 * F0))) = 0 := by
        simp only [fi_rr, fi_sub, fi_mul, fi_zero]
        clear hgo1 hgo2 s0 s1 s2 k0 k1
        grind
      generalize rr (n : Int) (b0 - rr (n : Int) (N0 * F0)) = P0 at *
      generalize rr (n : Int) (rr (n : Int) (b1 - rr (n : Int) (N0 * 0)) - rr (n : Int) (N1 * F0)) = P1 at *
      generalize rr (n : Int) (rr (n : Int) (rr (n : Int) (0 - rr (n : Int) (N0 * 0)) - rr (n : Int) (N1 * 0)) - rr (n : Int) (0 * F0)) = P2 at *
      have y1 : P1 = 0 := fi_in (n := n) (by rw [k1, fi_zero]) s1 ⟨by omega, by omega⟩
      have y2 : P2 = 0 := fi_in (n := n) (by rw [k2, fi_zero]) s2 ⟨by omega, by omega⟩
      subst y1 y2
      have hst : ivGo (n : Int) 3 0 [1 - (0 - 1 * E0) * F0, 0 - (0 - 1 * E0) * 0 - (0 - 1 * E1 - 0 * E0) * F0, 0 - (0 - 1 * E0) * 0 - (0 - 1 * E1 - 0 * E0) * 0 - (0 - 1 * 0 - 0 * E1 - 0 * E0) * F0] [(P0, true), (0, true), (0, true)] [0 - 1 * E0, 0 - 1 * E1 - 0 * E0, 0 - 1 * 0 - 0 * E1 - 0 * E0] [(N0, true), (N1, true), (0, true)] = _ := ivGo_stop (by rw [degX_3, if_pos rfl, if_pos rfl])
      refine ⟨2, _, _, (hgo1 1).trans ((hgo2 0).trans hst), rfl, ?_⟩
      rw [phi_div _ _ (by rfl), phi_fm _ rfl]
      have hd : P0 ≠ 0 := fun e => by
        have h1 := hI (fi n b0 * fi n (pfi b1 n))
        rw [e, fi_zero] at k0
        generalize fi n (pfi b1 n) = i1 at *
        generalize fi n (pfi N1 n) = j at *
        grind
      have hg := hP P0 s0.1 s0.2 hd
      show mulF (fi n m0) (fi n m1) (fi n b0, fi n b1) (fi n (1 - (0 - 1 * E0) * F0) * fi n (pfi P0 n), fi n (0 - (0 - 1 * E0) * 0 - (0 - 1 * E1 - 0 * E0) * F0) * fi n (pfi P0 n)) = oneF
      have v0 : fi n (1 - (0 - 1 * E0) * F0) = 1 + fi n E0 * fi n F0 := by rw [fi_sub, fi_mul, gl0, fi_one]; grind
      have v1 : fi n (0 - (0 - 1 * E0) * 0 - (0 - 1 * E1 - 0 * E0) * F0) = fi n E1 * fi n F0 := by rw [fi_sub, fi_sub, fi_mul, fi_mul, gl0, gl1, fi_zero]; grind
      rw [v0, v1]
      clear hgo1 hgo2 hst v0 v1 gl0 gl1
      unfold mulF oneF
      generalize fi n (pfi P0 n) = g at *
      generalize fi n (pfi b1 n) = i1 at *
      generalize fi n (pfi N1 n) = j at *
      refine Prod.ext ?_ ?_
      · show fi n b0 * ((1 + fi n E0 * fi n F0) * g) - fi n m0 * fi n b1 * (fi n E1 * fi n F0 * g) = 1
        grind
      · show fi n b0 * (fi n E1 * fi n F0 * g) + fi n b1 * ((1 + fi n E0 * fi n F0) * g) - fi n m1 * fi n b1 * (fi n E1 * fi n F0 * g) = 0
        grind
end
end
section
section
theorem opd_21 {p x0 x1 x2 y0 y1 y2 : Int} (hx : degI [x0, x1, x2] 2 = 2) (hy : degI [y0, y1, y2] 2 = 1) (he : ¬ 0 + x2 * pfi y1 p = 0) :
    opd p [x0, x1, x2] [y0, y1, y2] = [(0 + (x1 - 0) * pfi y1 p).fmod p, (0 + x2 * pfi y1 p).fmod p] := by
  have e : opd p [x0, x1, x2] [y0, y1, y2] = (let o := (opdS p [x0, x1, x2] [y0, y1, y2] (degI [x0, x1, x2] 2) (degI [y0, y1, y2] 2) (degI [x0, x1, x2] 2 + 1 - degI [y0, y1, y2] 2)).1; o.take (degI o (o.length - 1) + 1)).map fun k => k.fmod p := rfl
  rw [e, hx, hy]
  have e2 : (opdS p [x0, x1, x2] [y0, y1, y2] 2 1 (2 + 1 - 1)).1 = [0 + (x1 - 0) * pfi y1 p, 0 + x2 * pfi y1 p, 0] := rfl
  rw [e2]
  have e3 : degI [0 + (x1 - 0) * pfi y1 p, 0 + x2 * pfi y1 p, 0] 2 = 1 := by rw [degI_3, if_pos rfl, if_neg he]
  show List.map _ (List.take (degI [0 + (x1 - 0) * pfi y1 p, 0 + x2 * pfi y1 p, 0] 2 + 1) _) = _
  rw [e3]; rfl
theorem opd_11 {p x0 x1 x2 y0 y1 y2 : Int} (hx : degI [x0, x1, x2] 2 = 1) (hy : degI [y0, y1, y2] 2 = 1) :
    opd p [x0, x1, x2] [y0, y1, y2] = [(0 + x1 * pfi y1 p).fmod p] := by
  have e : opd p [x0, x1, x2] [y0, y1, y2] = (let o := (opdS p [x0, x1, x2] [y0, y1, y2] (degI [x0, x1, x2] 2) (degI [y0, y1, y2] 2) (degI [x0, x1, x2] 2 + 1 - degI [y0, y1, y2] 2)).1; o.take (degI o (o.length - 1) + 1)).map fun k => k.fmod p := rfl
  rw [e, hx, hy]
  have e2 : (opdS p [x0, x1, x2] [y0, y1, y2] 1 1 (1 + 1 - 1)).1 = [0 + x1 * pfi y1 p, 0, 0] := rfl
  rw [e2]
  rfl
theorem jvS3 {p l0 l1 l2 h0 h1 h2 r0 r1 r2 x0 x1 x2 y0 y1 y2 : Int} (hR : jvR p 3 [x0, x1, x2] [y0, y1, y2] = [r0, r1, r2]) :
    jvS p 3 [l0, l1, l2] [x0, x1, x2] [h0, h1, h2] [y0, y1, y2] 3 = ([h0 - l0 * r0, h1 - l0 * r1 - l1 * r0, h2 - l0 * r2 - l1 * r1 - l2 * r0], [y0 - x0 * r0, y1 - x0 * r1 - x1 * r0, y2 - x0 * r2 - x1 * r1 - x2 * r0]) := by
  unfold jvS; rw [hR]; rfl
theorem jvGo_stop {p : Int} {k : Nat} {lm hm low high : List Int} (h : degI low 2 = 0) : jvGo p 3 k lm low hm high = some (lm, low.getD 0 0) := by
  cases k <;> (rw [jvGo]; exact if_pos h)
theorem jvGo_more {p : Int} {k : Nat} {lm hm low high : List Int} (h : degI low 2 = 1) : jvGo p 3 (k + 1) lm low hm high = jvGo p 3 k ((jvS p 3 lm low hm high 3).1.map fun k => k.fmod p) ((jvS p 3 lm low hm high 3).2.map fun k => k.fmod p) lm low := by
  rw [jvGo]
  have e : ¬ degI low (3 - 1) = 0 := by show ¬ degI low 2 = 0; rw [h]; decide
  rw [if_neg e]
theorem map3 (f : Int → Int) (a b c : Int) : [a, b, c].map f = [f a, f b, f c] := rfl
variable {n : Nat} [NeZero n]
theorem fm_in' (h : 0 < n) (x : Int) : 0 ≤ x.fmod (n : Int) ∧ x.fmod (n : Int) < n := fmod_in (by omega)
set_option maxHeartbeats 1000000 in
theorem inv_opt (hn : 1 < n) (hP : PfiOk n) {b0 b1 m0 m1 : Int} (hb0 : 0 ≤ b0 ∧ b0 < n) (hb1 : 0 ≤ b1 ∧ b1 < n) (hnz : ¬ (b0 = 0 ∧ b1 = 0)) (hI : IrrF (fi n m0) (fi n m1)) :
    ∃ k0 lmF xF, jvGo (n : Int) 3 k0 [1, 0, 0] [b0, b1, 0] [0, 0, 0] [m0, m1, 1] = some (lmF, xF) ∧ lmF.length = 3 ∧
      mulF (fi n m0) (fi n m1) (fi n b0, fi n b1) (phi n (plnDiv n ((lmF.take 2).map fun k => k.fmod n) xF)) = oneF := by
  have hp0 : 0 < n := by omega
  have h10 := one_ne hn
  by_cases c1 : b1 = 0
  · subst c1
    have c0 : b0 ≠ 0 := fun e => hnz ⟨e, rfl⟩
    have hi := hP b0 hb0.1 hb0.2 c0
    refine ⟨0, [1, 0, 0], b0, jvGo_stop (by rw [degI_3, if_pos rfl, if_pos rfl]), rfl, ?_⟩
    rw [phi_div _ _ (by rfl), phi_fm _ rfl]
    show mulF (fi n m0) (fi n m1) (fi n b0, fi n 0) (fi n 1 * fi n (pfi b0 n), fi n 0 * fi n (pfi b0 n)) = oneF
    rw [fi_zero, fi_one]
    unfold mulF oneF
    generalize fi n (pfi b0 n) = g at *
    generalize fi n b0 = B0 at *
    refine Prod.ext ?_ ?_
    · show B0 * (1 * g) - _ * 0 * _ = 1; grind
    · show B0 * (0 * g) + 0 * (1 * g) - _ * 0 * _ = 0; grind
  · have hi1 := hP b1 hb1.1 hb1.2 c1
    have hE1 : fi n ((0 + 1 * pfi b1 n).fmod n) = fi n (pfi b1 n) := by rw [fi_fmod, Int.zero_add, Int.one_mul]
    have hE0 : fi n ((0 + (m1 - 0) * pfi b1 n).fmod n) = fi n m1 * fi n (pfi b1 n) := by rw [fi_fmod, Int.zero_add, Int.sub_zero, fi_mul]
    have E1n : ¬ 0 + 1 * pfi b1 (n : Int) = 0 := fun e => by
      rw [Int.zero_add, Int.one_mul] at e
      rw [e, fi_zero] at hi1
      grind
    have dl : degI [b0, b1, 0] 2 = 1 := by rw [degI_3, if_pos rfl, if_neg c1]
    have hR1 : jvR (n : Int) 3 [b0, b1, 0] [m0, m1, 1] = [(0 + (m1 - 0) * pfi b1 n).fmod n, (0 + 1 * pfi b1 n).fmod n, 0] := by
      unfold jvR
      rw [opd_21 (by rw [degI_3, if_neg (by decide)]) dl E1n]; rfl
    generalize (0 + (m1 - 0) * pfi b1 (n : Int)).fmod n = E0 at *
    generalize (0 + 1 * pfi b1 (n : Int)).fmod n = E1 at *
    have hgo1 : ∀ k, jvGo (n : Int) 3 (k + 1) [1, 0, 0] [b0, b1, 0] [0, 0, 0] [m0, m1, 1] = _ := fun k => jvGo_more dl
    rw [jvS3 hR1, map3, map3] at hgo1
    clear hR1
    have r0 := fm_in' hp0 (m0 - b0 * E0)
    have r1 := fm_in' hp0 (m1 - b0 * E1 - b1 * E0)
    have r2 := fm_in' hp0 (1 - b0 * 0 - b1 * E1 - 0 * E0)
    have f0 : fi n ((m0 - b0 * E0).fmod n) = fi n m0 - fi n b0 * fi n E0 := by simp only [fi_fmod, fi_sub, fi_mul]
    have f1 : fi n ((m1 - b0 * E1 - b1 * E0).fmod n) = fi n m1 - fi n b0 * fi n E1 - fi n b1 * fi n E0 := by simp only [fi_fmod, fi_sub, fi_mul]
    have f2 : fi n ((1 - b0 * 0 - b1 * E1 - 0 * E0).fmod n) = 0 := by
      simp only [fi_fmod, fi_sub, fi_mul, fi_zero, fi_one]
      rw [hE1]
      grind
    have gl0 : fi n ((0 - 1 * E0).fmod n) = - fi n E0 := by rw [fi_fmod, fi_sub, fi_mul, fi_zero, fi_one]; grind
    have gl1 : fi n ((0 - 1 * E1 - 0 * E0).fmod n) = - fi n E1 := by rw [fi_fmod, fi_sub, fi_sub, fi_mul, fi_mul, fi_zero, fi_one]; grind
    generalize (m0 - b0 * E0).fmod (n : Int) = N0 at *
    generalize (m1 - b0 * E1 - b1 * E0).fmod (n : Int) = N1 at *
    generalize (1 - b0 * 0 - b1 * E1 - 0 * E0).fmod (n : Int) = N2 at *
    generalize (0 - 1 * E0).fmod (n : Int) = G0 at *
    generalize (0 - 1 * E1 - 0 * E0).fmod (n : Int) = G1 at *
    generalize (0 - 1 * 0 - 0 * E1 - 0 * E0).fmod (n : Int) = G2 at *
    have z2 : N2 = 0 := fi_in (n := n) (by rw [f2, fi_zero]) r2 ⟨by omega, by omega⟩
    subst z2
    by_cases c2 : N1 = 0
    · subst c2
      have hst : jvGo (n : Int) 3 0 [G0, G1, G2] [N0, 0, 0] [1, 0, 0] [b0, b1, 0] = _ := jvGo_stop (by rw [degI_3, if_pos rfl, if_pos rfl])
      refine ⟨1, _, _, (hgo1 0).trans hst, rfl, ?_⟩
      rw [phi_div _ _ (by rfl), phi_fm _ rfl]
      have hd : N0 ≠ 0 := fun e => by
        have h1 := hI 0
        rw [e, fi_zero] at f0
        rw [fi_zero] at f1
        grind
      have hg := hP N0 r0.1 r0.2 hd
      show mulF (fi n m0) (fi n m1) (fi n b0, fi n b1) (fi n G0 * fi n (pfi N0 n), fi n G1 * fi n (pfi N0 n)) = oneF
      rw [gl0, gl1]
      rw [fi_zero] at f1
      unfold mulF oneF
      generalize fi n (pfi N0 n) = g at *
      generalize fi n (pfi b1 n) = i1 at *
      refine Prod.ext ?_ ?_
      · show fi n b0 * (-fi n E0 * g) - fi n m0 * fi n b1 * (-fi n E1 * g) = 1
        grind
      · show fi n b0 * (-fi n E1 * g) + fi n b1 * (-fi n E0 * g) - fi n m1 * fi n b1 * (-fi n E1 * g) = 0
        grind
    · have hj := hP N1 r1.1 r1.2 c2
      have dn : degI [N0, N1, 0] 2 = 1 := by rw [degI_3, if_pos rfl, if_neg c2]
      have hF0 : fi n ((0 + b1 * pfi N1 n).fmod n) = fi n b1 * fi n (pfi N1 n) := by rw [fi_fmod, Int.zero_add, fi_mul]
      have hR2 : jvR (n : Int) 3 [N0, N1, 0] [b0, b1, 0] = [(0 + b1 * pfi N1 n).fmod n, 0, 0] := by
        unfold jvR
        rw [opd_11 dl dn]; rfl
      generalize (0 + b1 * pfi N1 (n : Int)).fmod n = F0 at *
      have hgo2 : ∀ k, jvGo (n : Int) 3 (k + 1) [G0, G1, G2] [N0, N1, 0] [1, 0, 0] [b0, b1, 0] = _ := fun k => jvGo_more dn
      rw [jvS3 hR2, map3, map3] at hgo2
      clear hR2
      have s0 := fm_in' hp0 (b0 - N0 * F0)
      have s1 := fm_in' hp0 (b1 - N0 * 0 - N1 * F0)
      have s2 := fm_in' hp0 (0 - N0 * 0 - N1 * 0 - 0 * F0)
      have k0 : fi n ((b0 - N0 * F0).fmod n) = fi n b0 - fi n N0 * fi n F0 := by simp only [fi_fmod, fi_sub, fi_mul]
      have k1 : fi n ((b1 - N0 * 0 - N1 * F0).fmod n) = 0 := by
        simp only [fi_fmod, fi_sub, fi_mul, fi_zero]
        rw [hF0]
        grind
      have k2 : fi n ((0 - N0 * 0 - N1 * 0 - 0 * F0).fmod n) = 0 := by
        simp only [fi_fmod, fi_sub, fi_mul, fi_zero]
        grind
      have v0 : fi n ((1 - G0 * F0).fmod n) = 1 + fi n E0 * fi n F0 := by rw [fi_fmod, fi_sub, fi_mul, gl0, fi_one]; grind
      have v1 : fi n ((0 - G0 * 0 - G1 * F0).fmod n) = fi n E1 * fi n F0 := by rw [fi_fmod, fi_sub, fi_sub, fi_mul, fi_mul, gl0, gl1, fi_zero]; grind
      generalize (b0 - N0 * F0).fmod (n : Int) = P0 at *
      generalize (b1 - N0 * 0 - N1 * F0).fmod (n : Int) = P1 at *
      generalize (0 - N0 * 0 - N1 * 0 - 0 * F0).fmod (n : Int) = P2 at *
      generalize (1 - G0 * F0).fmod (n : Int) = L0 at *
      generalize (0 - G0 * 0 - G1 * F0).fmod (n : Int) = L1 at *
      generalize (0 - G0 * 0 - G1 * 0 - G2 * F0).fmod (n : Int) = L2 at *
      have y1 : P1 = 0 := fi_in (n := n) (by rw [k1, fi_zero]) s1 ⟨by omega, by omega⟩
      have y2 : P2 = 0 := fi_in (n := n) (by rw [k2, fi_zero]) s2 ⟨by omega, by omega⟩
      subst y1 y2
      have hst : jvGo (n : Int) 3 0 [L0, L1, L2] [P0, 0, 0] [G0, G1, G2] [N0, N1, 0] = _ := jvGo_stop (by rw [degI_3, if_pos rfl, if_pos rfl])
      refine ⟨2, _, _, (hgo1 1).trans ((hgo2 0).trans hst), rfl, ?_⟩
      rw [phi_div _ _ (by rfl), phi_fm _ rfl]
      have hd : P0 ≠ 0 := fun e => by
        have h1 := hI (fi n b0 * fi n (pfi b1 n))
        rw [e, fi_zero] at k0
        generalize fi n (pfi b1 n) = i1 at *
        generalize fi n (pfi N1 n) = j at *
        grind
      have hg := hP P0 s0.1 s0.2 hd
      show mulF (fi n m0) (fi n m1) (fi n b0, fi n b1) (fi n L0 * fi n (pfi P0 n), fi n L1 * fi n (pfi P0 n)) = oneF
      rw [v0, v1]
      clear hgo1 hgo2 hst v0 v1 gl0 gl1
      unfold mulF oneF
      generalize fi n (pfi P0 n) = g at *
      generalize fi n (pfi b1 n) = i1 at *
      generalize fi n (pfi N1 n) = j at *
      refine Prod.ext ?_ ?_
      · show fi n b0 * ((1 + fi n E0 * fi n F0) * g) - fi n m0 * fi n b1 * (fi n E1 * fi n F0 * g) = 1
        grind
      · show fi n b0 * (fi n E1 * fi n F0 * g) + fi n b1 * ((1 + fi n E0 * fi n F0) * g) - fi n m1 * fi n b1 * (fi n E1 * fi n F0 * g) = 0
        grind
end
end
section
theorem fin_pfi : ∀ f ∈ lawFields, ∀ a ∈ List.range f.1.toNat, a = 0 ∨ ((a : Int) * pfi (a : Int) f.1) % f.1 = 1 := by decide +kernel
theorem fin_name : ∀ f ∈ lawFields, ∀ a ∈ List.range f.1.toNat, a = 0 ∨ (((a : Int) * nameB (a : Int) f.1) % f.1 = 1 ∧ 0 ≤ nameB (a : Int) f.1 ∧ nameB (a : Int) f.1 < f.1) := by decide +kernel
theorem fin_irr : ∀ f ∈ lawFields, ∀ r ∈ List.range f.1.toNat, ((r : Int) * r - f.2.2 * r + f.2.1) % f.1 ≠ 0 := by decide +kernel
theorem powW_in {p : Int} (h0 : 0 < p) (ms : List Int) (e : Nat) : ∀ (o t : List Int), InR p o → InR p (powW p ms e o t) := by
  induction e using Nat.strongRecOn with
  | ind e ih =>
    intro o t ho
    match e, ih with
    | 0, _ => rw [powW]; exact ho
    | k + 1, ih =>
      rw [powW]
      refine ih _ (by omega) _ _ ?_
      split
      · exact optMul_in h0 _ _ _
      · exact ho
theorem optPow_in {p : Int} (h0 : 0 < p) (ms : List Int) (e : Nat) (xs : List Int) : InR p (optPow p ms e xs) := powW_in h0 ms e _ _ fun x hx => by
  obtain ⟨a, _, rfl⟩ := List.mem_map.mp hx; exact fmod_in h0
theorem name_bd {p low high s0 : Int} (hf : (p, low, high) ∈ lawFields) (h1 : 1 ≤ s0) (h2 : s0 < p) : 0 ≤ nameB s0 p ∧ nameB s0 p < p ∧ (s0 * nameB s0 p) % p = 1 := by
  obtain ⟨k, rfl⟩ := Int.eq_ofNat_of_zero_le (by omega : 0 ≤ s0)
  rcases fin_name _ hf k (List.mem_range.mpr (by show k < p.toNat; omega)) with h | h
  · omega
  · exact ⟨h.2.1, h.2.2, h.1⟩
theorem name_mul {p low high s0 : Int} (hf : (p, low, high) ∈ lawFields) (h1 : 1 ≤ s0) (h2 : s0 < p) (a : Int) : IntMulOk a (nameB s0 p) := by
  have h := name_bd hf h1 h2
  have := fields_bd hf
  exact mulOk_right ⟨by omega, by omega⟩
section
variable {n : Nat} [NeZero n]
theorem fi_eq_one (hn : 1 < n) {x : Int} (h : x % (n : Int) = 1) : fi n x = 1 := by
  rw [← fi_one, fi_eq, h, Int.emod_eq_of_lt (by omega) (by omega)]
theorem pfiOk {low high : Int} (hf : ((n : Int), low, high) ∈ lawFields) : PfiOk n := by
  intro a h0 h1 hne
  have hb := fields_bd hf
  obtain ⟨k, rfl⟩ := Int.eq_ofNat_of_zero_le h0
  rcases fin_pfi _ hf k (List.mem_range.mpr (by show k < ((n : Int)).toNat; omega)) with h | h
  · omega
  · rw [← fi_mul]; exact fi_eq_one (by omega) h
theorem irrOk {low high : Int} (hf : ((n : Int), low, high) ∈ lawFields) : IrrF (fi n low) (fi n high) := by
  intro r e
  have hb := fields_bd hf
  have h := fin_irr _ hf r.val (List.mem_range.mpr (by show r.val < ((n : Int)).toNat; have := r.isLt; omega))
  have hr : fi n (r.val : Int) = r := by
    apply Fin.ext
    have := fi_val (n := n) (r.val : Int)
    rw [Int.emod_eq_of_lt (by omega) (by have := r.isLt; omega)] at this
    omega
  have e2 : fi n ((r.val : Int) * r.val - high * r.val + low) = fi n 0 := by
    rw [fi_add, fi_sub, fi_mul, fi_mul, hr, fi_zero]; exact e
  have e3 := fi_eq.mp e2
  rw [Int.zero_emod] at e3
  exact h e3
theorem irrQ {m0 m1 s t k R0 R1 : Fin n} (h : s * k = 1) (h0 : R0 = t * t - s * t * m1 + s * s * m0) (h1 : R1 = s * m1 - 2 * t) (hI : IrrF m0 m1) : IrrF R0 R1 := by
  intro r e
  refine hI ((r + t) * k) ?_
  grind
theorem uniq {a b : Fin n} {x y z : Pr n} (h1 : mulF a b x y = oneF) (h2 : mulF a b x z = oneF) : y = z := by
  have e1 : mulF a b y (mulF a b x z) = y := by rw [h2, mulF_one]
  rw [← mulF_assoc, mulF_comm a b y x, h1, mulF_comm, mulF_one] at e1
  exact e1.symm
theorem fi_two : fi n 2 = 2 := by
  have : (2 : Int) = 1 + 1 := rfl
  rw [this, fi_add, fi_one]; grind
theorem lawOk_n {low high s0 t : Int} {NU OT : List Int} (hf : ((n : Int), low, high) ∈ lawFields) (hs1 : 1 ≤ s0) (hs2 : s0 < n) (hN : NU.length = 2) (hO : OT.length = 2) (rN : InR (n : Int) NU) (rO : InR (n : Int) OT) (nO : OT ≠ [0, 0]) :
    LawOk n s0 t [low, high] (rowsQ low high s0 t n) NU OT := by
  have hb := fields_bd hf
  have hn1 : 1 < n := by omega
  have hp0 : (0 : Int) < n := by omega
  have hP := pfiOk hf
  have hI := irrOk hf
  have hnb := name_bd hf hs1 hs2
  have hsk : fi n s0 * fi n (nameB s0 n) = 1 := by rw [← fi_mul]; exact fi_eq_one hn1 hnb.2.2
  have hR0 : fi n ((t * t - s0 * t * high + s0 * s0 * low).fmod n) = fi n t * fi n t - fi n s0 * fi n t * fi n high + fi n s0 * fi n s0 * fi n low := by
    simp only [fi_fmod, fi_add, fi_sub, fi_mul]
  have hR1 : fi n ((s0 * high - 2 * t).fmod n) = fi n s0 * fi n high - 2 * fi n t := by
    simp only [fi_fmod, fi_sub, fi_mul, fi_two]
  have hIQ : IrrF (fi n ((t * t - s0 * t * high + s0 * s0 * low).fmod n)) (fi n ((s0 * high - 2 * t).fmod n)) := irrQ hsk hR0 hR1 hI
  have lM : [low, high].length = 2 := rfl
  have lR : (rowsQ low high s0 t n).length = 2 := rfl
  have lnm : ∀ a, (nameL a s0 t n).length = 2 := fun a => rfl
  have inm : ∀ a, InR (n : Int) (nameL a s0 t n) := fun a => nameL_in hp0 a s0 t
  have q0M : q0 n [low, high] = fi n low := rfl
  have q1M : q1 n [low, high] = fi n high := rfl
  have q0R : q0 n (rowsQ low high s0 t n) = fi n ((t * t - s0 * t * high + s0 * s0 * low).fmod n) := rfl
  have q1R : q1 n (rowsQ low high s0 t n) = fi n ((s0 * high - 2 * t).fmod n) := rfl
  have hmul : ∀ a b : List Int, a.length = 2 → b.length = 2 → nameL (plnMul n a b [low, high]) s0 t n = optMul n (nameL a s0 t n) (nameL b s0 t n) (rowsQ low high s0 t n) := fun a b ha hb' => by
    refine phi_ext (n := n) (lnm _) (optMul_two _ _ _ _ lR) (inm _) (optMul_in hp0 _ _ _) ?_
    rw [phi_name, phi_pln ha hb' lM, phi_opt (lnm _) (lnm _) lR, phi_name, phi_name, q0M, q1M, q0R, q1R]
    exact nmF_mul hsk hR0 hR1 _ _
  have hone1 : phi n (plnOne (n : Int) 2) = oneF := phi_one
  have hzero1 : phi n (plnZero (n : Int) 2) = (0, 0) := by
    show (fi n ((0 : Int).fmod n), fi n ((0 : Int).fmod n)) = _
    rw [fi_fmod, fi_zero]
  have inOne : InR (n : Int) (plnOne (n : Int) 2) := fun x hx => by obtain ⟨a, _, rfl⟩ := List.mem_map.mp hx; exact fmod_in hp0
  have inZero : InR (n : Int) (plnZero (n : Int) 2) := fun x hx => by obtain ⟨a, _, rfl⟩ := List.mem_map.mp hx; exact fmod_in hp0
  have hnm0 : nmF (fi n t) (fi n (nameB s0 n)) ((0, 0) : Pr n) = (0, 0) := by
    unfold nmF
    refine Prod.ext ?_ ?_
    · show (0 : Fin n) - 0 * _ * _ = 0; grind
    · show (0 : Fin n) * _ = 0; grind
  have hnzO : phi n OT ≠ (0, 0) := fun e => nO (phi_ext (n := n) hO rfl rO (fun x hx => by simp at hx; omega) (by rw [e]; show _ = (fi n 0, fi n 0); rw [fi_zero]))
  refine ⟨rfl, rfl, hN, hO, rN, rO, ?_, ?_, ?_, ?_, hmul _ _ hN hO, ?_, ?_, ?_, ?_⟩
  · intro x hx
    simp only [List.mem_cons, List.not_mem_nil, or_false] at hx
    rcases hx with rfl | rfl <;> omega
  · intro x hx
    simp only [rowsQ, List.mem_cons, List.not_mem_nil, or_false] at hx
    rcases hx with rfl | rfl <;> exact fmod_in hp0
  · refine phi_ext (n := n) (lnm _) ((plnZip_length _ _ _ _).trans (by rw [lnm, lnm]; rfl)) (inm _) (plnZip_in hp0 _ _ _) ?_
    rw [phi_name, phi_zipA hN hO, phi_zipA (lnm _) (lnm _), phi_name, phi_name]
    unfold nmF
    refine Prod.ext ?_ ?_
    · show _ - _ * _ * _ = _; grind
    · show _ * _ = _; grind
  · refine phi_ext (n := n) (lnm _) ((plnZip_length _ _ _ _).trans (by rw [lnm, lnm]; rfl)) (inm _) (plnZip_in hp0 _ _ _) ?_
    rw [phi_name, phi_zipS hN hO, phi_zipS (lnm _) (lnm _), phi_name, phi_name]
    unfold nmF
    refine Prod.ext ?_ ?_
    · show _ - _ * _ * _ = _; grind
    · show _ * _ = _; grind
  · intro e
    have l2 : (optPow (n : Int) (rowsQ low high s0 t n) e (nameL NU s0 t n)).length = 2 := powW_length _ _ (by rw [lR]; decide) _ _ _ rfl
    have hin : InR (n : Int) (optPow (n : Int) (rowsQ low high s0 t n) e (nameL NU s0 t n)) := optPow_in hp0 _ _ _
    refine phi_ext (n := n) (lnm _) l2 (inm _) hin ?_
    rw [phi_name, phi_plnPow lM e NU hN, phi_optPow lR e _ (lnm _), phi_name, q0M, q1M, q0R, q1R]
    exact nmF_pow hsk hR0 hR1 _ _
  · obtain ⟨b0, b1, rfl⟩ := len2 hO
    have hb0 := rO b0 (.head _)
    have hb1 := rO b1 (.tail _ (.head _))
    have hz : ¬ (b0 = 0 ∧ b1 = 0) := fun e => nO (by rw [e.1, e.2])
    obtain ⟨k0, lmF, xF, g1, g2, g3⟩ := inv_pln hn1 (by omega) hP (m0 := low) (m1 := high) hb0 hb1 hz hI
    have hnn : ∀ c0 c1 : Int, nameL [b0, b1] s0 t n = [c0, c1] → ¬ (c0 = 0 ∧ c1 = 0) := fun c0 c1 e hc => by
      refine hnzO (nmF_inj hsk (t := fi n t) ?_)
      rw [← phi_name, e, hc.1, hc.2, hnm0]
      show (fi n 0, fi n 0) = _
      rw [fi_zero]
    obtain ⟨c0, c1, hc⟩ := len2 (lnm [b0, b1])
    have hc0 := inm [b0, b1] c0 (by rw [hc]; exact .head _)
    have hc1 := inm [b0, b1] c1 (by rw [hc]; exact .tail _ (.head _))
    obtain ⟨k1, lmG, xG, e1, e2, e3⟩ := inv_opt hn1 hP hc0 hc1 (hnn c0 c1 hc) hIQ
    have hpc : (fi n c0, fi n c1) = nmF (fi n t) (fi n (nameB s0 n)) (phi n [b0, b1]) := by rw [← phi_name, hc]; rfl
    have lIP : (plnDiv (n : Int) ((lmF.take 2).map fun k => k.fmod n) xF.1).length = 2 := by simp [plnDiv]; omega
    have lIQ : (plnDiv (n : Int) ((lmG.take 2).map fun k => k.fmod n) xG).length = 2 := by simp [plnDiv]; omega
    have einv : nameL (plnDiv (n : Int) ((lmF.take 2).map fun k => k.fmod n) xF.1) s0 t n = plnDiv (n : Int) ((lmG.take 2).map fun k => k.fmod n) xG := by
      refine phi_ext (n := n) (lnm _) lIQ (inm _) (plnDiv_in hp0 _ _) ?_
      rw [phi_name]
      refine uniq (x := (fi n c0, fi n c1)) ?_ e3
      rw [hpc, ← nmF_mul hsk hR0 hR1]
      have : mulF (fi n low) (fi n high) (phi n [b0, b1]) (phi n (plnDiv (n : Int) ((lmF.take 2).map fun k => k.fmod n) xF.1)) = oneF := g3
      rw [this, nmF_one]
    refine ⟨k0, lmF, xF, k1, lmG, xG, g1, g2, ?_, e2, einv, ?_⟩
    · rw [hc]; exact e1
    · have := hmul NU (plnDiv (n : Int) ((lmF.take 2).map fun k => k.fmod n) xF.1) hN lIP
      rw [einv] at this
      exact this
  · intro a ha hin
    rw [decide_eq_decide]
    constructor
    · intro e
      refine phi_ext (n := n) (lnm _) rfl (inm _) inOne ?_
      rw [phi_name, e]
      show nmF _ _ (phi n (plnOne (n : Int) 2)) = phi n (plnOne (n : Int) 2)
      rw [hone1, nmF_one]
    · intro e
      refine phi_ext (n := n) ha rfl hin inOne (nmF_inj hsk (t := fi n t) ?_)
      rw [← phi_name, e]
      show phi n (plnOne (n : Int) 2) = nmF _ _ (phi n (plnOne (n : Int) 2))
      rw [hone1, nmF_one]
  · intro a ha hin
    rw [decide_eq_decide]
    constructor
    · intro e
      refine phi_ext (n := n) (lnm _) rfl (inm _) inZero ?_
      rw [phi_name, e]
      show nmF _ _ (phi n (plnZero (n : Int) 2)) = phi n (plnZero (n : Int) 2)
      rw [hzero1, hnm0]
    · intro e
      refine phi_ext (n := n) ha rfl hin inZero (nmF_inj hsk (t := fi n t) ?_)
      rw [← phi_name, e]
      show phi n (plnZero (n : Int) 2) = nmF _ _ (phi n (plnZero (n : Int) 2))
      rw [hzero1, hnm0]
end
theorem lawOk (p low high s0 t : Int) (NU OT : List Int) (hf : (p, low, high) ∈ lawFields) (h1 : 1 ≤ s0) (h2 : s0 < p) (hN : NU.length = 2) (hO : OT.length = 2) (rN : InR p NU) (rO : InR p OT) (nO : OT ≠ [0, 0]) : LawOk p s0 t [low, high] (rowsQ low high s0 t p) NU OT := by
  have hb := fields_bd hf
  obtain ⟨n, rfl⟩ := Int.eq_ofNat_of_zero_le (by omega : 0 ≤ p)
  haveI : NeZero n := ⟨by omega⟩
  exact lawOk_n hf h1 h2 hN hO rN rO nO
end
section
variable {prog : Program} {w : World} {A : Around} {E : Value → Shared → Prop} {D : Dat} {Fs : List Fact} {R : List Res} {s : Shared} {Q : Value → Shared → Prop}
def codeOk (o : Obj) (P : Addr) : Prop := ∃ vs file tf flags tg inF text tt, o.cls = .type "code" ∧ o.data = .fields vs ∧ vs.getD 11 .none = .ref P ∧ vs[11]? = some (.ref P) ∧ vs.getD 18 .none = .str file tf ∧ vs.getD 7 .none = .int flags tg ∧ vs.getD 9 .none = .bool inF ∧ vs.getD 10 .none = .int text tt
theorem none1 (P : Params) : (hd.heap_39 P).lookup 196 = none := by kernel_rfl
theorem none2 (P : Params) : (hd.heap_39 P).lookup 310 = none := by kernel_rfl
set_option maxRecDepth 100000 in
set_option maxHeartbeats 2000000 in
theorem code1 (P : Params) : ∃ o, (hd.heap_39 P).lookup 200 = some o ∧ codeOk o 196 := by
  with_unfolding_all exact ⟨_, rfl, _, _, _, _, _, _, _, _, rfl, rfl, rfl, rfl, rfl, rfl, rfl, rfl⟩
set_option maxRecDepth 100000 in
set_option maxHeartbeats 2000000 in
theorem code2 (P : Params) : ∃ o, (hd.heap_39 P).lookup 312 = some o ∧ codeOk o 310 := by
  with_unfolding_all exact ⟨_, rfl, _, _, _, _, _, _, _, _, rfl, rfl, rfl, rfl, rfl, rfl, rfl, rfl⟩
theorem law_addr (P : Params) : nsIn (hd.heap_39 P) mainGlobals "law" = some (some (.ref 493)) := by k_is
theorem kk_in {P : Params} {h : Heap} (Y0 : (KK P).In h) : (hd.heap_39 P).In h ∧ h.get? 196 = some (X.tableObj #[]) ∧ h.get? 310 = some (X.tableObj #[]) := by
  refine ⟨fun a o e => Y0 a o ?_, Y0 _ _ ?_, Y0 _ _ ?_⟩
  · unfold KK; rw [List.lookup_append, e]; rfl
  · unfold KK; rw [List.lookup_append, none1]; rfl
  · unfold KK; rw [List.lookup_append, none2]; rfl
theorem tab_now {h : Heap} {c P : Addr} {o : Obj} (hc : h.get? c = some o) (ho : codeOk o P) (hP : h.get? P = some (X.tableObj #[])) (hne : c ≠ P) : TabNow ⟨c, P, #[]⟩ h := by
  obtain ⟨vs, file, tf, flags, tg, inF, text, tt, a1, a2, a3, a4, a5, a6, a7, a8⟩ := ho
  exact ⟨#[], ⟨o, vs, file, tf, flags, tg, inF, text, tt, _, hc, a2, a3, a5, a6, a7, a8, hP, rfl, trivial, hne⟩, ⟨o, vs, hc, a1, a2, a4⟩, hP⟩
theorem law_done {prog : Program} {w : World} {mg mb : Str → Option Value} {s₁ : Shared} {fa l : Addr} {vs : List Value} {ns : List Int} {Q : Value → Shared → Prop} {E : Value → Shared → Prop} (KX : (KK w.params).In s₁.heap) (g : s₁.heap.Ns mainGlobals mg) (b : s₁.heap.Ns builtinsNs mb) (nl : s₁.heap.NoLimit) (bi : ∀ x : Str, x ≠ "__name__" → mb x = bootBuiltins x)
    (bm : ∃ bm ob, mg "__builtins__" = some (.ref bm) ∧ bm ≠ builtinsNs ∧ s₁.heap.get? bm = some ob ∧ ob.cls = .type "module" ∧ ob.dict = some builtinsNs ∧ ob.data = .plain) (hmg : mg "law" = some (.ref fa)) (hg : s₁.gens = #[]) (hl : s₁.heap.PlainList l vs.toArray) (hi : IntsAre vs ns) (hz : vs.length < 2 ^ 20)
    (h : ∀ s', OldK s₁.heap s'.heap → s'.os = s₁.os → AllBare s'.gens → Q (.bool true) s') : wpAny (model prog w) callerA (call (.ref fa) [.ref l]) Q E s₁ := by
  obtain ⟨K1, t1, t2⟩ := kk_in KX
  obtain ⟨o1, l1, c1⟩ := code1 w.params
  obtain ⟨o2, l2, c2⟩ := code2 w.params
  have efa : fa = 493 := by
    have := mg_of K1 g (law_addr w.params)
    rw [hmg] at this
    simpa using this
  subst efa
  let D : Dat := ⟨s₁.heap, WT, s₁.os, 0⟩
  have up : ∀ b o, s₁.heap.get? b = some o → o ≠ X.tableObj #[] → D.base.get? b = some o := fun b o hb ho => hideAll_get _ hb fun hm => by
    have hm' : 196 = b ∨ 310 = b := by simpa [D, WT] using hm
    rcases hm' with rfl | rfl
    · rw [t1] at hb; exact ho (Option.some.inj hb).symm
    · rw [t2] at hb; exact ho (Option.some.inj hb).symm
  have upNs : ∀ (a : Addr) (m : Str → Option Value), s₁.heap.Ns a m → D.base.Ns a m := fun a m ⟨o, es, ep, e1, e2, e3⟩ => ⟨o, es, ep, up a o e1 (by rintro rfl; cases e2), e2, e3⟩
  have KB : (hd.heap_39 w.params).In D.base := fun a o e => hideAll_get _ (K1 a o e) fun hm => by
    have hm' : 196 = a ∨ 310 = a := by simpa [D, WT] using hm
    rcases hm' with rfl | rfl
    · rw [none1] at e; cases e
    · rw [none2] at e; cases e
  obtain ⟨mc, n1, n2⟩ := nl
  obtain ⟨bm, ob, m1, m2, m3, m4, m5, m6⟩ := bm
  have W : Wd (hd.heap_39 w.params) D := ⟨KB, ⟨mg, mb, upNs _ _ g, upNs _ _ b, bi⟩, ⟨mc, upNs _ _ n1, n2⟩, ⟨mg, bm, ob, upNs _ _ g, m1, m2, up _ _ m3 (by rintro rfl; cases m4), m4, m5, m6⟩⟩
  have H : At D [ListF l vs] [] s₁ := by
    refine ⟨rfl, ⟨by rw [hg]; exact AllBare.of_eq rfl, Nat.zero_le _⟩, ?_, ?_, by show (([196, 310] : List Addr) ++ []).Nodup; decide, (fun r hr => by cases hr), ?_, ?_⟩
    · intro t ht
      have ht' : t = ⟨200, 196, #[]⟩ ∨ t = ⟨312, 310, #[]⟩ := by simpa [D, WT] using ht
      rcases ht' with rfl | rfl
      · exact tab_now (K1 _ _ l1) c1 t1 (by decide)
      · exact tab_now (K1 _ _ l2) c2 t2 (by decide)
    · intro t ht
      have ht' : t = ⟨200, 196, #[]⟩ ∨ t = ⟨312, 310, #[]⟩ := by simpa [D, WT] using ht
      rcases ht' with rfl | rfl
      · exact ⟨o1, hideAll_get _ (K1 _ _ l1) (by simp [D, WT])⟩
      · exact ⟨o2, hideAll_get _ (K1 _ _ l2) (by simp [D, WT])⟩
    · show Ext (hideAll s₁.heap D.Ps) (hideAll s₁.heap (D.Ps ++ []))
      rw [List.append_nil]; exact Ext.refl _
    · intro F hF
      rw [List.mem_singleton.mp hF]
      obtain ⟨n, e⟩ := hl
      refine ⟨n, ?_⟩
      show (hideAll s₁.heap (D.Ps ++ [])).get? l = _
      rw [List.append_nil]
      exact up _ _ e (by intro q; cases q)
  refine r_use (s_law W (fun t ht => ht) ⟨rfl, by decide, by decide⟩ H (.head _) hi hz (fun p low high s0 t NU OT hf a b _ _ c d e f g => lawOk p low high s0 t NU OT hf a b c d e f g) (fun p low high s0 hf h1 h2 => name_mul hf h1 h2) fun s' H' => ?_)
  refine h s' ?_ H'.os H'.gens.1
  have hb := H'.base
  have old : ∀ b o, s₁.heap.get? b = some o → asItWas s₁.heap s'.heap b o := fun b o e => by
    by_cases hm : b = 196 ∨ b = 310
    · have tb : ∀ c P oc, s₁.heap.get? c = some oc → codeOk oc P → s₁.heap.get? P = some (X.tableObj #[]) → TabNow ⟨c, P, #[]⟩ s'.heap → b = P → asItWas s₁.heap s'.heap b o := by
        rintro c P oc ec ⟨vs, file, tf, flags, tg, inF, text, tt, a1, a2, a3, a4, _⟩ eP ⟨more, _, _, eq⟩ rfl
        rw [eP] at e
        cases e
        exact .inr (.inl ⟨⟨c, oc, vs, ec, a1, a2, a4⟩, rfl, #[], more, rfl, by rw [eq]; simp [X.tableObj]⟩)
      rcases hm with hm | hm
      · exact tb 200 196 o1 (K1 _ _ l1) c1 t1 (H'.tab _ (by simp [D, WT])) hm
      · exact tb 312 310 o2 (K1 _ _ l2) c2 t2 (H'.tab _ (by simp [D, WT])) hm
    · refine .inl (of_hideAll _ (hb b o (hideAll_get _ e fun hx => hm ?_)))
      have hx' : 196 = b ∨ 310 = b := by simpa [D, WT] using hx
      exact hx'.imp Eq.symm Eq.symm
  refine ⟨old, fun b o e => ?_⟩
  rcases old b o e with q | ⟨_, _, vs, more, _, q⟩ | ⟨_, _, ⟨o', es, n, q, _⟩, _⟩
  · exact ⟨_, q⟩
  · exact ⟨_, q⟩
  · exact ⟨_, q⟩
end
theorem fin : PySem.Challenge.rw_bq0014_02.Holds := by
  refine fin_of ?_
  intro prog w mg mb s₁ fa l vs ns Q E
  exact law_done
end Mine
theorem PySem.Challenge.cw_bq0014_02_holds : PySem.Challenge.rw_bq0014_02.Holds :=
  Mine.fin

