import PyProof.Rows.All
import Wide.All
import OpenK.AllK
import Wide.FinOn
import KE.KOpsOwn
import PyProof.Rows.Range3
import Lean
import PySem.Challenge.RW_bq0014_01
open PySem PySem.Calls PyProof.Rows PySem.W
set_option Elab.async false
namespace Mine

/-- every object of `h` stands in `h'` -/
def Ext (h h' : Heap) : Prop := ∀ b o, h.get? b = some o → h'.get? b = some o
theorem Ext.refl (h : Heap) : Ext h h := fun _ _ e => e
theorem Ext.trans {a b c : Heap} (x : Ext a b) (y : Ext b c) : Ext a c := fun p o e => y p o (x p o e)
theorem Ext.push (h : Heap) (o : Obj) : Ext h (h.push o) := fun _ _ e => Heap.get?_push_of_some o e
theorem Ext.hide (h : Heap) (X : List Addr) : Ext (hideAll h X) h := fun _ _ e => of_hideAll X e
theorem hide_not_mem {h : Heap} {X : List Addr} {b : Addr} {o : Obj} (e : (hideAll h X).get? b = some o) : b ∉ X := fun m => by
  rw [hideAll_none X m] at e; cases e
theorem Ext.hide_mono {h h' : Heap} {X Y : List Addr} (k : ∀ b o, b ∉ X → h.get? b = some o → h'.get? b = some o) (s : ∀ b ∈ Y, b ∉ X → h.get? b = none) :
    Ext (hideAll h X) (hideAll h' Y) := fun b o e => by
  have nX := hide_not_mem e
  have e' := of_hideAll X e
  refine hideAll_get Y (k b o nX e') fun m => ?_
  rw [s b m nX] at e'; cases e'

/-- a persistent fact about the heap -/
structure Fact where
  holds : Heap → Prop
  mono : ∀ {h h' : Heap}, Ext h h' → holds h → holds h'

/-- a resource: it owns the addresses `fp` -/
structure Res where
  fp : List Addr
  holds : Heap → Prop
  loc : ∀ {h h' : Heap}, (∀ b ∈ fp, ∀ o, h.get? b = some o → h'.get? b = some o) → holds h → holds h'
  live : ∀ {h : Heap}, holds h → ∀ b ∈ fp, b < h.objs.size

def Res.fact (r : Res) : Fact := ⟨r.holds, fun k x => r.loc (fun b _ o e => k b o e) x⟩

abbrev fps (R : List Res) : List Addr := R.flatMap (·.fp)

structure Tab where
  c : Addr
  P : Addr
  ps : Array Value

structure Dat where
  hb : Heap
  tabs : List Tab
  os : OsState
  ng : Nat

abbrev Dat.withNg (D : Dat) (n : Nat) : Dat := { D with ng := n }
abbrev Dat.Ps (D : Dat) : List Addr := D.tabs.map (·.P)
abbrev Dat.base (D : Dat) : Heap := hideAll D.hb D.Ps
abbrev seen (D : Dat) (R : List Res) (h : Heap) : Heap := hideAll h (D.Ps ++ fps R)

/-- the generators: all bare, and no fewer than D.ng -/
def GOk (D : Dat) (g : Array GenState) : Prop := AllBare g ∧ D.ng ≤ g.size
def TabNow (t : Tab) (h : Heap) : Prop := ∃ more, h.IsCode t.c t.P (t.ps ++ more) ∧ h.TableAt t.c t.P (t.ps ++ more)

structure At (D : Dat) (Fs : List Fact) (R : List Res) (s : Shared) : Prop where
  os : s.os = D.os
  gens : GOk D s.gens
  tab : ∀ t ∈ D.tabs, TabNow t s.heap
  cs : ∀ t ∈ D.tabs, ∃ o, (seen D R s.heap).get? t.c = some o
  nodup : (D.Ps ++ fps R).Nodup
  res : ∀ r ∈ R, r.holds s.heap
  base : Ext D.base (seen D R s.heap)
  facts : ∀ F ∈ Fs, F.holds (seen D R s.heap)

/-- r replaced by r' at one place -/
inductive Rp (r r' : Res) : List Res → List Res → Prop
  | head {R} : Rp r r' (r :: R) (r' :: R)
  | tail {x R R'} : Rp r r' R R' → Rp r r' (x :: R) (x :: R')
/-- r taken out at one place -/
inductive Rm (r : Res) : List Res → List Res → Prop
  | head {R} : Rm r (r :: R) R
  | tail {x R R'} : Rm r R R' → Rm r (x :: R) (x :: R')
section
variable {D : Dat} {Fs Fs' : List Fact} {R R' : List Res} {s : Shared} {r r' : Res}

theorem TabNow.lt {t : Tab} {h : Heap} (x : TabNow t h) : t.P < h.objs.size := let ⟨_, a, _⟩ := x; a.lt.2
theorem TabNow.keep {t : Tab} {h h' : Heap} (x : TabNow t h) (hc : ∀ o, h.get? t.c = some o → h'.get? t.c = some o) (hP : ∀ o, h.get? t.P = some o → h'.get? t.P = some o) : TabNow t h' := by
  obtain ⟨more, ⟨o, vs, file, tf, flags, tg, inF, text, tt, op, a, r1, r2, r3, r4, r5, r6, b, q⟩, ⟨o2, vs2, a2, q2⟩, t2⟩ := x
  exact ⟨more, ⟨o, vs, file, tf, flags, tg, inF, text, tt, op, hc _ a, r1, r2, r3, r4, r5, r6, hP _ b, q⟩, ⟨o2, vs2, hc _ a2, q2⟩, hP _ t2⟩

theorem At.lt (H : At D Fs R s) : ∀ b ∈ D.Ps ++ fps R, b < s.heap.objs.size := by
  intro b hb
  rcases List.mem_append.mp hb with hb | hb
  · obtain ⟨t, ht, rfl⟩ := List.mem_map.mp hb
    exact (H.tab t ht).lt
  · obtain ⟨r, hr, hb⟩ := List.mem_flatMap.mp hb
    exact r.live (H.res r hr) b hb

theorem At.fact (H : At D Fs R s) {F : Fact} (hm : F ∈ Fs) : F.holds s.heap := F.mono (Ext.hide _ _) (H.facts F hm)
theorem At.ofBase (H : At D Fs R s) : Ext D.base s.heap := H.base.trans (Ext.hide _ _)

theorem At.toks (H : At D Fs R s) (t : Nat) : At D Fs R { s with toks := t } := ⟨H.os, H.gens, H.tab, H.cs, H.nodup, H.res, H.base, H.facts⟩

theorem At.sub (H : At D Fs R s) (hs : ∀ F ∈ Fs', F ∈ Fs) : At D Fs' R s := ⟨H.os, H.gens, H.tab, H.cs, H.nodup, H.res, H.base, fun F hF => H.facts F (hs F hF)⟩
theorem At.learn (H : At D Fs R s) {F G : Fact} (hm : F ∈ Fs) (h : ∀ h, F.holds h → G.holds h) : At D (G :: Fs) R s :=
  ⟨H.os, H.gens, H.tab, H.cs, H.nodup, H.res, H.base, fun F' hF => by
    rcases List.mem_cons.mp hF with rfl | hF
    · exact h _ (H.facts F hm)
    · exact H.facts F' hF⟩
theorem At.openF {ι : Sort _} (H : At D Fs R s) {F : Fact} {G : ι → Fact} (hm : F ∈ Fs) (h : ∀ h, F.holds h → ∃ x, (G x).holds h) : ∃ x, At D (G x :: Fs) R s := by
  obtain ⟨x, hx⟩ := h _ (H.facts F hm)
  refine ⟨x, H.os, H.gens, H.tab, H.cs, H.nodup, H.res, H.base, fun F' hF => ?_⟩
  rcases List.mem_cons.mp hF with rfl | hF
  · exact hx
  · exact H.facts F' hF

/-- everything stays; new facts -/
theorem At.grow {h' : Heap} {gens' : Array GenState} {tk : Nat} (H : At D Fs R s) (hx : Ext s.heap h') (hg : GOk D gens')
    (hF : ∀ F ∈ Fs', F ∈ Fs ∨ F.holds (seen D R h')) : At D Fs' R { s with heap := h', gens := gens', toks := tk } := by
  have hv : Ext (seen D R s.heap) (seen D R h') := Ext.hide_mono (fun b o _ e => hx b o e) fun b hb hn => absurd hb hn
  refine ⟨H.os, hg, fun t ht => (H.tab t ht).keep (fun o e => hx _ o e) (fun o e => hx _ o e), fun t ht => let ⟨o, ho⟩ := H.cs t ht; ⟨o, hv _ _ ho⟩, H.nodup,
    fun r hr => r.loc (fun b _ o e => hx b o e) (H.res r hr), H.base.trans hv, fun F hm => ?_⟩
  rcases hF F hm with h | h
  · exact F.mono hv (H.facts F h)
  · exact h
theorem At.keeps {h' : Heap} {tk : Nat} (H : At D Fs R s) (hx : Ext s.heap h') : At D Fs R { s with heap := h', toks := tk } :=
  H.grow (gens' := s.gens) hx H.gens fun _ h => .inl h

def Cell (a : Addr) (o : Obj) : Fact := ⟨fun h => h.get? a = some o, fun k e => k a o e⟩

theorem At.alloc {o : Obj} (H : At D Fs R s) (hf : o.isFreed = false) {tk : Nat} : At D (Cell s.heap.objs.size o :: Fs) R { s with heap := s.heap.push o, toks := tk } :=
  H.grow (gens' := s.gens) (Ext.push _ _) H.gens fun F hF => by
    rcases List.mem_cons.mp hF with rfl | hF
    · exact .inr (hideAll_get _ (Heap.get?_push_size _ hf) fun hm => Nat.lt_irrefl _ (H.lt _ hm))
    · exact .inl hF

/-- a new resource over new addresses -/
theorem At.own {h' : Heap} {gens' : Array GenState} {tk : Nat} (H : At D Fs R s) (hx : Ext s.heap h') (hg : GOk D gens') (hr : r.holds h') (hn : r.fp.Nodup) (hnew : ∀ b ∈ r.fp, s.heap.objs.size ≤ b) :
    At D Fs (r :: R) { s with heap := h', gens := gens', toks := tk } := by
  have old : ∀ b o, b ∉ D.Ps ++ fps R → s.heap.get? b = some o → b ∉ D.Ps ++ fps (r :: R) := fun b o nb e m => by
    rcases List.mem_append.mp m with m | m
    · exact nb (List.mem_append_left _ m)
    · rcases List.mem_append.mp (show b ∈ r.fp ++ fps R from m) with m | m
      · exact absurd (Heap.lt_size e) (Nat.not_lt.mpr (hnew b m))
      · exact nb (List.mem_append_right _ m)
  have hv : Ext (seen D R s.heap) (seen D (r :: R) h') := fun b o e => hideAll_get _ (hx b o (of_hideAll _ e)) (old b o (hide_not_mem e) (of_hideAll _ e))
  refine ⟨H.os, hg, fun t ht => (H.tab t ht).keep (fun o e => hx _ o e) (fun o e => hx _ o e), fun t ht => let ⟨o, ho⟩ := H.cs t ht; ⟨o, hv _ _ ho⟩, ?_, ?_, H.base.trans hv, fun F hF => F.mono hv (H.facts F hF)⟩
  · have h0 := H.nodup
    rw [List.nodup_append] at h0 ⊢
    obtain ⟨n1, n2, n3⟩ := h0
    refine ⟨n1, ?_, fun a ha b hb => ?_⟩
    · show (r.fp ++ fps R).Nodup
      rw [List.nodup_append]
      refine ⟨hn, n2, fun a ha b hb e => ?_⟩
      subst e
      exact absurd (H.lt a (List.mem_append_right _ hb)) (Nat.not_lt.mpr (hnew a ha))
    · rcases List.mem_append.mp (show b ∈ r.fp ++ fps R from hb) with hb | hb
      · rintro rfl
        exact absurd (H.lt a (List.mem_append_left _ ha)) (Nat.not_lt.mpr (hnew a hb))
      · exact n3 a ha b hb
  · intro r' hr'
    rcases List.mem_cons.mp hr' with rfl | hr'
    · exact hr
    · exact r'.loc (fun b _ o e => hx b o e) (H.res r' hr')

theorem Rp.fps_eq (h : Rp r r' R R') (e : r'.fp = r.fp) : fps R' = fps R := by
  induction h with
  | head => simp only [fps, List.flatMap_cons, e]
  | tail _ ih => simp only [fps, List.flatMap_cons] at ih ⊢; rw [ih]
theorem Rp.mem (h : Rp r r' R R') : r ∈ R := by
  induction h with
  | head => exact .head _
  | tail _ ih => exact .tail _ ih
theorem Rp.split (h : Rp r r' R R') : ∃ A B, R = A ++ r :: B ∧ R' = A ++ r' :: B := by
  induction h with
  | head => exact ⟨[], _, rfl, rfl⟩
  | tail _ ih => obtain ⟨A, B, rfl, rfl⟩ := ih; exact ⟨_ :: A, B, rfl, rfl⟩

/-- the resource r is turned, all else stands -/
theorem At.upd {h' : Heap} {gens' : Array GenState} {tk : Nat} (H : At D Fs R s) (hp : Rp r r' R R') (e : r'.fp = r.fp) (hx : ∀ b o, b ∉ r.fp → s.heap.get? b = some o → h'.get? b = some o) (hr : r'.holds h')
    (hg : GOk D gens') : At D Fs R' { s with heap := h', gens := gens', toks := tk } := by
  have hfp := hp.fps_eq e
  have hin : ∀ b ∈ r.fp, b ∈ fps R := fun b hb => List.mem_flatMap.mpr ⟨r, hp.mem, hb⟩
  have hv : Ext (seen D R s.heap) (seen D R' h') := by
    unfold seen
    rw [hfp]
    exact Ext.hide_mono (fun b o nb e => hx b o (fun m => nb (List.mem_append_right _ (hin b m))) e) fun b hb hn => absurd hb hn
  obtain ⟨A, B, eA, eB⟩ := hp.split
  have nd := H.nodup
  refine ⟨H.os, hg, fun t ht => ?_, fun t ht => let ⟨o, ho⟩ := H.cs t ht; ⟨o, hv _ _ ho⟩, by rw [hfp]; exact H.nodup, fun x hx' => ?_, H.base.trans hv, fun F hF => F.mono hv (H.facts F hF)⟩
  · obtain ⟨oc, hoc⟩ := H.cs t ht
    have nc := hide_not_mem hoc
    refine (H.tab t ht).keep (fun o e => hx _ o (fun m => nc (List.mem_append_right _ (hin _ m))) e) fun o e => hx _ o (fun m => ?_) e
    exact (List.nodup_append.mp nd).2.2 _ (List.mem_map.mpr ⟨t, ht, rfl⟩) _ (hin _ m) rfl
  · subst eA eB
    have key : ∀ y ∈ A ++ B, ∀ b ∈ y.fp, b ∉ r.fp := by
      intro y hy b hb hb'
      have n2 := (List.nodup_append.mp nd).2.1
      rw [fps, List.flatMap_append, List.flatMap_cons] at n2
      rcases List.mem_append.mp hy with hy | hy
      · exact (List.nodup_append.mp n2).2.2 b (List.mem_flatMap.mpr ⟨y, hy, hb⟩) b (List.mem_append_left _ hb') rfl
      · have n3 := (List.nodup_append.mp n2).2.1
        exact (List.nodup_append.mp n3).2.2 b hb' b (List.mem_flatMap.mpr ⟨y, hy, hb⟩) rfl
    rcases List.mem_append.mp hx' with hm | hm
    · exact x.loc (fun b hb o e => hx b o (key x (List.mem_append_left _ hm) b hb) e) (H.res x (List.mem_append_left _ hm))
    · rcases List.mem_cons.mp hm with rfl | hm
      · exact hr
      · exact x.loc (fun b hb o e => hx b o (key x (List.mem_append_right _ hm) b hb) e) (H.res x (List.mem_append_right _ (.tail _ hm)))

theorem Rm.split (h : Rm r R R') : ∃ A B, R = A ++ r :: B ∧ R' = A ++ B := by
  induction h with
  | head => exact ⟨[], _, rfl, rfl⟩
  | tail _ ih => obtain ⟨A, B, rfl, rfl⟩ := ih; exact ⟨_ :: A, B, rfl, rfl⟩

/-- r to the front -/
theorem At.front (H : At D Fs R s) (h : Rm r R R') : At D Fs (r :: R') s := by
  obtain ⟨A, B, rfl, rfl⟩ := h.split
  have hp : (A ++ r :: B).Perm (r :: (A ++ B)) := List.perm_middle
  have hf : (fps (A ++ r :: B)).Perm (fps (r :: (A ++ B))) := List.Perm.flatMap_right _ hp
  have hPf : (D.Ps ++ fps (A ++ r :: B)).Perm (D.Ps ++ fps (r :: (A ++ B))) := List.Perm.append_left _ hf
  have hv : Ext (seen D (A ++ r :: B) s.heap) (seen D (r :: (A ++ B)) s.heap) := Ext.hide_mono (fun _ _ _ e => e) fun b hb hn => absurd (hPf.mem_iff.mpr hb) hn
  exact ⟨H.os, H.gens, H.tab, fun t ht => let ⟨o, ho⟩ := H.cs t ht; ⟨o, hv _ _ ho⟩, hPf.nodup_iff.mp H.nodup, fun x hx => H.res x (hp.mem_iff.mpr hx), H.base.trans hv, fun F hF => F.mono hv (H.facts F hF)⟩

/-- the first resource is let go; what it says is a fact from now on -/
theorem At.freeze (H : At D Fs (r :: R) s) : At D (r.fact :: Fs) R s := by
  have hv : Ext (seen D (r :: R) s.heap) (seen D R s.heap) := Ext.hide_mono (fun _ _ _ e => e) fun b hb hn => by
    refine absurd ?_ hn
    rcases List.mem_append.mp hb with h | h
    · exact List.mem_append_left _ h
    · exact List.mem_append_right _ (List.mem_append_right r.fp h)
  have nd := H.nodup
  refine ⟨H.os, H.gens, H.tab, fun t ht => let ⟨o, ho⟩ := H.cs t ht; ⟨o, hv _ _ ho⟩, ?_, fun x hx => H.res x (.tail _ hx), H.base.trans hv, fun F hF => ?_⟩
  · rw [List.nodup_append] at nd ⊢
    exact ⟨nd.1, (List.nodup_append.mp (show (r.fp ++ fps R).Nodup from nd.2.1)).2.1, fun a ha b hb => nd.2.2 a ha b (List.mem_append_right r.fp hb)⟩
  · rcases List.mem_cons.mp hF with rfl | hF
    · refine r.loc (fun b hb o e => ?_) (H.res r (.head _))
      refine hideAll_get _ e fun hm => ?_
      rw [List.nodup_append] at nd
      rcases List.mem_append.mp hm with h | h
      · exact nd.2.2 b h b (List.mem_append_left _ hb) rfl
      · exact (List.nodup_append.mp (show (r.fp ++ fps R).Nodup from nd.2.1)).2.2 b hb b h rfl
    · exact F.mono hv (H.facts F hF)
theorem At.drop (H : At D Fs (r :: R) s) : At D Fs R s := H.freeze.sub fun _ h => .tail _ h
end
end Mine

namespace Mine

/-- enough room for n more levels -/
structure Ok (A : Around) (n : Nat) : Prop where
  handled : A.handled = none
  depth : A.depth + n ≤ 900
  units : A.units + 16 * n ≤ 4000
theorem Ok.mono {A : Around} {n k : Nat} (h : Ok A n) (hk : k ≤ n) : Ok A k := ⟨h.handled, by have := h.depth; omega, by have := h.units; omega⟩
theorem Ok.in1 {A : Around} {n : Nat} (h : Ok A (n + 1)) : Ok A.in1 n := ⟨h.handled, by have := h.depth; show A.depth + n ≤ _; omega, by have := h.units; show A.units + 1 + 16 * n ≤ _; omega⟩
theorem Ok.deeper {A : Around} {n : Nat} (h : Ok A (n + 1)) (e : Env) : Ok (A.deeper e) n := ⟨h.handled, by have := h.depth; show A.depth + 1 + n ≤ _; omega, by have := h.units; show A.units + 3 + 16 * n ≤ _; omega⟩
theorem Ok.room {A : Around} {n : Nat} (h : Ok A n) : A.depth < recursionLimit := by have := h.depth; unfold recursionLimit; omega
theorem Ok.cl {A : Around} {n : Nat} (h : Ok A n) : A.units < cLine := by have := h.units; have := cLine_is; omega

structure Wd (K : Frag) (D : Dat) : Prop where
  K : K.In D.base
  names : ∃ mg mb, D.base.Ns mainGlobals mg ∧ D.base.Ns builtinsNs mb ∧ ∀ x : Str, x ≠ "__name__" → mb x = bootBuiltins x
  lim : D.base.NoLimit
  bmod : ∃ mg bm ob, D.base.Ns mainGlobals mg ∧ mg "__builtins__" = some (.ref bm) ∧ bm ≠ builtinsNs ∧ D.base.get? bm = some ob ∧ ob.cls = .type "module" ∧ ob.dict = some builtinsNs ∧ ob.data = .plain

def Loc (L : Addr) (m : Str → Option Value) : Res :=
  ⟨[L], fun h => h.Ns L m, fun k x => x.at' fun o e => k L (.head _) o e, fun x b hb => by rw [List.mem_singleton.mp hb]; exact x.lt⟩
def Lst (l : Addr) (vs : List Value) : Res :=
  ⟨[l], fun h => h.PlainList l vs.toArray, fun k x => x.at fun o e => k l (.head _) o e, fun x b hb => by obtain ⟨_, e⟩ := x; rw [List.mem_singleton.mp hb]; exact Heap.lt_size e⟩
def ListF (l : Addr) (vs : List Value) : Fact := ⟨fun h => h.PlainList l vs.toArray, fun k x => x.at fun o e => k l o e⟩
def TupF (t : Addr) (vs : List Value) : Fact := ⟨fun h => h.IsTuple t vs.toArray, fun k ⟨o, e, r⟩ => ⟨o, k _ _ e, r⟩⟩
def CellF (c : Addr) (v : Value) : Fact := ⟨fun h => h.IsCell c (some v), fun k x => x.keeps k⟩

section
variable {prog : Program} {w : World} {M : Model} {A : Around} {E : Value → Shared → Prop} {D : Dat} {Fs : List Fact} {R R' : List Res} {s : Shared} {env : Env} {K : Frag}
variable {L : Addr} {m : Str → Option Value} {x : Str} {pos : Pos} {v : Value} {a b : Int} {t u : Tok} {Q : Value → Shared → Prop}

theorem At.toks' (H : At D Fs R s) {g : Array GenState} (hg : g = s.gens) (d : Drawn) (tk : Nat) : At D Fs R { s with gens := g, drawn := d, toks := tk } :=
  ⟨H.os, hg ▸ H.gens, H.tab, H.cs, H.nodup, H.res, H.base, H.facts⟩
theorem At.ns (H : At D Fs R s) (hm : Loc L m ∈ R) : s.heap.Ns L m := H.res _ hm
theorem At.kin (W : Wd K D) (H : At D Fs R s) : K.In s.heap := W.K.keeps H.ofBase
theorem At.lim (W : Wd K D) (H : At D Fs R s) : s.heap.NoLimit := W.lim.keeps H.ofBase

theorem r_ld (H : At D Fs R s) (hm : Loc env.locals m ∈ R) (hv : m x = some v) (h : Q v s) (hk : env.scope.kind = .function) (hl : env.kindOf x = some .local) (hd : (x == ("__debug__" : Str)) = false) :
    wpAny M A (eval (.Name x pos) env) Q E s := wpAny_Name (wpAny_loadName_local hk hl (H.ns hm) hv h) hd
theorem r_ldn (H : At D Fs R s) (hm : Loc env.locals m ∈ R) (hv : m x = some v) (h : Q v s) (hk : env.scope.kind = .function) (hl : env.kindOf x = some .local) :
    wpAny M A (loadName env x) Q E s := wpAny_loadName_local hk hl (H.ns hm) hv h
theorem r_ldcell {c : Addr} (H : At D Fs R s) (hm : CellF c v ∈ Fs) (hc : env.cells.lookup x = some c) (h : Q v s) (hk : env.scope.kind = .function) (hl : env.kindOf x = some .cell) (hd : (x == ("__debug__" : Str)) = false) :
    wpAny M A (eval (.Name x pos) env) Q E s := wpAny_Name (wpAny_loadName_cell hk hl hc (H.fact hm) h) hd
theorem r_ldfree {c : Addr} (H : At D Fs R s) (hm : CellF c v ∈ Fs) (hc : env.cells.lookup x = some c) (h : Q v s) (hk : env.scope.kind = .function) (hl : env.kindOf x = some .free) (hd : (x == ("__debug__" : Str)) = false) (hn : (x == ("__classdict__" : Str)) = false) :
    wpAny M A (eval (.Name x pos) env) Q E s := wpAny_Name (wpAny_loadName_free hk hl hc (H.fact hm) h hn) hd
theorem r_ldglob (W : Wd K D) (H : At D Fs R s) (e : nsIn K mainGlobals x = some (some v)) (h : Q v s) (hk : env.scope.kind = .function) (hg : env.globals = mainGlobals) (hl : env.kindOf x = some .globalImplicit) (hd : (x == ("__debug__" : Str)) = false) :
    wpAny M A (eval (.Name x pos) env) Q E s := by
  obtain ⟨mg, mb, g, _, _⟩ := W.names
  refine Calls.Name_function_global hk hl (Calls.loadGlobal_global (mg := mg) (by rw [hg]; exact g.keeps H.ofBase) (mg_of W.K g e) h) hd
theorem r_ldbuiltin (W : Wd K D) (H : At D Fs R s) (e : nsIn K mainGlobals x = some none) (hv : bootBuiltins x = some v) (h : Q v s) (hn : x ≠ "__name__") (hk : env.scope.kind = .function) (hg : env.globals = mainGlobals) (hb : env.builtins = builtinsNs)
    (hl : env.kindOf x = some .globalImplicit) (hd : (x == ("__debug__" : Str)) = false) : wpAny M A (eval (.Name x pos) env) Q E s := by
  obtain ⟨mg, mb, g, b, bi⟩ := W.names
  exact Calls.Name_function_global hk hl (Calls.loadGlobal_builtin (mg := mg) (mb := mb) (by rw [hg]; exact g.keeps H.ofBase) (mg_none_of W.K g e) (by rw [hb]; exact b.keeps H.ofBase) ((bi x hn).trans hv) h) hd

theorem r_st {Q : Unit → Shared → Prop} (H : At D Fs R s) (hp : Rp (Loc env.locals m) (Loc env.locals fun y => if y = x then some v else m y) R R') (h : ∀ s', At D Fs R' s' → Q () s')
    (hk : env.scope.kind = .function) (hl : env.kindOf x = some .local) : wpAny M A (storeName env x v) Q E s :=
  wpAny_storeName_local hl (H.ns hp.mem) (fun h' hn hs => h _ (H.upd hp rfl (fun b o nb e => hs.extBut b o (fun q => nb (List.mem_singleton.mpr q)) e) hn H.gens)) (by rw [hk]; rfl)

theorem r_int {k : Nat} (H : At D Fs R s) (h : ∀ t s', At D Fs R s' → Q (.int a t) s') : wpAny M A (eval (.Constant (.int a) k pos) env) Q E s := wpAny_Constant_int (h _ _ (H.toks _))

section
variable (H : At D Fs R s)
include H
theorem r_add (h : ∀ t s', At D Fs R s' → Q (.int (a + b) t) s') : wpAny (model prog w) A (binaryOp .Add (.int a t) (.int b u)) Q E s := add_int (h _ _ (H.toks _))
theorem r_sub (h : ∀ t s', At D Fs R s' → Q (.int (a - b) t) s') : wpAny (model prog w) A (binaryOp .Sub (.int a t) (.int b u)) Q E s := sub_int (h _ _ (H.toks _))
theorem r_mul (hb : IntMulOk a b) (h : ∀ t s', At D Fs R s' → Q (.int (a * b) t) s') : wpAny (model prog w) A (binaryOp .Mult (.int a t) (.int b u)) Q E s := mul_int (h _ _ (H.toks _)) hb
theorem r_mod (hb : b ≠ 0) (h : ∀ t s', At D Fs R s' → Q (.int (a.fmod b) t) s') : wpAny (model prog w) A (binaryOp .Mod (.int a t) (.int b u)) Q E s := mod_int' hb (h _ _ (H.toks _))
theorem r_fdiv (hb : b ≠ 0) (hd : Builtin.divisionGoesByPylong a b = false) (h : ∀ t s', At D Fs R s' → Q (.int (a.fdiv b) t) s') : wpAny (model prog w) A (binaryOp .FloorDiv (.int a t) (.int b u)) Q E s := floordiv_int hb (h _ _ (H.toks _)) (.inl hd)
theorem r_and (h : ∀ t s', At D Fs R s' → Q (.int (Builtin.bitAnd a b) t) s') : wpAny (model prog w) A (binaryOp .BitAnd (.int a t) (.int b u)) Q E s := and_int (h _ _ (H.toks _))
theorem r_iadd (h : ∀ t s', At D Fs R s' → Q (.int (a + b) t) s') : wpAny (model prog w) A (inplaceOp .Add (.int a t) (.int b u)) Q E s := iadd_int (h _ _ (H.toks _))
theorem r_isub (h : ∀ t s', At D Fs R s' → Q (.int (a - b) t) s') : wpAny (model prog w) A (inplaceOp .Sub (.int a t) (.int b u)) Q E s := isub_int (h _ _ (H.toks _))
theorem r_imod (hb : b ≠ 0) (h : ∀ t s', At D Fs R s' → Q (.int (a.fmod b) t) s') : wpAny (model prog w) A (inplaceOp .Mod (.int a t) (.int b u)) Q E s := imod_int hb (h _ _ (H.toks _))
theorem r_irsh (hb : 0 ≤ b) (h : ∀ t s', At D Fs R s' → Q (.int (a.fdiv (2 ^ b.toNat)) t) s') : wpAny (model prog w) A (inplaceOp .RShift (.int a t) (.int b u)) Q E s := irshift_int hb (h _ _ (H.toks _))
theorem r_neg (h : ∀ t s', At D Fs R s' → Q (.int (-a) t) s') : wpAny (model prog w) A (unaryOp .USub (.int a t)) Q E s := neg_int (h _ _ (H.toks _))
theorem r_abs (h : ∀ t s', At D Fs R s' → Q (.int (if a < 0 then -a else a) t) s') : wpAny (model prog w) A (call (.builtin "abs") [.int a t]) Q E s := call_abs_int fun _ _ => h _ _ (H.toks _)
end
end
end Mine

namespace Mine
section
variable {prog : Program} {w : World} {M : Model} {A : Around} {E : Value → Shared → Prop} {D : Dat} {Fs : List Fact} {R R' : List Res} {s : Shared} {env : Env} {K : Frag} {n : Nat}
variable {L : Addr} {m : Str → Option Value} {x : Str} {pos : Pos} {v : Value} {a b : Int} {t u : Tok} {Q : Value → Shared → Prop}

abbrev Bs (l : List (Str × Value)) : Str → Option Value := fun y => l.lookup y
theorem isTup {h : Heap} {t : Addr} {vs : List Value} (x : (TupF t vs).holds h) : IsTup h t vs.toArray := x
theorem isTuple {h : Heap} {t : Addr} {vs : List Value} (x : (TupF t vs).holds h) : h.IsTuple t vs.toArray := x
theorem nd1 {α : Type} (a : α) : [a].Nodup := by simp
/-- what a call gives back -/
def Ret (Q : Value → Shared → Prop) : Result → Shared → Prop := fun r s' => match r with
  | .ok (.ret v) => Q v s'
  | _ => False
theorem r_use {f : Value} {vals : List Value} (h : codeAny M A (.call f ⟨vals, []⟩) (Ret Q) s) : wpAny M A (call f vals) Q E s :=
  wpAny_call (codeAny_mono h fun r s' q => by
    cases r with
    | error e => exact q.elim
    | ok f => cases f <;> exact q)
/-- a plain def is called: its frame -/
theorem r_call {name qual : Str} {params : Arguments} {body : List Stmt} {scope : Scope} {dV kV doc pm cdv ct oc : Value} {an od : Option Addr} {osl : Array (Option Value)} {f : Addr} {vals : List Value} {binds : List (Str × Value)}
    (W : Wd K D) (H : At D Fs R s) (hA : Ok A n) (ho : K.lookup f = some ⟨oc, od, .func (fnOf name qual params body scope dV kV doc pm an cdv ct), osl⟩) (hcd : codeIn K cdv qual = true)
    (hbind : bindArgs (fnOf name qual params body scope dV kV doc pm an cdv ct) ⟨vals, []⟩ = pure binds) (hloc : ∀ y ∈ binds, scope.names.lookup y.1 = some .local)
    (hm : (fun y => binds.reverse.lookup y) = m)
    (h : ∀ L s', At D Fs (Loc L m :: R) s' → wpAny (model prog w) (A.deeper (envOf qual scope L f cdv)) (execs body (envOf qual scope L f cdv)) (fun fl s' => Q (match fl with | .ret v => v | _ => .none) s') (fun _ _ => False) s')
    (hcell : ∀ x ∈ scope.names, x.2 ≠ .cell) (hco : scope.isCoroutine = false) (hgen : scope.isGenerator = false) (hk : scope.kind = .function) : codeAny (model prog w) A (.call (.ref f) ⟨vals, []⟩) (Ret Q) s := by
  refine (codeAny_call_def (R := Ret Q) (fd := fnOf name qual params body scope dV kV doc pm an cdv ct) (body := body) (binds := binds) hA.room ((At.kin W H) _ _ ho) rfl (H.lim W) (codeRec_of (At.kin W H) hcd) rfl (BindsTo.of_eq hbind) hcell hloc (fun h₁ hns hk₁ => ?_) hco hgen hk)
  rw [hm] at hns
  exact wpAny_mono (h s.heap.objs.size _ (H.own (r := Loc _ _) (gens' := s.gens) (tk := s.toks + binds.length) hk₁ H.gens hns (nd1 _) fun b hb => by rw [List.mem_singleton.mp hb]; exact Nat.le_refl _)) (fun _ _ q => q) fun _ _ f => f.elim

/-- a def with cells is called -/
theorem r_callc {name qual : Str} {params : Arguments} {body : List Stmt} {scope : Scope} {dV kV doc pm cdv ct oc : Value} {an od : Option Addr} {osl : Array (Option Value)} {f : Addr} {vals : List Value} {binds : List (Str × Value)}
    {m : Addr → Str → Option Value} {cm : Addr → List (Addr × Value)}
    (W : Wd K D) (H : At D Fs R s) (hA : Ok A n) (ho : K.lookup f = some ⟨oc, od, .func (fnOf name qual params body scope dV kV doc pm an cdv ct), osl⟩) (hcd : codeIn K cdv qual = true)
    (hbind : bindArgs (fnOf name qual params body scope dV kV doc pm an cdv ct) ⟨vals, []⟩ = pure binds)
    (hkind : (binds.all fun y => scope.names.lookup y.1 == some .local || scope.names.lookup y.1 == some .cell) = true)
    (hm : ∀ L, bindL (envOfC qual scope L f cdv).kindOf binds (fun _ => none) = m L)
    (hcm : ∀ L, cm L = (cellsFrom (L + 1) scope.names []).filterMap fun p => (bindC (envOfC qual scope L f cdv).kindOf binds (fun _ => none) p.1).map fun v => (p.2, v))
    (hnd : ((cellsFrom 0 scope.names []).map (·.1)).Nodup)
    (h : ∀ L s', At D ((cm L).map (fun p => CellF p.1 p.2) ++ Fs) (Loc L (m L) :: R) s' →
      wpAny (model prog w) (A.deeper (envOfC qual scope L f cdv)) (execs body (envOfC qual scope L f cdv)) (fun fl s' => Q (match fl with | .ret v => v | _ => .none) s') (fun _ _ => False) s')
    (hco : scope.isCoroutine = false) (hgen : scope.isGenerator = false) (hk : scope.kind = .function) : codeAny (model prog w) A (.call (.ref f) ⟨vals, []⟩) (Ret Q) s := by
  refine (codeAny_call_cells (R := Ret Q) (fd := fnOf name qual params body scope dV kV doc pm an cdv ct) (body := body) (binds := binds) hA.room ((At.kin W H) _ _ ho) rfl (H.lim W) (codeRec_of (At.kin W H) hcd) rfl hbind rfl (kindsX hkind _) (fun s₁ x => ?_) hco hgen hk)
  obtain ⟨h₁, tk, rfl, hk₁⟩ := x.done
  have Hn : At D Fs (Loc s.heap.objs.size (m s.heap.objs.size) :: R) { s with heap := h₁, toks := tk } :=
    H.own (r := Loc _ _) (gens' := s.gens) (tk := tk) hk₁ H.gens (by rw [← hm]; exact x.toInCall.ns) (nd1 _) fun b hb => by rw [List.mem_singleton.mp hb]; exact Nat.le_refl _
  have above : ∀ p ∈ cellsFrom (s.heap.objs.size + 1) scope.names [], s.heap.objs.size < p.2 := fun p hp => x.above p.1 p.2 hp
  refine wpAny_mono (h s.heap.objs.size _ (Hn.grow (h' := h₁) (gens' := s.gens) (tk := tk) (Ext.refl _) H.gens fun F hF => ?_)) (fun _ _ q => q) fun _ _ f => f.elim
  rcases List.mem_append.mp hF with hF | hF
  · obtain ⟨p, hp, rfl⟩ := List.mem_map.mp hF
    rw [hcm] at hp
    obtain ⟨q, hq, e⟩ := List.mem_filterMap.mp hp
    obtain ⟨v, hv, rfl⟩ := Option.map_eq_some_iff.mp e
    right
    have hc := x.cell q.1 q.2 (lookup_of_mem_nodup (cellsFrom_names scope.names 0 (s.heap.objs.size + 1) [] [] rfl ▸ hnd) hq)
    rw [show bindC (callEnvC (fnOf name qual params body scope dV kV doc pm an cdv ct) s.heap.objs.size f).kindOf binds (fun _ => none) q.1 = some v from hv] at hc
    obtain ⟨o, ho, hd⟩ := hc
    refine ⟨o, hideAll_get _ ho fun hmem => ?_, hd⟩
    have hlt := above q hq
    rcases List.mem_append.mp hmem with hmem | hmem
    · exact absurd (H.lt _ (List.mem_append_left _ hmem)) (Nat.not_lt.mpr (Nat.le_of_lt hlt))
    · rcases List.mem_append.mp (show q.2 ∈ [s.heap.objs.size] ++ fps R from hmem) with hmem | hmem
      · exact absurd (List.mem_singleton.mp hmem) (Nat.ne_of_gt hlt)
      · exact absurd (H.lt _ (List.mem_append_right _ hmem)) (Nat.not_lt.mpr (Nat.le_of_lt hlt))
  · exact .inl hF

theorem r_lenL {l : Addr} {vs : List Value} (H : At D Fs R s) (hm : ListF l vs ∈ Fs) (hz : vs.length < 2 ^ 60) (h : ∀ t s', At D Fs R s' → Q (.int vs.length t) s') : wpAny (model prog w) A (call (.builtin "len") [.ref l]) Q E s :=
  Calls.call_len_list (Heap.PlainList.isList (H.fact hm)) (by simp; omega) (by simpa using h _ _ (H.toks _))
theorem r_lenR {l : Addr} {vs : List Value} (H : At D Fs R s) (hm : Lst l vs ∈ R) (hz : vs.length < 2 ^ 60) (h : ∀ t s', At D Fs R s' → Q (.int vs.length t) s') : wpAny (model prog w) A (call (.builtin "len") [.ref l]) Q E s :=
  Calls.call_len_list (Heap.PlainList.isList (H.res _ hm)) (by simp; omega) (by simpa using h _ _ (H.toks _))
theorem r_lenT {l : Addr} {vs : List Value} (H : At D Fs R s) (hm : TupF l vs ∈ Fs) (hz : vs.length < 2 ^ 60) (h : ∀ t s', At D Fs R s' → Q (.int vs.length t) s') : wpAny (model prog w) A (call (.builtin "len") [.ref l]) Q E s :=
  len_tuple (isTup (H.fact hm)) (by simp; omega) (by simpa using h _ _ (H.toks _))
theorem r_itemL {value slice : Expr} {l : Addr} {vs : List Value} {k : Int} (H : At D Fs R s) (hm : ListF l vs ∈ Fs) (h0 : 0 ≤ k) (h1 : k < 2 ^ 60) (hx : vs[k.toNat]? = some v) (h : Q v s)
    (hs : subscripted slice false (.ref l) (.int k u) = operate [.ref l, .int k u] (getItem (.ref l) (.int k u))) : wpAny (model prog w) A (subscriptTail value slice (.ref l) (.int k u)) Q E s :=
  have hL := Heap.PlainList.isList (H.fact hm)
  tail_any (Heap.IsList.typeIs hL) slot_list_getitem.lookup (wpAny_getItem_list hL h0 (by omega) (by simpa using hx) h) hs
theorem r_itemR {value slice : Expr} {l : Addr} {vs : List Value} {k : Int} (H : At D Fs R s) (hm : Lst l vs ∈ R) (h0 : 0 ≤ k) (h1 : k < 2 ^ 60) (hx : vs[k.toNat]? = some v) (h : Q v s)
    (hs : subscripted slice false (.ref l) (.int k u) = operate [.ref l, .int k u] (getItem (.ref l) (.int k u))) : wpAny (model prog w) A (subscriptTail value slice (.ref l) (.int k u)) Q E s :=
  have hL := Heap.PlainList.isList (H.res _ hm)
  tail_any (Heap.IsList.typeIs hL) slot_list_getitem.lookup (wpAny_getItem_list hL h0 (by omega) (by simpa using hx) h) hs
theorem r_itemT {value slice : Expr} {l : Addr} {vs : List Value} {k : Int} (H : At D Fs R s) (hm : TupF l vs ∈ Fs) (h0 : 0 ≤ k) (h1 : k < 2 ^ 60) (hx : vs[k.toNat]? = some v) (h : Q v s)
    (hs : subscripted slice false (.ref l) (.int k u) = operate [.ref l, .int k u] (getItem (.ref l) (.int k u))) : wpAny (model prog w) A (subscriptTail value slice (.ref l) (.int k u)) Q E s := by
  have hlt : k.toNat < vs.length := (List.getElem?_eq_some_iff.mp hx).1
  refine item_tupleT (isTup (H.fact hm)) (by omega) (by omega) (j := k.toNat) ?_ (by simpa using hx) h hs
  have c1 : (if k < 0 then k + ((vs.toArray.size : Nat) : Int) else k) = k := if_neg (by omega)
  have c2 : (decide (0 ≤ k) && decide (k < ((vs.toArray.size : Nat) : Int))) = true := by
    rw [Bool.and_eq_true, decide_eq_true_eq, decide_eq_true_eq]
    exact ⟨h0, by simp; omega⟩
  unfold seqIndex?
  simp only [List.size_toArray] at c1 c2 ⊢
  simp only [c1, c2, if_true]
theorem r_giL {l : Addr} {vs : List Value} {k : Int} (H : At D Fs R s) (hm : ListF l vs ∈ Fs) (h0 : 0 ≤ k) (h1 : k < 2 ^ 60) (hx : vs[k.toNat]? = some v) (h : Q v s) : wpAny (model prog w) A (getItem (.ref l) (.int k u)) Q E s :=
  wpAny_getItem_list (Heap.PlainList.isList (H.fact hm)) h0 (by omega) (by simpa using hx) h
theorem r_giR {l : Addr} {vs : List Value} {k : Int} (H : At D Fs R s) (hm : Lst l vs ∈ R) (h0 : 0 ≤ k) (h1 : k < 2 ^ 60) (hx : vs[k.toNat]? = some v) (h : Q v s) : wpAny (model prog w) A (getItem (.ref l) (.int k u)) Q E s :=
  wpAny_getItem_list (Heap.PlainList.isList (H.res _ hm)) h0 (by omega) (by simpa using hx) h
end
end Mine

namespace Mine

def Inst (h : Heap) (x C : Addr) (m : Str → Option Value) : Prop := ∃ dx, h.get? x = some (instObj C dx) ∧ h.Ns dx m
def InstF (x C : Addr) (m : Str → Option Value) : Fact := ⟨fun h => Inst h x C m, fun k ⟨dx, a, b⟩ => ⟨dx, k _ _ a, b.keeps k⟩⟩

/-- an own object's dict while __init__ runs -/
def DRes (dx : Addr) (m : Str → Option Value) (ns : List Str) : Res :=
  ⟨[dx], fun h => h.Ns1 dx m ∧ Within m ns, fun k x => ⟨x.1.at fun o e => k dx (.head _) o e, x.2⟩, fun x b hb => by rw [List.mem_singleton.mp hb]; exact x.1.ns.lt⟩

theorem lookIn_ns {h : Heap} {dx : Addr} {m : Str → Option Value} (n : h.Ns dx m) : ∃ od, h.get? dx = some od ∧ ∀ name, lookIn name od = some (m name) := by
  obtain ⟨o, es, ep, ho, hd, hk, hm⟩ := n
  refine ⟨o, ho, fun name => ?_⟩
  unfold lookIn
  rw [hd]
  dsimp only
  have e : (es.toList.find? fun x => x.key.isStr name) = es.find? fun x => x.key.isStr name := by
    rw [Array.find?_toList]
  have hr : (es.toList.any fun x => x.refKey) = false := by
    rw [List.any_eq_false]
    intro en hen
    obtain ⟨n, t, q⟩ := hk en (Array.mem_toList_iff.mp hen)
    simp [DictEntry.refKey, q]
  have hm' := hm name
  unfold nsFind findBy at hm'
  rw [e]
  cases q : es.find? fun x => x.key.isStr name with
  | none => rw [q] at hm'; rw [hr]; simp at hm' ⊢; exact hm'
  | some en => rw [q] at hm'; simp at hm' ⊢; exact hm'
theorem Inst.at {h : Heap} {x C : Addr} {m : Str → Option Value} (I : Inst h x C m) : ∃ ox od, InstAt h x ox C (some od) ∧ ∀ name, lookIn name od = some (m name) := by
  obtain ⟨dx, hx, hn⟩ := I
  obtain ⟨od, h1, h2⟩ := lookIn_ns hn
  exact ⟨_, od, ⟨hx, rfl, rfl, h1⟩, h2⟩

section
variable {prog : Program} {w : World} {M : Model} {A : Around} {E : Value → Shared → Prop} {D : Dat} {Fs : List Fact} {R R' : List Res} {s : Shared} {env : Env} {K : Frag} {n : Nat}
variable {L y C : Addr} {m : Str → Option Value} {x : Str} {pos : Pos} {v : Value} {a b : Int} {t u : Tok} {Q : Value → Shared → Prop}

theorem r_attr {name : Str} {attr : Option Value} {expr : Bool} (W : Wd K D) (H : At D Fs R s) (hm : InstF y C m ∈ Fs) (hg : plainGet K C name = true) (hh : hasDictIn K C = true) (ha : findIn K (.ref C) name = some attr) (hn : noGet K attr = true)
    (hl : m name = some v) (hv : handedIn v = true) (h : ∀ s', At D Fs R s' → Q v s') : wpAny (model prog w) A (getAttr (.ref y) name expr) Q E s := by
  obtain ⟨ox, od, I, hlk⟩ := Inst.at (H.fact hm)
  exact get_value (At.kin W H) I (plainGet_of hg).1 (findObj_own hh ha hn ((hlk name).trans (by rw [hl]))) hv (h _ (H.toks _))
theorem r_attrR {name : Str} {attr : Option Value} {expr : Bool} {dx : Addr} {ns : List Str} (W : Wd K D) (H : At D Fs R s) (hx : Cell y (instObj C dx) ∈ Fs) (hm : DRes dx m ns ∈ R) (hg : plainGet K C name = true) (hh : hasDictIn K C = true) (ha : findIn K (.ref C) name = some attr) (hn : noGet K attr = true)
    (hl : m name = some v) (hv : handedIn v = true) (h : ∀ s', At D Fs R s' → Q v s') : wpAny (model prog w) A (getAttr (.ref y) name expr) Q E s := by
  obtain ⟨ox, od, I, hlk⟩ := Inst.at ⟨dx, H.fact hx, (H.res _ hm).1.ns⟩
  exact get_value (At.kin W H) I (plainGet_of hg).1 (findObj_own hh ha hn ((hlk name).trans (by rw [hl]))) hv (h _ (H.toks _))
theorem r_meth {name : Str} {pl : Sem Bool} {f : Addr} {Q : Value × List Value → Shared → Prop} (W : Wd K D) (H : At D Fs R s) (hm : InstF y C m ∈ Fs) (hg : plainGet K C name = true) (hf : findIn K (.ref C) name = some (some (.ref f))) (ht : isFn K (.ref f) = true)
    (hl : m name = none) (h : Q (.ref f, [.ref y]) s) : wpAny (model prog w) A (getMethod (.ref y) name pl) Q E s := by
  obtain ⟨ox, od, I, hlk⟩ := Inst.at (H.fact hm)
  exact method_fn (At.kin W H) I (plainGet_of hg).1 (plainGet_of hg).2 hf (beq_iff_eq.mp ht) (by show (lookIn name od).map _ = _; rw [hlk, hl]; rfl) h

theorem r_isi_int {c : Value} {r : Bool} (W : Wd K D) (H : At D Fs R s) (e : kitOne K (.type "int") c = some r) (h : ∀ s', At D Fs R s' → Q (.bool r) s') : wpAny (model prog w) A (call (.builtin "isinstance") [.int a t, c]) Q E s :=
  kia_one kitx_int (At.kin W H) trivial e (by intro q; cases q) fun _ => h _ (H.toks _)
theorem r_isi_inst {c : Value} {r : Bool} (W : Wd K D) (H : At D Fs R s) (hm : InstF y C m ∈ Fs) (e : kitOne K (.ref C) c = some r) (hg : plainGet K C "__class__" = true) (hdct : hasDictIn K C = true) (ha : findIn K (.ref C) "__class__" = some (some (.builtin "object.__class__")))
    (hn : specialIn K (.builtin "object.__class__") "__get__" = some (some (.builtin "getset_descriptor.__get__"))) (htk : takesIn K (.builtin "object.__class__") = some true) (hmr : mroIn K C (.type "object") = some true)
    (h : ∀ s', At D Fs R s' → Q (.bool r) s') : wpAny (model prog w) A (call (.builtin "isinstance") [.ref y, c]) Q E s := by
  obtain ⟨ox, od, I, hlk⟩ := Inst.at (H.fact hm)
  exact kia_one (kitx_own (ox := ox) hg hdct ha hn htk hmr) (At.kin W H) I e (by intro q; cases q) fun _ => h _ (H.toks _)
theorem r_isi_intT {tp : Addr} {its : List Value} {r : Bool} {nn : Nat} (W : Wd K D) (H : At D Fs R s) (ht : Cell tp ⟨.type "tuple", none, .seq its.toArray nn, #[]⟩ ∈ Fs) (e : kitAny K (.type "int") its = some r) (h : ∀ s', At D Fs R s' → Q (.bool r) s') : wpAny (model prog w) A (call (.builtin "isinstance") [.int a t, .ref tp]) Q E s :=
  kia_tup kitx_int (At.kin W H) trivial (H.fact ht) e (by intro q; cases q) fun _ => h _ (H.toks _)
theorem r_isi_instT {tp : Addr} {its : List Value} {r : Bool} {nn : Nat} (W : Wd K D) (H : At D Fs R s) (hm : InstF y C m ∈ Fs) (ht : Cell tp ⟨.type "tuple", none, .seq its.toArray nn, #[]⟩ ∈ Fs) (e : kitAny K (.ref C) its = some r) (hg : plainGet K C "__class__" = true) (hdct : hasDictIn K C = true) (ha : findIn K (.ref C) "__class__" = some (some (.builtin "object.__class__")))
    (hn : specialIn K (.builtin "object.__class__") "__get__" = some (some (.builtin "getset_descriptor.__get__"))) (htk : takesIn K (.builtin "object.__class__") = some true) (hmr : mroIn K C (.type "object") = some true)
    (h : ∀ s', At D Fs R s' → Q (.bool r) s') : wpAny (model prog w) A (call (.builtin "isinstance") [.ref y, .ref tp]) Q E s := by
  obtain ⟨ox, od, I, hlk⟩ := Inst.at (H.fact hm)
  exact kia_tup (kitx_own (ox := ox) hg hdct ha hn htk hmr) (At.kin W H) I (H.fact ht) e (by intro q; cases q) fun _ => h _ (H.toks _)

theorem r_new {rest : List Value} {fI : Addr} (W : Wd K D) (H : At D Fs R s) (hm : makesIn K C = true) (hi : findIn K (.ref C) "__init__" = some (some (.ref fI))) (hf : isFn K (.ref fI) = true)
    (h : ∀ x dx s', At D (Cell x (instObj C dx) :: Fs) (DRes dx (fun _ => none) [] :: R) s' →
      codeAny (model prog w) (A.under (.builtin "type.__call__" ⟨.ref C :: rest, []⟩)) (.call (.ref fI) ⟨.ref x :: rest, []⟩) (Ret fun v s'' => v = .none ∧ Q (.ref x) s'') s') :
    codeAny (model prog w) A (.call (.ref C) ⟨rest, []⟩) (Ret Q) s := by
  have X := At.kin W H
  obtain ⟨hh, g, d, t, os⟩ := s
  refine make_core (makes_of X hm) (looks_findIn X hi) (fun self => bind_fn X self (beq_iff_eq.mp hf)) (.inl rfl) ?_
  have e1 : Ext hh (hh.push emptyDict) := Ext.push _ _
  have H1 := H.own (r := DRes hh.objs.size (fun _ => none) []) (h' := hh.push emptyDict) (gens' := g) (tk := t) e1 H.gens ⟨Heap.Ns1.of_empty (Heap.Ns.new hh (.type "dict")), Within.nil⟩ (nd1 _) fun b hb => by rw [List.mem_singleton.mp hb]; exact Nat.le_refl _
  have H2 := H1.alloc (o := instObj C hh.objs.size) rfl (tk := t)
  have sz : (hh.push emptyDict).objs.size = hh.objs.size + 1 := Heap.size_push ..
  simp only [sz] at H2
  refine codeAny_mono (h _ _ _ H2) fun r s' q => ?_
  cases r with
  | error e => exact q.elim
  | ok f => cases f <;> first | exact q.elim | exact q

/-- self.name = v while __init__ runs -/
theorem r_setattr {name : Str} {dx : Addr} {ns : List Str} {Q : Unit → Shared → Prop} (W : Wd K D) (H : At D Fs R s) (hx : Cell y (instObj C dx) ∈ Fs) (hp : Rp (DRes dx m ns) (DRes dx (fun z => if z = name then some v else m z) (name :: ns)) R R')
    (hs : findIn K (.ref C) "__setattr__" = some (some (.builtin "object.__setattr__"))) (ho : plainOver K C = true) (ht : takerIn K C name = some none) (hh : hasDictIn K C = true) (hz : ns.length ≤ 100)
    (h : ∀ s', At D Fs R' s' → Q () s') : wpAny (model prog w) A (setAttr (.ref y) name v) Q E s := by
  obtain ⟨h0, g0, d0, t0, os0⟩ := s
  have X := At.kin W H
  have ex := H.fact hx
  obtain ⟨hn1, hw⟩ := H.res _ hp.mem
  have hn := hn1.ns
  obtain ⟨od, hod, hlk⟩ := lookIn_ns hn
  have I : InstAt h0 y (instObj C dx) C (some od) := ⟨ex, rfl, rfl, hod⟩
  refine set_plain X I hs (osa_open (s := ⟨h0, g0, d0, t0 + 1, os0⟩) X I ho ht fun b => ?_)
  obtain ⟨cd, hc, hd⟩ := any_some hh
  have LC := looks_clsIn (M := model prog w) X hc
  refine wpAny_bind (wpAny_pure (wpAny_bind (wpAny_bind (wpAny_loadPart ex (wpAny_bind (LC.at ?_))))))
  rw [hd]
  refine wpAny_pure (a := some dx) (wpAny_bind (wpAny_pure (wpAny_bind (wpAny_nsSet1 hn1 fun h' hn' hs' => ?_))))
  obtain ⟨o', es', ep', ho', hd', hsz⟩ := hn'.count (hw.cons name v)
  refine wpAny_bind (wpAny_lookBehind ho' (by rw [hd']; refine pastItsLine_dict ?_; simp only [List.length_cons] at hsz; rw [sizeLine_eq]; omega) ?_)
  exact wpAny_pure (h _ (H.upd hp rfl (fun b o nb e => hs'.extBut b o (fun q => nb (List.mem_singleton.mpr q)) e) ⟨hn', hw.cons name v⟩ H.gens))
end
end Mine

namespace Mine

/-- the locals that we know of -/
def Vars (L : Addr) (l : List (Str × Value)) : Res :=
  ⟨[L], fun h => ∃ m, h.Ns L m ∧ ∀ x v, l.lookup x = some v → m x = some v, fun k ⟨m, n, e⟩ => ⟨m, n.at' fun o e => k L (.head _) o e, e⟩, fun ⟨_, n, _⟩ b hb => by rw [List.mem_singleton.mp hb]; exact n.lt⟩
def CellR (c : Addr) (ov : Option Value) : Res :=
  ⟨[c], fun h => h.IsCell c ov, fun k ⟨o, e, r⟩ => ⟨o, k c (.head _) o e, r⟩, fun ⟨_, e, _⟩ b hb => by rw [List.mem_singleton.mp hb]; exact Heap.lt_size e⟩

inductive SetV (x : Str) (v : Value) : List (Str × Value) → List (Str × Value) → Prop
  | nil : SetV x v [] [(x, v)]
  | head {u l} : SetV x v ((x, u) :: l) ((x, v) :: l)
  | tail {y u l l'} : (x == y) = false → SetV x v l l' → SetV x v ((y, u) :: l) ((y, u) :: l')
theorem SetV.lookup {x : Str} {v : Value} {l l' : List (Str × Value)} (h : SetV x v l l') (z : Str) : l'.lookup z = if z = x then some v else l.lookup z := by
  induction h with
  | nil => by_cases e : z = x
           · simp [List.lookup_cons, e]
           · have : (z == x) = false := by simpa using e
             simp [List.lookup_cons, e, this]
  | @head u l => by_cases e : z = x
                 · simp [List.lookup_cons, e]
                 · have : (z == x) = false := by simpa using e
                   simp [List.lookup_cons, e, this]
  | @tail y u l l' hne _ ih =>
    by_cases e : z = x
    · subst e; simp only [List.lookup_cons, hne]; rw [ih]; simp
    · simp only [List.lookup_cons]; rw [ih]; simp [e]

/-- every binding of l' is one of l -/
def SubV (l l' : List (Str × Value)) : Prop := ∀ x v, l'.lookup x = some v → l.lookup x = some v
theorem SubV.nil {l : List (Str × Value)} : SubV l [] := fun _ _ e => by cases e
theorem SubV.cons {l l' : List (Str × Value)} {x : Str} {v : Value} (h : l.lookup x = some v) (k : SubV l l') : SubV l ((x, v) :: l') := fun z u e => by
  rw [List.lookup_cons] at e
  by_cases q : z = x
  · subst q; simp at e; subst e; exact h
  · have : (z == x) = false := by simpa using q
    rw [this] at e; exact k z u e
theorem SubV.refl {l : List (Str × Value)} : SubV l l := fun _ _ e => e

theorem mem_hd {α : Type _} {a : α} {l : List α} : a ∈ a :: l := .head _
theorem mem_tl {α : Type _} {a b : α} {l : List α} (h : a ∈ l) : a ∈ b :: l := .tail _ h
theorem subf_refl {Fs : List Fact} : ∀ F ∈ Fs, F ∈ Fs := fun _ h => h
theorem subf_nil {Fs : List Fact} : ∀ F ∈ ([] : List Fact), F ∈ Fs := fun _ h => absurd h List.not_mem_nil
theorem subf_cons {F : Fact} {Fs' Fs : List Fact} (h : F ∈ Fs) (k : ∀ G ∈ Fs', G ∈ Fs) : ∀ G ∈ F :: Fs', G ∈ Fs := fun G hG => by
  rcases List.mem_cons.mp hG with rfl | hG
  · exact h
  · exact k G hG
theorem subf_drop {F : Fact} {Fs' Fs : List Fact} (k : ∀ G ∈ Fs', G ∈ Fs) : ∀ G ∈ Fs', G ∈ F :: Fs := fun G hG => .tail _ (k G hG)
theorem allB_nil {m : Str → Option Value} : ∀ p ∈ ([] : List (Str × Value)), m p.1 = some p.2 := fun _ h => absurd h List.not_mem_nil
theorem allB_cons {m : Str → Option Value} {x : Str} {v : Value} {l : List (Str × Value)} (h : m x = some v) (k : ∀ p ∈ l, m p.1 = some p.2) : ∀ p ∈ (x, v) :: l, m p.1 = some p.2 := fun p hp => by
  rcases List.mem_cons.mp hp with rfl | hp
  · exact h
  · exact k p hp
theorem locals_envOf {name : Str} {scope : Scope} {L a : Addr} {cd : Value} : (envOf name scope L a cd).locals = L := rfl
theorem locals_envOfC {name : Str} {scope : Scope} {L a : Addr} {cd : Value} : (envOfC name scope L a cd).locals = L := rfl
theorem locals_compEnvC {scope : Scope} {cl : List (Str × Addr)} {C : Addr} {env : Env} : (compEnvC scope cl C env).locals = C := rfl

/-- r says no less than r', over the same addresses -/
structure Imp (r r' : Res) : Prop where
  fp : r.fp = r'.fp
  holds : ∀ h, r.holds h → r'.holds h
theorem Imp.refl {r : Res} : Imp r r := ⟨rfl, fun _ h => h⟩
theorem Imp.vars {L : Addr} {l l' : List (Str × Value)} (h : SubV l l') : Imp (Vars L l) (Vars L l') := ⟨rfl, fun _ ⟨m, n, e⟩ => ⟨m, n, fun x v q => e x v (h x v q)⟩⟩
inductive Sub : List Res → List Res → Prop
  | nil {R} : Sub R []
  | cons {r r' R R₁ R'} : Imp r r' → Rm r R R₁ → Sub R₁ R' → Sub R (r' :: R')
theorem Rm.perm {r : Res} {R R' : List Res} (h : Rm r R R') : R.Perm (r :: R') := by
  induction h with
  | head => exact .refl _
  | tail _ ih => exact (List.Perm.cons _ ih).trans (List.Perm.swap ..)
theorem Sub.fps {R R' : List Res} (h : Sub R R') : ∃ X, (fps R).Perm (fps R' ++ X) := by
  induction h with
  | @nil R => exact ⟨Mine.fps R, by simp [Mine.fps]⟩
  | @cons r r' R R₁ R' i rm _ ih =>
    obtain ⟨X, hX⟩ := ih
    refine ⟨X, ((List.Perm.flatMap_right _ rm.perm).trans ?_)⟩
    simp only [Mine.fps, List.flatMap_cons, i.fp, List.append_assoc] at hX ⊢
    exact List.Perm.append_left _ hX
theorem Sub.holds {R R' : List Res} (h : Sub R R') {hp : Heap} (k : ∀ r ∈ R, r.holds hp) : ∀ r ∈ R', r.holds hp := by
  induction h with
  | nil => intro r hr; cases hr
  | @cons r r' R R₁ R' i rm _ ih =>
    intro x hx
    rcases List.mem_cons.mp hx with rfl | hx
    · exact i.holds _ (k _ (rm.perm.mem_iff.mpr (.head _)))
    · exact ih (fun y hy => k y (rm.perm.mem_iff.mpr (.tail _ hy))) x hx

section
variable {D : Dat} {Fs Fs' : List Fact} {R R' : List Res} {s : Shared} {r r' : Res}
theorem At.to (H : At D Fs R s) (h : Sub R R') : At D Fs R' s := by
  obtain ⟨X, hX⟩ := h.fps
  have hv : Ext (seen D R s.heap) (seen D R' s.heap) := Ext.hide_mono (fun _ _ _ e => e) fun b hb hn => by
    refine absurd ?_ hn
    rcases List.mem_append.mp hb with h | h
    · exact List.mem_append_left _ h
    · exact List.mem_append_right _ (hX.mem_iff.mpr (List.mem_append_left _ h))
  refine ⟨H.os, H.gens, H.tab, fun t ht => let ⟨o, ho⟩ := H.cs t ht; ⟨o, hv _ _ ho⟩, ?_, h.holds H.res, H.base.trans hv, fun F hF => F.mono hv (H.facts F hF)⟩
  have nd := ((List.Perm.append_left D.Ps hX).nodup_iff).mp H.nodup
  rw [← List.append_assoc] at nd
  exact (List.nodup_append.mp nd).1
theorem At.to' (H : At D Fs R s) (h : Sub R R') (hs : ∀ F ∈ Fs', F ∈ Fs) : At D Fs' R' s := (H.to h).sub hs

/-- many new resources at once -/
theorem At.ownL {Rn : List Res} {h' : Heap} {gens' : Array GenState} {tk : Nat} (H : At D Fs R s) (hx : Ext s.heap h') (hg : GOk D gens') (hr : ∀ r ∈ Rn, r.holds h') (hn : (fps Rn).Nodup) (hnew : ∀ b ∈ fps Rn, s.heap.objs.size ≤ b) :
    At D Fs (Rn ++ R) { s with heap := h', gens := gens', toks := tk } := by
  have efp : fps (Rn ++ R) = fps Rn ++ fps R := List.flatMap_append
  have old : ∀ b o, b ∉ D.Ps ++ fps R → s.heap.get? b = some o → b ∉ D.Ps ++ fps (Rn ++ R) := fun b o nb e m => by
    rcases List.mem_append.mp m with m | m
    · exact nb (List.mem_append_left _ m)
    · rw [efp] at m
      rcases List.mem_append.mp m with m | m
      · exact absurd (Heap.lt_size e) (Nat.not_lt.mpr (hnew b m))
      · exact nb (List.mem_append_right _ m)
  have hv : Ext (seen D R s.heap) (seen D (Rn ++ R) h') := fun b o e => hideAll_get _ (hx b o (of_hideAll _ e)) (old b o (hide_not_mem e) (of_hideAll _ e))
  refine ⟨H.os, hg, fun t ht => (H.tab t ht).keep (fun o e => hx _ o e) (fun o e => hx _ o e), fun t ht => let ⟨o, ho⟩ := H.cs t ht; ⟨o, hv _ _ ho⟩, ?_, ?_, H.base.trans hv, fun F hF => F.mono hv (H.facts F hF)⟩
  · have h0 := H.nodup
    rw [List.nodup_append] at h0 ⊢
    obtain ⟨n1, n2, n3⟩ := h0
    refine ⟨n1, ?_, fun a ha b hb => ?_⟩
    · rw [efp, List.nodup_append]
      refine ⟨hn, n2, fun a ha b hb e => ?_⟩
      subst e
      exact absurd (H.lt a (List.mem_append_right _ hb)) (Nat.not_lt.mpr (hnew a ha))
    · rw [efp] at hb
      rcases List.mem_append.mp hb with hb | hb
      · rintro rfl
        exact absurd (H.lt a (List.mem_append_left _ ha)) (Nat.not_lt.mpr (hnew a hb))
      · exact n3 a ha b hb
  · intro r' hr'
    rcases List.mem_append.mp hr' with hr' | hr'
    · exact hr r' hr'
    · exact r'.loc (fun b _ o e => hx b o e) (H.res r' hr')

/-- a resource is turned and let go -/
theorem At.updDrop {h' : Heap} {gens' : Array GenState} {tk : Nat} (H : At D Fs R s) (hp : Rm r R R') (hx : ∀ b o, b ∉ r.fp → s.heap.get? b = some o → h'.get? b = some o)
    (hg : GOk D gens') : At D Fs R' { s with heap := h', gens := gens', toks := tk } := by
  have H1 := H.front hp
  have nd := H1.nodup
  rw [List.nodup_append] at nd
  have efp : fps (r :: R') = r.fp ++ fps R' := rfl
  have hv : Ext (seen D (r :: R') s.heap) (seen D R' h') := fun b o e => by
    have nb := hide_not_mem e
    refine hideAll_get _ (hx b o (fun m => nb (List.mem_append_right _ (by rw [efp]; exact List.mem_append_left _ m))) (of_hideAll _ e)) fun m => ?_
    rcases List.mem_append.mp m with m | m
    · exact nb (List.mem_append_left _ m)
    · exact nb (List.mem_append_right _ (by rw [efp]; exact List.mem_append_right _ m))
  have n2 := nd.2.1
  rw [efp, List.nodup_append] at n2
  refine ⟨H.os, hg, fun t ht => ?_, fun t ht => let ⟨o, ho⟩ := H1.cs t ht; ⟨o, hv _ _ ho⟩, ?_, fun x hx' => ?_, H1.base.trans hv, fun F hF => F.mono hv (H1.facts F hF)⟩
  · obtain ⟨oc, hoc⟩ := H1.cs t ht
    have nc := hide_not_mem hoc
    refine (H.tab t ht).keep (fun o e => hx _ o (fun m => nc (List.mem_append_right _ (by rw [efp]; exact List.mem_append_left _ m))) e) fun o e => hx _ o (fun m => ?_) e
    exact nd.2.2 _ (List.mem_map.mpr ⟨t, ht, rfl⟩) _ (by rw [efp]; exact List.mem_append_left _ m) rfl
  · rw [List.nodup_append]
    exact ⟨nd.1, n2.2.1, fun a ha b hb => nd.2.2 a ha b (by rw [efp]; exact List.mem_append_right _ hb)⟩
  · exact x.loc (fun b hb o e => hx b o (fun m => n2.2.2 b m b (List.mem_flatMap.mpr ⟨x, hx', hb⟩) rfl) e) (H1.res x (.tail _ hx'))
/-- the resource is let go and its word is a fact from now on -/
theorem At.fz (H : At D Fs R s) (h : Rm r R R') : At D (r.fact :: Fs) R' s := (H.front h).freeze
theorem At.fzL {l : Addr} {vs : List Value} (H : At D Fs R s) (h : Rm (Lst l vs) R R') : At D (ListF l vs :: Fs) R' s :=
  ((H.fz h).learn (G := ListF l vs) (.head _) fun _ x => x).sub fun F hF => by
    rcases List.mem_cons.mp hF with rfl | hF
    · exact .head _
    · exact .tail _ (.tail _ hF)
theorem At.fzC {c : Addr} {v : Value} (H : At D Fs R s) (h : Rm (CellR c (some v)) R R') : At D (CellF c v :: Fs) R' s :=
  ((H.fz h).learn (G := CellF c v) (.head _) fun _ x => x).sub fun F hF => by
    rcases List.mem_cons.mp hF with rfl | hF
    · exact .head _
    · exact .tail _ (.tail _ hF)
end

theorem mem_lookup {l : List (Str × Value)} {x : Str} {v : Value} (h : l.lookup x = some v) : (x, v) ∈ l := by
  induction l with
  | nil => cases h
  | cons p l ih =>
    obtain ⟨y, u⟩ := p
    rw [List.lookup_cons] at h
    by_cases e : x = y
    · subst e; simp at h; subst h; exact .head _
    · have : (x == y) = false := by simpa using e
      rw [this] at h; exact .tail _ (ih h)

section
variable {prog : Program} {w : World} {M : Model} {A : Around} {E : Value → Shared → Prop} {D : Dat} {Fs : List Fact} {R R' : List Res} {s : Shared} {env : Env} {K : Frag} {n : Nat}
variable {L : Addr} {l l' : List (Str × Value)} {x : Str} {pos : Pos} {v : Value} {a b : Int} {t u : Tok} {Q : Value → Shared → Prop}

theorem v_ld (hL : env.locals = L) (H : At D Fs R s) (hm : Vars L l ∈ R) (hv : l.lookup x = some v) (h : Q v s) (hk : env.scope.kind = .function) (hl : env.kindOf x = some .local) (hd : (x == ("__debug__" : Str)) = false) :
    wpAny M A (eval (.Name x pos) env) Q E s := by
  obtain ⟨m, n, e⟩ := H.res _ hm
  exact wpAny_Name (wpAny_loadName_local hk hl (hL ▸ n) (e _ _ hv) h) hd
theorem v_ldn (hL : env.locals = L) (H : At D Fs R s) (hm : Vars L l ∈ R) (hv : l.lookup x = some v) (h : Q v s) (hk : env.scope.kind = .function) (hl : env.kindOf x = some .local) :
    wpAny M A (loadName env x) Q E s := by
  obtain ⟨m, n, e⟩ := H.res _ hm
  exact wpAny_loadName_local hk hl (hL ▸ n) (e _ _ hv) h
theorem v_st {Q : Unit → Shared → Prop} (hL : env.locals = L) (H : At D Fs R s) (hp : Rp (Vars L l) (Vars L l') R R') (hs : SetV x v l l') (h : ∀ s', At D Fs R' s' → Q () s')
    (hk : env.scope.kind = .function) (hl : env.kindOf x = some .local) : wpAny M A (storeName env x v) Q E s := by
  obtain ⟨m, n, e⟩ := H.res _ hp.mem
  subst hL
  refine wpAny_storeName_local hl n (fun h' hn hs' => h _ (H.upd hp rfl (fun b o nb e => hs'.extBut b o (fun q => nb (List.mem_singleton.mpr q)) e) ⟨_, hn, fun y u q => ?_⟩ H.gens)) (by rw [hk]; rfl)
  rw [hs.lookup] at q
  by_cases c : y = x
  · simpa [c] using q
  · simp [c] at q ⊢; exact e _ _ q

theorem Sub.refl : ∀ R : List Res, Sub R R
  | [] => .nil
  | _ :: R => .cons .refl .head (Sub.refl R)

theorem Sub.drop {r : Res} {R R' : List Res} (h : Sub R R') : Sub (r :: R) R' := by
  induction h with
  | nil => exact .nil
  | cons i rm _ ih => exact .cons i (.tail rm) ‹_›
theorem fin_int {k j : Int} {Fs' : List Fact} (h : ∀ t s', At D Fs R s' → Q (.int k t) s') (H : At D Fs' R' s) (hs : Sub R' R) (hf : ∀ F ∈ Fs, F ∈ Fs') (e : k = j) : Q (.int j t) s := e ▸ h _ _ (H.to' hs hf)
theorem fin_ref {a : Addr} {Fs' Fn : List Fact} (h : ∀ s', At D (Fn ++ Fs) R s' → Q (.ref a) s') (H : At D Fs' R' s) (hs : Sub R' R) (hf : ∀ F ∈ Fn ++ Fs, F ∈ Fs') : Q (.ref a) s := h _ (H.to' hs hf)

/-- a plain def is called -/
theorem v_call {name qual : Str} {params : Arguments} {body : List Stmt} {scope : Scope} {dV kV doc pm cdv ct oc : Value} {an od : Option Addr} {osl : Array (Option Value)} {f : Addr} {vals : List Value} {binds : List (Str × Value)}
    (l : List (Str × Value))
    (W : Wd K D) (H : At D Fs R s) (hA : Ok A (n + 1)) (ho : K.lookup f = some ⟨oc, od, .func (fnOf name qual params body scope dV kV doc pm an cdv ct), osl⟩) (hcd : codeIn K cdv qual = true)
    (hbind : bindArgs (fnOf name qual params body scope dV kV doc pm an cdv ct) ⟨vals, []⟩ = pure binds) (hloc : ∀ y ∈ binds, scope.names.lookup y.1 = some .local)
    (hm : binds.reverse = l)
    (h : ∀ L s', Ok (A.deeper (envOf qual scope L f cdv)) n → At D Fs (Vars L l :: R) s' → wpAny (model prog w) (A.deeper (envOf qual scope L f cdv)) (execs body (envOf qual scope L f cdv)) (fun fl s' => Q (match fl with | .ret v => v | _ => .none) s') (fun _ _ => False) s')
    (hcell : ∀ x ∈ scope.names, x.2 ≠ .cell) (hco : scope.isCoroutine = false) (hgen : scope.isGenerator = false) (hk : scope.kind = .function) : codeAny (model prog w) A (.call (.ref f) ⟨vals, []⟩) (Ret Q) s := by
  refine r_call (m := fun y => binds.reverse.lookup y) W H hA ho hcd hbind hloc rfl (fun L s' H' => h L s' (hA.deeper _) ?_) hcell hco hgen hk
  exact H'.to (Sub.cons (r := Loc L fun y => binds.reverse.lookup y) (r' := Vars L l) ⟨rfl, fun h₁ x => ⟨_, x, fun y u q => hm ▸ q⟩⟩ .head (Sub.refl _))
/-- a def with cells is called: the bound cells are facts, the unbound ones resources -/
theorem v_callc {name qual : Str} {params : Arguments} {body : List Stmt} {scope : Scope} {dV kV doc pm cdv ct oc : Value} {an od : Option Addr} {osl : Array (Option Value)} {f : Addr} {vals : List Value} {binds : List (Str × Value)}
    (l : List (Str × Value)) (cm : Addr → List (Addr × Value)) (um : Addr → List Addr)
    (W : Wd K D) (H : At D Fs R s) (hA : Ok A (n + 1)) (ho : K.lookup f = some ⟨oc, od, .func (fnOf name qual params body scope dV kV doc pm an cdv ct), osl⟩) (hcd : codeIn K cdv qual = true)
    (hbind : bindArgs (fnOf name qual params body scope dV kV doc pm an cdv ct) ⟨vals, []⟩ = pure binds)
    (hkind : (binds.all fun y => scope.names.lookup y.1 == some .local || scope.names.lookup y.1 == some .cell) = true)
    (hm : ∀ L, ∀ p ∈ l, bindL (envOfC qual scope L f cdv).kindOf binds (fun _ => none) p.1 = some p.2)
    (hcm : ∀ L, cm L = (cellsFrom (L + 1) scope.names []).filterMap fun p => (bindC (envOfC qual scope L f cdv).kindOf binds (fun _ => none) p.1).map fun v => (p.2, v))
    (hum : ∀ L, um L = (cellsFrom (L + 1) scope.names []).filterMap fun p => if (bindC (envOfC qual scope L f cdv).kindOf binds (fun _ => none) p.1).isNone then some p.2 else none)
    (hnd : ((cellsFrom 0 scope.names []).map (·.1)).Nodup) (hud : ∀ L, (um L).Nodup)
    (h : ∀ L s', Ok (A.deeper (envOfC qual scope L f cdv)) n → At D ((cm L).map (fun p => CellF p.1 p.2) ++ Fs) (Vars L l :: ((um L).map fun c => CellR c none) ++ R) s' →
      wpAny (model prog w) (A.deeper (envOfC qual scope L f cdv)) (execs body (envOfC qual scope L f cdv)) (fun fl s' => Q (match fl with | .ret v => v | _ => .none) s') (fun _ _ => False) s')
    (hco : scope.isCoroutine = false) (hgen : scope.isGenerator = false) (hk : scope.kind = .function) : codeAny (model prog w) A (.call (.ref f) ⟨vals, []⟩) (Ret Q) s := by
  refine (codeAny_call_cells (R := Ret Q) (fd := fnOf name qual params body scope dV kV doc pm an cdv ct) (body := body) (binds := binds) hA.room ((At.kin W H) _ _ ho) rfl (H.lim W) (codeRec_of (At.kin W H) hcd) rfl hbind rfl (kindsX hkind _) (fun s₁ x => ?_) hco hgen hk)
  obtain ⟨h₁, tk, rfl, hk₁⟩ := x.done
  have above : ∀ p ∈ cellsFrom (s.heap.objs.size + 1) scope.names [], s.heap.objs.size < p.2 := fun p hp => x.above p.1 p.2 hp
  have cellAt : ∀ q ∈ cellsFrom (s.heap.objs.size + 1) scope.names [], h₁.IsCell q.2 (bindC (envOfC qual scope s.heap.objs.size f cdv).kindOf binds (fun _ => none) q.1) := fun q hq =>
    x.cell q.1 q.2 (lookup_of_mem_nodup (cellsFrom_names scope.names 0 (s.heap.objs.size + 1) [] [] rfl ▸ hnd) hq)
  have um_lt : ∀ b ∈ um s.heap.objs.size, ∃ q ∈ cellsFrom (s.heap.objs.size + 1) scope.names [], q.2 = b ∧ bindC (envOfC qual scope s.heap.objs.size f cdv).kindOf binds (fun _ => none) q.1 = none := fun b hb => by
    rw [hum] at hb
    obtain ⟨q, hq, e⟩ := List.mem_filterMap.mp hb
    by_cases c : (bindC (envOfC qual scope s.heap.objs.size f cdv).kindOf binds (fun _ => none) q.1).isNone
    · simp only [c, if_true] at e
      exact ⟨q, hq, by simpa using e, by simpa using c⟩
    · simp [c] at e
  have fpE : fps (Vars s.heap.objs.size l :: (um s.heap.objs.size).map fun c => CellR c none) = s.heap.objs.size :: um s.heap.objs.size := by
    show [s.heap.objs.size] ++ List.flatMap _ _ = _
    rw [List.flatMap_map]
    show s.heap.objs.size :: List.flatMap (fun a => [a]) _ = _
    rw [show List.flatMap (fun a => [a]) (um s.heap.objs.size) = um s.heap.objs.size from by induction um s.heap.objs.size with
      | nil => rfl
      | cons a r ih => simp [List.flatMap_cons]]
  have Hn : At D Fs ((Vars s.heap.objs.size l :: (um s.heap.objs.size).map fun c => CellR c none) ++ R) { s with heap := h₁, toks := tk } := by
    refine H.ownL (gens' := s.gens) (tk := tk) hk₁ H.gens (fun r hr => ?_) ?_ ?_
    · rcases List.mem_cons.mp hr with rfl | hr
      · exact ⟨_, x.toInCall.ns, fun y u q => hm _ _ (mem_lookup q)⟩
      · obtain ⟨c, hc, rfl⟩ := List.mem_map.mp hr
        obtain ⟨q, hq, rfl, e⟩ := um_lt c hc
        have := cellAt q hq
        rw [e] at this
        exact this
    · rw [fpE, List.nodup_cons]
      exact ⟨fun m => by obtain ⟨q, hq, e, _⟩ := um_lt _ m; have := above q hq; rw [e] at this; exact Nat.lt_irrefl _ this, hud _⟩
    · rw [fpE]
      intro b hb
      rcases List.mem_cons.mp hb with rfl | hb
      · exact Nat.le_refl _
      · obtain ⟨q, hq, rfl, _⟩ := um_lt b hb
        exact Nat.le_of_lt (above q hq)
  refine wpAny_mono (h s.heap.objs.size _ (hA.deeper _) (Hn.grow (h' := h₁) (gens' := s.gens) (tk := tk) (Ext.refl _) H.gens fun F hF => ?_)) (fun _ _ q => q) fun _ _ f => f.elim
  rcases List.mem_append.mp hF with hF | hF
  · obtain ⟨p, hp, rfl⟩ := List.mem_map.mp hF
    rw [hcm] at hp
    obtain ⟨q, hq, e⟩ := List.mem_filterMap.mp hp
    obtain ⟨v, hv, rfl⟩ := Option.map_eq_some_iff.mp e
    right
    have hc := cellAt q hq
    rw [hv] at hc
    obtain ⟨o, ho, hd⟩ := hc
    refine ⟨o, hideAll_get _ ho fun hmem => ?_, hd⟩
    have hlt := above q hq
    rcases List.mem_append.mp hmem with hmem | hmem
    · exact absurd (H.lt _ (List.mem_append_left _ hmem)) (Nat.not_lt.mpr (Nat.le_of_lt hlt))
    · rw [show fps ((Vars s.heap.objs.size l :: (um s.heap.objs.size).map fun c => CellR c none) ++ R) = (s.heap.objs.size :: um s.heap.objs.size) ++ fps R from by rw [← fpE]; exact List.flatMap_append] at hmem
      rcases List.mem_append.mp hmem with hmem | hmem
      · rcases List.mem_cons.mp hmem with hmem | hmem
        · exact absurd hmem (Nat.ne_of_gt hlt)
        · obtain ⟨q', hq', e', n'⟩ := um_lt _ hmem
          have c1 := cellAt q' hq'
          rw [n', e'] at c1
          obtain ⟨o1, h1, d1⟩ := c1
          rw [ho] at h1
          cases h1
          rw [hd] at d1
          simp at d1
      · exact absurd (H.lt _ (List.mem_append_right _ hmem)) (Nat.not_lt.mpr (Nat.le_of_lt hlt))
  · exact .inl hF

/-- a store into a cell variable -/
theorem v_stc {c : Addr} {ov : Option Value} {Q : Unit → Shared → Prop} (H : At D Fs R s) (hc : env.cells.lookup x = some c) (hp : Rp (CellR c ov) (CellR c (some v)) R R') (h : ∀ s', At D Fs R' s' → Q () s')
    (hk : env.scope.kind = .function) (hl : env.kindOf x = some .cell) : wpAny M A (storeName env x v) Q E s := by
  refine wpAny_storeName_cell hk hl hc (H.res _ hp.mem) fun h' hv hs => ?_
  exact h _ (H.upd (gens' := s.gens) (tk := s.toks) hp rfl (fun b o nb e => hs.extBut b o (fun q => nb (List.mem_singleton.mpr q)) e) hv H.gens)
end
end Mine

namespace Mine

/-- stops the walk -/
structure Hold (P : Prop) : Prop where
  out : P
def Tru : Fact := ⟨fun _ => True, fun _ _ => trivial⟩
def TgtOk : Bool → Expr → Prop
  | true, e => ∃ elts k pos, e = .Tuple elts k pos
  | false, e => ∃ x pos, e = .Name x pos

/-- an iterator: St i says where it stands, N what it leans on -/
structure Nexts (prog : Program) (w : World) (D : Dat) (pair : Bool) (it : Addr) (n : Nat) (St : Nat → Res) (N : Fact) (V : Nat → Value → Fact → Prop) : Prop where
  item : ∀ {target A E Fs R R' s i} {Q : Value → Shared → Prop}, TgtOk pair target → A.handled = none → i < n → At D Fs R s → N ∈ Fs → Rp (St i) (St (i + 1)) R R' →
    (∀ v F s', V i v F → At D (F :: Fs) R' s' → Q v s') →
    wpAny (model prog w) A (pyNext (.ref it)) (fun r s1 => ∃ v, r = some v ∧ wpAny (model prog w) A (letOwnedTupleGo target (.ref it) v) (fun _ s2 => Q v s2) E s1) E s
  done : ∀ {A E Fs R R' s} {Q : Option Value → Shared → Prop}, A.handled = none → At D Fs R s → N ∈ Fs → Rm (St n) R R' → (∀ s', At D Fs R' s' → Q none s') → wpAny (model prog w) A (pyNext (.ref it)) Q E s
  self : ∀ {A E Fs R s i} {Q : Value → Shared → Prop}, A.handled = none → At D Fs R s → N ∈ Fs → St i ∈ R → Q (.ref it) s → wpAny (model prog w) A (pyIter (.ref it)) Q E s

section
variable {prog : Program} {w : World} {D : Dat}

theorem letGo_name {x : Str} {pos : Pos} (it v : Value) : letOwnedTupleGo (.Name x pos) it v = pure () := rfl

/-- from the library's walk; `still`: a tuple target leaves the iterator as it is -/
theorem Nexts.ofWalks {pair : Bool} {I : Addr} {fp wr : List Addr} {n : Nat} {P : Nat → Value → Prop} {St₀ : Nat → Heap → Prop} {St : Nat → Res} {N : Fact}
    (W : ∀ A : Around, A.handled = none → Walks prog w A I fp wr n P St₀) (hSt : ∀ i, (St i).fp = wr)
    (join : ∀ i h, (St i).holds h → N.holds h → St₀ i h) (part : ∀ i h, St₀ i h → (St i).holds h)
    (still : ∀ i h, St₀ i h → ∃ o T, h.get? I = some o ∧ o.cls = .type T ∧ (["enumerate", "zip", "dict_itemiterator", "dict_reverseitemiterator", "odict_iterator", "itertools.zip_longest", "itertools.pairwise"].contains T) = false) :
    Nexts prog w D pair I n St N (fun i v F => P i v ∧ F = Tru) where
  item := by
    intro target A E Fs R R' s i Q ht hh hi H hN hp h
    refine (W A hh).item i s _ E hi (join _ _ (H.res _ hp.mem) (H.fact hN)) fun v h' tk hP hst hk => ⟨v, rfl, ?_⟩
    have H1 := H.upd (h' := h') (gens' := s.gens) (tk := tk) hp ((hSt _).trans (hSt _).symm) (fun b o nb e => hk b o (hSt i ▸ nb) e) (part _ _ hst) H.gens
    have H2 : At D (Tru :: Fs) R' { s with heap := h', toks := tk } := ⟨H1.os, H1.gens, H1.tab, H1.cs, H1.nodup, H1.res, H1.base, fun F hF => by
      rcases List.mem_cons.mp hF with rfl | hF
      · trivial
      · exact H1.facts F hF⟩
    have goal := h v Tru _ ⟨hP, rfl⟩ H2
    cases pair with
    | false => obtain ⟨x, pos, rfl⟩ := ht; exact wpAny_pure goal
    | true =>
      obtain ⟨elts, k, pos, rfl⟩ := ht
      obtain ⟨o, T, ho, hc, hT⟩ := still _ _ hst
      cases v with
      | ref a =>
        unfold letOwnedTupleGo
        refine wpAny_bind (wpAny_load ho ?_)
        rw [hc]
        split
        · rename_i n' vs e1 e2
          cases e1
          split
          · rename_i hh'
            rw [hT, Bool.false_and] at hh'; cases hh'
          · exact wpAny_pure goal
        · exact wpAny_pure goal
      | _ => exact wpAny_pure goal
  done := by
    intro A E Fs R R' s Q hh H hN hp h
    refine (W A hh).done s _ E (join _ _ (H.res _ (hp.perm.mem_iff.mpr (.head _))) (H.fact hN)) fun h' tk hk => ?_
    exact h _ (H.updDrop (h' := h') (gens' := s.gens) (tk := tk) hp (fun b o nb e => hk b o (hSt n ▸ nb) e) H.gens)
  self := by
    intro A E Fs R s i Q hh H hN hm h
    exact (W A hh).self i s Q E (join _ _ (H.res _ hm) (H.fact hN)) h

/-- from the library's walk over pairs -/
theorem Nexts.ofWalksT {I : Addr} {fp wr : List Addr} {n : Nat} {Pt : Nat → Array Value → Prop} {St₀ : Nat → Heap → Prop} {Mid : Nat → Addr → Heap → Prop} {St : Nat → Res} {N : Fact}
    (W : ∀ A : Around, A.handled = none → WalksT prog w A I fp wr n Pt St₀ Mid) (hSt : ∀ i, (St i).fp = wr)
    (join : ∀ i h, (St i).holds h → N.holds h → St₀ i h) (part : ∀ i h, St₀ i h → (St i).holds h) :
    Nexts prog w D true I n St N (fun i v F => ∃ T vals, v = .ref T ∧ Pt i vals ∧ F = TupF T vals.toList) where
  item := by
    rintro target A E Fs R R' s i Q ⟨elts, k, pos, rfl⟩ hh hi H hN hp h
    refine (W A hh).item i s _ E hi (join _ _ (H.res _ hp.mem) (H.fact hN)) fun T vals h' tk hP hge hT hmid hk => ⟨_, rfl, ?_⟩
    have hap := (W A hh).apart _ _ _ hmid
    refine (W A hh).go elts k pos i T _ _ E hmid fun h'' hst hk' => ?_
    have H1 := H.upd (h' := h'') (gens' := s.gens) (tk := tk) hp ((hSt _).trans (hSt _).symm) (fun b o nb e => hk' b o (hSt i ▸ nb) (hk b o (hSt i ▸ nb) e)) (part _ _ hst) H.gens
    refine h _ (TupF T vals.toList) _ ⟨T, vals, rfl, hP, rfl⟩ ⟨H1.os, H1.gens, H1.tab, H1.cs, H1.nodup, H1.res, H1.base, fun F hF => ?_⟩
    rcases List.mem_cons.mp hF with rfl | hF
    · obtain ⟨o, ho, r⟩ := hT
      refine ⟨o, hideAll_get _ (hk' _ _ hap ho) fun hm => ?_, by simpa using r⟩
      have := H.lt T (by
        have efp := hp.fps_eq ((hSt (i + 1)).trans (hSt i).symm)
        rw [efp] at hm; exact hm)
      exact absurd this (Nat.not_lt.mpr hge)
    · exact H1.facts F hF
  done := by
    intro A E Fs R R' s Q hh H hN hp h
    refine (W A hh).done s _ E (join _ _ (H.res _ (hp.perm.mem_iff.mpr (.head _))) (H.fact hN)) fun h' tk hk => ?_
    exact h _ (H.updDrop (h' := h') (gens' := s.gens) (tk := tk) hp (fun b o nb e => hk b o (hSt n ▸ nb) e) H.gens)
  self := by
    intro A E Fs R s i Q hh H hN hm h
    exact (W A hh).self i s Q E (join _ _ (H.res _ hm) (H.fact hN)) h
end

def LItR (I l : Addr) (i : Nat) : Res := ⟨[I], fun h => h.IsListIter I l i, fun k x => x.at fun o e => k I (.head _) o e, fun ⟨_, e, _⟩ b hb => by rw [List.mem_singleton.mp hb]; exact Heap.lt_size e⟩
def TItR (I l : Addr) (i : Nat) : Res := ⟨[I], fun h => h.IsTupleIter I l i, fun k x => x.at fun o e => k I (.head _) o e, fun ⟨_, e, _⟩ b hb => by rw [List.mem_singleton.mp hb]; exact Heap.lt_size e⟩
def RItR (I : Addr) (a c : Int) (n : Nat) (i : Nat) : Res := ⟨[I], fun h => IsRangeIter h I (a + (i : Nat) * c) ((n : Int) - (i : Nat)) c, fun k x => k I (.head _) _ x, fun x b hb => by rw [List.mem_singleton.mp hb]; exact Heap.lt_size x⟩

section
variable {prog : Program} {w : World} {M : Model} {A : Around} {E : Value → Shared → Prop} {D : Dat} {Fs : List Fact} {R R' : List Res} {s : Shared} {env : Env} {K : Frag} {n : Nat}
variable {x : Str} {pos : Pos} {v : Value} {t u : Tok} {Q : Value → Shared → Prop}

theorem nexts_list {pair : Bool} {I l : Addr} {vs : List Value} (hne : l ≠ I) : Nexts prog w D pair I vs.length (LItR I l) (ListF l vs) (fun i v F => vs[i]? = some v ∧ F = Tru) := by
  have e := Nexts.ofWalks (pair := pair) (D := D) (fun (A : Around) (hh : A.handled = none) => Walks.list (prog := prog) (w := w) hh I l hne vs.toArray) (St := LItR I l) (N := ListF l vs) (fun _ => rfl) (fun _ _ a b => ⟨a, Heap.PlainList.isList b⟩) (fun _ _ a => a.1)
    (fun _ _ a => let ⟨o, h, c, _⟩ := a.1; ⟨o, _, h, c, by decide⟩)
  simpa using e
theorem nexts_tuple {pair : Bool} {I l : Addr} {vs : List Value} (hne : l ≠ I) : Nexts prog w D pair I vs.length (TItR I l) (TupF l vs) (fun i v F => vs[i]? = some v ∧ F = Tru) := by
  have e := Nexts.ofWalks (pair := pair) (D := D) (fun (A : Around) (hh : A.handled = none) => Walks.tuple (prog := prog) (w := w) hh I l hne vs.toArray) (St := TItR I l) (N := TupF l vs) (fun _ => rfl) (fun _ _ a b => ⟨a, b⟩) (fun _ _ a => a.1)
    (fun _ _ a => let ⟨o, h, c, _⟩ := a.1; ⟨o, _, h, c, by decide⟩)
  simpa using e
theorem nexts_range {pair : Bool} {I : Addr} {a c : Int} {n : Nat} : Nexts prog w D pair I n (RItR I a c n) Tru (fun i v F => (∃ t, v = .int (a + i * c) t) ∧ F = Tru) :=
  Nexts.ofWalks (fun (A : Around) (hh : A.handled = none) => Walks.range hh I a c n) (fun _ => rfl) (fun _ _ a _ => a) (fun _ _ a => a) (fun _ _ a => ⟨_, _, a, rfl, by decide⟩)

theorem not_fps {F : Fact} (H : At D Fs R s) (hF : F ∈ Fs) {a : Addr} (hl : ∀ h, F.holds h → ∃ o, h.get? a = some o) : a ∉ D.Ps ++ fps R := by
  obtain ⟨o, ho⟩ := hl _ (H.facts F hF)
  exact hide_not_mem ho

/-- iter(list) -/
theorem r_iterL {l : Addr} {vs : List Value} (H : At D Fs R s) (hm : ListF l vs ∈ Fs)
    (h : ∀ I s', (∀ pair ng, Nexts prog w (D.withNg ng) pair I vs.length (LItR I l) (ListF l vs) (fun i v F => vs[i]? = some v ∧ F = Tru)) → At D Fs (LItR I l 0 :: R) s' → Q (.ref I) s') : wpAny (model prog w) A (pyIter (.ref l)) Q E s := by
  have hl := H.fact hm
  have hlt : l < s.heap.objs.size := by obtain ⟨_, e⟩ := hl; exact Heap.lt_size e
  refine wpAny_pyIter_list (Heap.PlainList.isList hl) (h _ _ (fun _ _ => nexts_list (Nat.ne_of_lt hlt)) ?_)
  exact H.own (r := LItR _ l 0) (gens' := s.gens) (tk := s.toks) (Ext.push _ _) H.gens ⟨_, Heap.get?_push_size _ rfl, rfl, rfl⟩ (nd1 _) fun b hb => by rw [List.mem_singleton.mp hb]; exact Nat.le_refl _
theorem r_iterLR {l : Addr} {vs : List Value} (H : At D Fs R s) (hm : Rm (Lst l vs) R R')
    (h : ∀ I s', (∀ pair ng, Nexts prog w (D.withNg ng) pair I vs.length (LItR I l) (ListF l vs) (fun i v F => vs[i]? = some v ∧ F = Tru)) → At D (ListF l vs :: Fs) (LItR I l 0 :: R') s' → Q (.ref I) s') : wpAny (model prog w) A (pyIter (.ref l)) Q E s :=
  r_iterL (H.fzL hm) (.head _) h
theorem r_iterT {l : Addr} {vs : List Value} (H : At D Fs R s) (hm : TupF l vs ∈ Fs)
    (h : ∀ I s', (∀ pair ng, Nexts prog w (D.withNg ng) pair I vs.length (TItR I l) (TupF l vs) (fun i v F => vs[i]? = some v ∧ F = Tru)) → At D Fs (TItR I l 0 :: R) s' → Q (.ref I) s') : wpAny (model prog w) A (pyIter (.ref l)) Q E s := by
  have hl := H.fact hm
  have hlt : l < s.heap.objs.size := by obtain ⟨_, e, _⟩ := hl; exact Heap.lt_size e
  refine wpAny_pyIter_tuple (isTuple hl) (h _ _ (fun _ _ => nexts_tuple (Nat.ne_of_lt hlt)) ?_)
  exact H.own (r := TItR _ l 0) (gens' := s.gens) (tk := s.toks) (Ext.push _ _) H.gens ⟨_, Heap.get?_push_size _ rfl, rfl, rfl⟩ (nd1 _) fun b hb => by rw [List.mem_singleton.mp hb]; exact Nat.le_refl _

def RangeF (r : Addr) (a b c : Int) : Fact := ⟨fun h => ∃ t u v, IsRange h r a b c t u v, fun k ⟨t, u, v, e⟩ => ⟨t, u, v, k _ _ e⟩⟩
theorem r_iterU {r : Addr} {a b : Int} (H : At D Fs R s) (hm : RangeF r a b 1 ∈ Fs) (hs : -(2 ^ 62) ≤ a ∧ a < 2 ^ 62 ∧ -(2 ^ 62) ≤ b ∧ b < 2 ^ 62)
    (h : ∀ I s', (∀ pair ng, Nexts prog w (D.withNg ng) pair I (b - a).toNat (RItR I a 1 (b - a).toNat) Tru (fun i v F => (∃ t, v = .int (a + i * 1) t) ∧ F = Tru)) →
      At D (Tru :: Fs) (RItR I a 1 (b - a).toNat 0 :: R) s' → Q (.ref I) s') : wpAny (model prog w) A (pyIter (.ref r)) Q E s := by
  obtain ⟨t, u, v, hr⟩ := H.fact hm
  have hsz : (Builtin.Range.rangeSize a b 1).toNat = (b - a).toNat := by rw [rangeSize_one]; split <;> omega
  have h0 : 0 ≤ Builtin.Range.rangeSize a b 1 := by rw [rangeSize_one]; split <;> omega
  refine wpAny_pyIter_range hr (small_one hs.1 hs.2.1 hs.2.2.1 hs.2.2.2) (h _ _ (fun _ _ => nexts_range) ?_)
  have H1 := H.own (r := RItR s.heap.objs.size a 1 (b - a).toNat 0) (h' := s.heap.push { cls := .type "range_iterator", data := .fields #[rawInt a, rawInt (Builtin.Range.rangeSize a b 1), rawInt 1] }) (gens' := s.gens) (tk := s.toks) (Ext.push _ _) H.gens (by
    have e1 : a + ((0 : Nat) : Int) * 1 = a := by simp
    have e2 : (((b - a).toNat : Nat) : Int) - ((0 : Nat) : Int) = Builtin.Range.rangeSize a b 1 := by rw [← hsz]; omega
    show IsRangeIter _ _ _ _ _
    rw [e1, e2]; exact Heap.get?_push_size _ rfl) (nd1 _) fun b hb => by rw [List.mem_singleton.mp hb]; exact Nat.le_refl _
  exact ⟨H1.os, H1.gens, H1.tab, H1.cs, H1.nodup, H1.res, H1.base, fun F hF => by
    rcases List.mem_cons.mp hF with rfl | hF
    · trivial
    · exact H1.facts F hF⟩
/-- range down -/
theorem r_iterD {r : Addr} {a b : Int} (H : At D Fs R s) (hm : RangeF r a b (-1) ∈ Fs) (hs : -(2 ^ 61) ≤ a ∧ a < 2 ^ 61 ∧ -(2 ^ 61) ≤ b ∧ b < 2 ^ 61)
    (h : ∀ I s', (∀ pair ng, Nexts prog w (D.withNg ng) pair I (a - b).toNat (RItR I a (-1) (a - b).toNat) Tru (fun i v F => (∃ t, v = .int (a + i * -1) t) ∧ F = Tru)) →
      At D (Tru :: Fs) (RItR I a (-1) (a - b).toNat 0 :: R) s' → Q (.ref I) s') : wpAny (model prog w) A (pyIter (.ref r)) Q E s := by
  obtain ⟨t, u, v, hr⟩ := H.fact hm
  have e0 : Builtin.Range.rangeSize a b (-1) = if b < a then a - b else 0 := by
    unfold Builtin.Range.rangeSize
    simp only [show ¬ (-1 : Int) > 0 by decide, if_false]
    split
    · simp <;> omega
    · rfl
  have hsz : (Builtin.Range.rangeSize a b (-1)).toNat = (a - b).toNat := by rw [e0]; split <;> omega
  have h0 : 0 ≤ Builtin.Range.rangeSize a b (-1) := by rw [e0]; split <;> omega
  have hsm : Builtin.Range.small a b (-1) = true := by
    unfold Builtin.Range.small
    rw [e0]
    simp only [Builtin.Range.rangeFitsLong, Bool.and_eq_true, Bool.or_eq_true, decide_eq_true_eq, beq_iff_eq, show ¬ (-1 : Int) > 0 by decide, if_false]
    split <;> omega
  refine wpAny_pyIter_range hr hsm (h _ _ (fun _ _ => nexts_range) ?_)
  have H1 := H.own (r := RItR s.heap.objs.size a (-1) (a - b).toNat 0) (h' := s.heap.push { cls := .type "range_iterator", data := .fields #[rawInt a, rawInt (Builtin.Range.rangeSize a b (-1)), rawInt (-1)] }) (gens' := s.gens) (tk := s.toks) (Ext.push _ _) H.gens (by
    have e1 : a + ((0 : Nat) : Int) * (-1) = a := by simp
    have e2 : (((a - b).toNat : Nat) : Int) - ((0 : Nat) : Int) = Builtin.Range.rangeSize a b (-1) := by rw [← hsz]; omega
    show IsRangeIter _ _ _ _ _
    rw [e1, e2]; exact Heap.get?_push_size _ rfl) (nd1 _) fun b hb => by rw [List.mem_singleton.mp hb]; exact Nat.le_refl _
  exact ⟨H1.os, H1.gens, H1.tab, H1.cs, H1.nodup, H1.res, H1.base, fun F hF => by
    rcases List.mem_cons.mp hF with rfl | hF
    · trivial
    · exact H1.facts F hF⟩
theorem r_iterR {r : Addr} {a b c : Int} (H : At D Fs R s) (hm : RangeF r a b c ∈ Fs) (hs : Builtin.Range.small a b c = true) (h0 : 0 ≤ Builtin.Range.rangeSize a b c)
    (h : ∀ I s', (∀ pair ng, Nexts prog w (D.withNg ng) pair I (Builtin.Range.rangeSize a b c).toNat (RItR I a c (Builtin.Range.rangeSize a b c).toNat) Tru (fun i v F => (∃ t, v = .int (a + i * c) t) ∧ F = Tru)) →
      At D (Tru :: Fs) (RItR I a c (Builtin.Range.rangeSize a b c).toNat 0 :: R) s' → Q (.ref I) s') : wpAny (model prog w) A (pyIter (.ref r)) Q E s := by
  obtain ⟨t, u, v, hr⟩ := H.fact hm
  refine wpAny_pyIter_range hr hs (h _ _ (fun _ _ => nexts_range) ?_)
  have H1 := H.own (r := RItR s.heap.objs.size a c (Builtin.Range.rangeSize a b c).toNat 0) (h' := s.heap.push { cls := .type "range_iterator", data := .fields #[rawInt a, rawInt (Builtin.Range.rangeSize a b c), rawInt c] }) (gens' := s.gens) (tk := s.toks) (Ext.push _ _) H.gens (by
    have e1 : a + ((0 : Nat) : Int) * c = a := by simp
    have e2 : (((Builtin.Range.rangeSize a b c).toNat : Nat) : Int) - ((0 : Nat) : Int) = Builtin.Range.rangeSize a b c := by omega
    show IsRangeIter _ _ _ _ _
    rw [e1, e2]; exact Heap.get?_push_size _ rfl) (nd1 _) fun b hb => by rw [List.mem_singleton.mp hb]; exact Nat.le_refl _
  exact ⟨H1.os, H1.gens, H1.tab, H1.cs, H1.nodup, H1.res, H1.base, fun F hF => by
    rcases List.mem_cons.mp hF with rfl | hF
    · trivial
    · exact H1.facts F hF⟩
theorem At.new {o : Obj} {F : Fact} (H : At D Fs R s) (hf : o.isFreed = false) {tk : Nat} (hF : ∀ h, h.get? s.heap.objs.size = some o → F.holds h) : At D (F :: Fs) R { s with heap := s.heap.push o, toks := tk } :=
  ((H.alloc hf (tk := tk)).learn (.head _) hF).sub fun G hG => by
    rcases List.mem_cons.mp hG with rfl | hG
    · exact .head _
    · exact .tail _ (.tail _ hG)
theorem r_range1 {b : Int} (H : At D Fs R s) (h : ∀ r s', At D (RangeF r 0 b 1 :: Fs) R s' → Q (.ref r) s') : wpAny (model prog w) A (call (.type "range") [.int b u]) Q E s :=
  call_range_1 (h _ _ (H.new rfl fun _ e => ⟨_, _, _, e⟩))
theorem r_range2 {a b : Int} (H : At D Fs R s) (h : ∀ r s', At D (RangeF r a b 1 :: Fs) R s' → Q (.ref r) s') : wpAny (model prog w) A (call (.type "range") [.int a t, .int b u]) Q E s :=
  call_range_2 (h _ _ (H.new rfl fun _ e => ⟨_, _, _, e⟩))
theorem r_range3 {a b c : Int} {t2 : Tok} (W : Wd K D) (H : At D Fs R s) (hc : c ≠ 0) (hp : Builtin.divisionGoesByPylong (b - a) c = false) (h : ∀ r s', At D (RangeF r a b c :: Fs) R s' → Q (.ref r) s') : wpAny (model prog w) A (call (.type "range") [.int a t, .int b u, .int c t2]) Q E s :=
  call_range_3 hc (h _ _ (H.new rfl fun _ e => ⟨_, _, _, e⟩)) (.inl hp)

theorem r_newL {vs : List Value} {tk : Nat} (H : At D Fs R s) (hz : vs.length ≤ 1000000) (h : ∀ l s', At D Fs (Lst l vs :: R) s' → Q (.ref l) s') :
    vs.length ≤ sizeLine ∧ Q (.ref s.heap.objs.size) { s with heap := s.heap.push { cls := .type "list", data := .seq vs.toArray }, toks := tk } :=
  ⟨by rw [sizeLine_eq]; omega, h _ _ (H.own (r := Lst _ vs) (gens' := s.gens) (Ext.push _ _) H.gens ⟨0, Heap.get?_push_size _ rfl⟩ (nd1 _) fun b hb => by rw [List.mem_singleton.mp hb]; exact Nat.le_refl _)⟩
theorem At.pushL {vs : List Value} {tk : Nat} (H : At D Fs R s) : At D Fs (Lst s.heap.objs.size vs :: R) { s with heap := s.heap.push { cls := .type "list", data := .seq vs.toArray }, toks := tk } :=
  H.own (r := Lst _ vs) (gens' := s.gens) (Ext.push _ _) H.gens ⟨0, Heap.get?_push_size _ rfl⟩ (nd1 _) fun b hb => by rw [List.mem_singleton.mp hb]; exact Nat.le_refl _
theorem r_newT {vs : List Value} {tk : Nat} (H : At D Fs R s) (hz : vs.length ≤ 1000000) (h : ∀ l s', At D (TupF l vs :: Cell l ⟨.type "tuple", none, .seq vs.toArray 0, #[]⟩ :: Fs) R s' → Q (.ref l) s') :
    vs.length ≤ sizeLine ∧ Q (.ref s.heap.objs.size) { s with heap := s.heap.push { cls := .type "tuple", data := .seq vs.toArray }, toks := tk } :=
  ⟨by rw [sizeLine_eq]; omega, h _ _ ((H.alloc (tk := tk) rfl).learn (.head _) fun _ e => ⟨_, e, rfl, 0, rfl⟩)⟩
theorem r_nl {vs : List Value} (H : At D Fs R s) (hz : vs.length ≤ 1000000) (h : ∀ l s', At D Fs (Lst l vs :: R) s' → Q (.ref l) s') : wpAny M A (newList vs) Q E s :=
  wpAny_newList (r_newL (tk := s.toks) H hz h).2 (by rw [sizeLine_eq]; omega)
theorem r_nt {vs : List Value} (H : At D Fs R s) (hz : vs.length ≤ 1000000) (h : ∀ l s', At D (TupF l vs :: Cell l ⟨.type "tuple", none, .seq vs.toArray 0, #[]⟩ :: Fs) R s' → Q (.ref l) s') : wpAny M A (newTuple vs) Q E s :=
  wpAny_newTuple (r_newT (tk := s.toks) H hz h).2 (by rw [sizeLine_eq]; omega)
theorem At.pl {l : Addr} {vs : List Value} (H : At D Fs R s) (hm : Lst l vs ∈ R) : s.heap.PlainList l vs.toArray := H.res _ hm
theorem At.plF {l : Addr} {vs : List Value} (H : At D Fs R s) (hm : ListF l vs ∈ Fs) : s.heap.PlainList l vs.toArray := H.fact hm

theorem ints_idx {vs : List Value} {ns : List Int} (h : IntsAre vs ns) {k : Int} (h0 : 0 ≤ k) (h1 : k < ns.length) : ∃ t, vs[k.toNat]? = some (.int (ns.getD k.toNat 0) t) := by
  have q' : k.toNat < ns.length := by omega
  exact h.get k.toNat (ns.getD k.toNat 0) (by simp [List.getD, List.getElem?_eq_getElem q'])
theorem ints_set {vs : List Value} {ns : List Int} (h : IntsAre vs ns) (k : Nat) (a : Int) (t : Tok) : IntsAre (vs.set k (.int a t)) (ns.set k a) := by
  induction h generalizing k with
  | nil => exact .nil
  | cons n u h ih => cases k with
    | zero => exact .cons _ _ h
    | succ k => exact .cons _ _ (ih k)
theorem ints_rep (k : Nat) (a : Int) (t : Tok) : IntsAre (List.replicate k (.int a t)) (List.replicate k a) := by
  induction k with
  | zero => exact .nil
  | succ k ih => exact .cons _ _ ih
theorem r_itemLI {value slice : Expr} {l : Addr} {vs : List Value} {ns : List Int} {k : Int} (H : At D Fs R s) (hl : s.heap.PlainList l vs.toArray) (hi : IntsAre vs ns) (h0 : 0 ≤ k) (h1 : k < ns.length) (h2 : k < 2 ^ 60) (h : ∀ t, Q (.int (ns.getD k.toNat 0) t) s)
    (hs : subscripted slice false (.ref l) (.int k u) = operate [.ref l, .int k u] (getItem (.ref l) (.int k u))) : wpAny (model prog w) A (subscriptTail value slice (.ref l) (.int k u)) Q E s := by
  obtain ⟨t, e⟩ := ints_idx hi h0 h1
  have hL := Heap.PlainList.isList hl
  exact tail_any (Heap.IsList.typeIs hL) slot_list_getitem.lookup (wpAny_getItem_list hL h0 (by omega) (by simpa using e) (h t)) hs
theorem r_giLI {l : Addr} {vs : List Value} {ns : List Int} {k : Int} (H : At D Fs R s) (hl : s.heap.PlainList l vs.toArray) (hi : IntsAre vs ns) (h0 : 0 ≤ k) (h1 : k < ns.length) (h2 : k < 2 ^ 60) (h : ∀ t, Q (.int (ns.getD k.toNat 0) t) s) :
    wpAny (model prog w) A (getItem (.ref l) (.int k u)) Q E s := by
  obtain ⟨t, e⟩ := ints_idx hi h0 h1
  exact wpAny_getItem_list (Heap.PlainList.isList hl) h0 (by omega) (by simpa using e) (h t)
theorem r_itemTI {value slice : Expr} {l : Addr} {vs : List Value} {ns : List Int} {k : Int} (H : At D Fs R s) (hm : TupF l vs ∈ Fs) (hi : IntsAre vs ns) (h0 : 0 ≤ k) (h1 : k < ns.length) (h2 : k < 2 ^ 60) (h : ∀ t, Q (.int (ns.getD k.toNat 0) t) s)
    (hs : subscripted slice false (.ref l) (.int k u) = operate [.ref l, .int k u] (getItem (.ref l) (.int k u))) : wpAny (model prog w) A (subscriptTail value slice (.ref l) (.int k u)) Q E s := by
  obtain ⟨t, e⟩ := ints_idx hi h0 h1
  exact r_itemT H hm h0 h2 e (h t) hs
theorem eraseIdx_last (vs : List Value) (y : Value) : (vs ++ [y]).eraseIdx vs.length = vs := by induction vs <;> simp_all
theorem foldl_one (k : Nat) (v : Value) (acc : Array Value) : List.foldl (fun x1 x2 => x1 ++ x2) acc (List.replicate k #[v]) = acc ++ (List.replicate k v).toArray := by
  induction k generalizing acc with
  | zero => simp
  | succ k ih => rw [List.replicate_succ, List.foldl_cons, ih, List.replicate_succ]; apply Array.ext'; simp
/-- [v] * k -/
theorem r_mulL {l : Addr} {k : Int} (H : At D Fs R s) (hl : s.heap.PlainList l #[v]) (hk : k ≤ 1000000) (hk0 : -1000000 ≤ k) (h : ∀ l' s', At D Fs (Lst l' (List.replicate k.toNat v) :: R) s' → Q (.ref l') s') :
    wpAny (model prog w) A (binaryOp .Mult (.ref l) (.int k u)) Q E s := by
  obtain ⟨n, hl⟩ := hl
  refine wpAny_binaryOp_repeat_ref (T := "list") (U := "int") (by decide) ⟨_, hl, rfl⟩ (fun s' => typeIs_int s' k u) noFill_list_mul F.fills_int_mul F.slot_int_rmul repeat_list F.slot_int_index.lookup
    (call_meets F.slot_int_rmul (typeIs_int s k u) F.entry_int_rmul (F.args_int_rmul_2 _ _) (int___rmul___int_list k u l #[v] n)
      ⟨hl, rfl, ⟨_, hl, rfl⟩, call_meets F.slot_list_mul ⟨_, hl, rfl⟩ F.entry_list_mul (F.args_list_mul_2 _ _)
        (AutoListH.list___mul___list_int_3 l #[v] n k u (by simp [Builtin.List.listFitsIndex]; omega) (by simp; omega) (by simp [Builtin.List.listTooLong, sizeLine]; omega))
        ⟨hl, ?_⟩⟩)
  have e : List.foldl (fun x1 x2 => x1 ++ x2) #[] (List.replicate (if (#[v] : Array Value).isEmpty = true then 0 else k.toNat) #[v]) = (List.replicate k.toNat v).toArray := by
    rw [if_neg (by simp), foldl_one]; simp
  rw [e]
  exact h _ _ H.pushL
theorem r_addL {l b : Addr} {vs ws : List Value} (H : At D Fs R s) (hl : s.heap.PlainList l vs.toArray) (hb : s.heap.PlainList b ws.toArray) (hz : vs.length + ws.length ≤ 1000000) (h : ∀ l' s', At D Fs (Lst l' (vs ++ ws) :: R) s' → Q (.ref l') s') :
    wpAny (model prog w) A (binaryOp .Add (.ref l) (.ref b)) Q E s := by
  obtain ⟨n, hl⟩ := hl; obtain ⟨n2, hb⟩ := hb
  refine P.add_list hl hb ?_ (by simp only [List.size_toArray]; rw [sizeLine_eq]; omega)
  have e : vs.toArray ++ ws.toArray = (vs ++ ws).toArray := by simp
  rw [e]
  exact h _ _ H.pushL
/-- del of the last -/
theorem r_pop {l : Addr} {vs : List Value} {y : Value} (H : At D Fs R s) (hp : Rp (Lst l (vs ++ [y])) (Lst l vs) R R') (hz : vs.length ≤ 1000000) (h : ∀ s', At D Fs R' s' → Q y s') :
    wpAny (model prog w) A (callWith pos (.builtin "list.pop") [.ref l] [] []) Q E s := by
  obtain ⟨n, hl⟩ := H.res _ hp.mem
  refine P.pop_list hl (y := y) (by simp) (h _ (H.upd (gens' := s.gens) (tk := s.toks) hp rfl (fun b o nb e => (Heap.get?_update_other _ _ (Ne.symm fun q => nb (List.mem_singleton.mpr q))).trans e) ?_ H.gens)) (by simp only [List.size_toArray, List.length_append, List.length_singleton]; rw [sizeLine_eq]; omega)
  have e := IsL.update hl (fun xs => xs.eraseIdxIfInBounds ((vs ++ [y]).toArray.size - 1))
  have e2 : (vs ++ [y]).toArray.eraseIdxIfInBounds ((vs ++ [y]).toArray.size - 1) = vs.toArray := by simp [eraseIdx_last]
  simp only [e2] at e
  exact ⟨_, e⟩

/-- l[k] = v -/
theorem r_setL {l : Addr} {vs : List Value} {k : Int} {Q : Unit → Shared → Prop} (H : At D Fs R s) (hp : Rp (Lst l vs) (Lst l (vs.set k.toNat v)) R R') (h0 : 0 ≤ k) (h1 : k < 2 ^ 60) (hk : k.toNat < vs.length) (h : ∀ s', At D Fs R' s' → Q () s') :
    wpAny (model prog w) A (setItem (.ref l) (.int k u) v) Q E s := by
  obtain ⟨n, hl⟩ := H.res _ hp.mem
  have hT : s.TypeIs (.ref l) "list" := ⟨_, hl, rfl⟩
  have fin : ∀ h', h' = s.heap.update l (Obj.mapSeq (·.setIfInBounds k.toNat v)) → Q () { s with heap := h' } := by
    rintro h' rfl
    have e := IsL.update hl (fun xs => xs.setIfInBounds k.toNat v)
    have e2 : vs.toArray.setIfInBounds k.toNat v = (vs.set k.toNat v).toArray := by simp
    simp only [e2] at e
    exact h _ (H.upd (gens' := s.gens) (tk := s.toks) hp rfl (fun b o nb e => (Heap.get?_update_other _ _ (Ne.symm fun q => nb (List.mem_singleton.mpr q))).trans e) ⟨_, e⟩ H.gens)
  unfold setItem
  try with_reducible refine wpAny_holding ?_
  first | refine wpAny_bind (wpAny_pure ?_) | skip
  refine wpAny_bind (wpAny_sequenceKey hT (by decide) ?_)
  refine wpAny_bind (wpAny_callSpecial?_slot (name := Str.ofString "__setitem__") hT slot_list_setitem
    (wpAny_call_entry slot_list_setitem hT entry_list_setitem ?_ (args_list_setitem _ _ _)))
  show wpAny _ _ (Builtin.List.listSubscript? (.int k u) >>= _) _ _ s
  refine wpAny_bind (wpAny_listSubscript_int (fitsIndex_of h0 (by omega)) ?_)
  clear h1 h hp
  obtain ⟨j, rfl⟩ := Int.eq_ofNat_of_zero_le h0
  have hx : vs.toArray[j]? = some (vs[j]'(by simpa using hk)) := by simp
  show wpAny _ _ ((seqItemAt l j >>= fun r => pure (r.map (j, ·))) >>= _) _ _ s
  refine wpAny_bind (wpAny_bind (wpAny_seqItemAt hl rfl (wpAny_pure ?_)))
  rw [hx]
  show wpAny _ _ (setSeqItemAt l j v >>= _) _ _ s
  refine wpAny_bind (wpAny_setSeqItemAt hl rfl ?_)
  exact wpAny_pure ⟨.none, rfl, wpAny_pure (fin _ rfl)⟩
theorem fm_range (xs : List Value) : (List.range xs.length).filterMap (xs[·]?) = xs := by
  induction xs with
  | nil => rfl
  | cons x xs ih => rw [List.length_cons, List.range_succ_eq_map, List.filterMap_cons]; simp [List.filterMap_map]; exact ih
theorem slicePick_rev (vs : List Value) : slicePick vs.toArray none none (some (-1)) = vs.reverse.toArray := by
  unfold slicePick
  congr 1
  have e : sliceRange (sliceBounds none none (some (-1)) vs.toArray.size).1 (sliceBounds none none (some (-1)) vs.toArray.size).2.1 (sliceBounds none none (some (-1)) vs.toArray.size).2.2 = (List.range vs.length).reverse := by
    apply List.ext_getElem
    · simp [sliceRange, sliceBounds]; omega
    · intro i h1 h2
      simp [sliceRange, sliceBounds] at h1 h2 ⊢
      omega
  rw [e, List.filterMap_reverse]
  congr 1
  simpa using fm_range vs
theorem r_slice {value slice : Expr} {l : Addr} {vs res : List Value} {vl vu vk : Value} {lo hi st : Option Int} {ops : List Value} {tk : Nat} (H : At D Fs R s) (hl : s.heap.PlainList l vs.toArray) (pl : IsPart vl lo) (pu : IsPart vu hi) (pk : IsPart vk st) (h0 : st ≠ some 0)
    (hres : slicePick vs.toArray lo hi st = res.toArray) (hz : vs.length ≤ 1000000) (h : ∀ l' s', At D Fs (Lst l' res :: R) s' → Q (.ref l') s')
    (hs : subscripted slice false (.ref l) (.ref s.heap.objs.size) = operate ops (getItem (.ref l) (.ref s.heap.objs.size)) := by with_unfolding_all rfl)
    (ht : ∀ r, letTemporaryGo value (.ref l) r = pure () := by intro _; with_unfolding_all rfl) :
    wpAny (model prog w) A (subscriptTail value slice (.ref l) (.ref s.heap.objs.size)) Q E { s with heap := s.heap.push { cls := .type "slice", data := .fields #[vl, vu, vk] }, toks := tk } := by
  have hl' := Heap.PlainList.isList hl
  have H1 : At D Fs R { s with heap := s.heap.push { cls := .type "slice", data := .fields #[vl, vu, vk] }, toks := tk } := H.keeps (Ext.push _ _)
  refine subscriptTail_ops (Heap.IsList.typeIs (s := { s with heap := s.heap.push { cls := .type "slice", data := .fields #[vl, vu, vk] }, toks := tk }) (hl'.push _)) list_getitem_lookup
    (wpAny_getItem_list_slice (hl'.push _) (Heap.IsSliceOf.new ..) pl pu pk h0 ?_ (by simp only [List.size_toArray]; rw [sizeLine_eq]; omega)) hs ht
  rw [hres]
  exact h _ _ H1.pushL
/-- tuple(list), tuple(tuple), list(seq) -/
theorem r_tupL {l : Addr} {vs : List Value} (H : At D Fs R s) (hl : s.heap.PlainList l vs.toArray) (hz : vs.length ≤ 1000000) (h : ∀ l' s', At D (TupF l' vs :: Fs) R s' → Q (.ref l') s') : wpAny (model prog w) A (call (.type "tuple") [.ref l]) Q E s :=
  call_tuple_list (Heap.PlainList.isList hl) (fun h' hk => by
    have H1 : At D Fs R { s with heap := h' } := H.keeps (tk := s.toks) hk
    exact h _ _ (H1.new (tk := s.toks) rfl fun _ e => ⟨_, e, rfl, 0, rfl⟩)) (by simp only [List.size_toArray]; rw [sizeLine_eq]; omega)
theorem r_tupT {l : Addr} {vs : List Value} (H : At D Fs R s) (hm : TupF l vs ∈ Fs) (h : Q (.ref l) s) : wpAny (model prog w) A (call (.type "tuple") [.ref l]) Q E s :=
  call_tuple_same (H.fact hm) h
theorem r_listL {l : Addr} {vs : List Value} (H : At D Fs R s) (hl : s.heap.PlainList l vs.toArray) (hz : vs.length ≤ 1000000) (h : ∀ l' s', At D Fs (Lst l' vs :: R) s' → Q (.ref l') s') : wpAny (model prog w) A (call (.type "list") [.ref l]) Q E s := by
  obtain ⟨n, hl⟩ := hl
  refine call_list_seq l (.inl rfl) hl rfl rfl (fun h' c' hk hn => h _ _ ?_) (by simp only [List.size_toArray]; rw [sizeLine_eq]; omega)
  exact H.own (r := Lst _ vs) (gens' := s.gens) (tk := s.toks) hk H.gens ⟨_, hn⟩ (nd1 _) fun b hb => by rw [List.mem_singleton.mp hb]; exact Nat.le_refl _
theorem r_listT {l : Addr} {vs : List Value} (H : At D Fs R s) (hm : TupF l vs ∈ Fs) (hz : vs.length ≤ 1000000) (h : ∀ l' s', At D Fs (Lst l' vs :: R) s' → Q (.ref l') s') : wpAny (model prog w) A (call (.type "list") [.ref l]) Q E s := by
  obtain ⟨o, ho, hc, n, hd⟩ := isTuple (H.fact hm)
  refine call_list_seq l (.inr rfl) ho hc hd (fun h' c' hk hn => h _ _ ?_) (by simp only [List.size_toArray]; rw [sizeLine_eq]; omega)
  exact H.own (r := Lst _ vs) (gens' := s.gens) (tk := s.toks) hk H.gens ⟨_, hn⟩ (nd1 _) fun b hb => by rw [List.mem_singleton.mp hb]; exact Nat.le_refl _
theorem r_append {l : Addr} {vs : List Value} (H : At D Fs R s) (hp : Rp (Lst l vs) (Lst l (vs ++ [v])) R R') (hz : vs.length ≤ 1000000) (h : ∀ s', At D Fs R' s' → Q .none s') :
    wpAny (model prog w) A (call (.builtin "list.append") [.ref l, v]) Q E s := by
  have hl := H.res _ hp.mem
  refine wpAny_list_append_plain hl (fun h' hl' hs => h _ (H.upd (gens' := s.gens) (tk := s.toks) hp rfl (fun b o nb e => hs.extBut b o (fun q => nb (List.mem_singleton.mpr q)) e) ?_ H.gens)) (by simp only [List.size_toArray]; rw [sizeLine_eq]; omega)
  have e2 : vs.toArray.push v = (vs ++ [v]).toArray := by simp
  rw [e2] at hl'; exact hl'

/-- for -/
theorem r_for {pair : Bool} {target : Expr} {body : List Stmt} {I : Addr} {n : Nat} {St : Nat → Res} {N : Fact} {V : Nat → Value → Fact → Prop} {Rk : Result → Shared → Prop} (J : Nat → Shared → Prop)
    (hN : Nexts prog w D pair I n St N V) (ht : TgtOk pair target) (hh : A.handled = none) (h0 : J 0 s)
    (step : ∀ i s, i < n → J i s → ∃ Fs R R', At D Fs R s ∧ N ∈ Fs ∧ Rp (St i) (St (i + 1)) R R' ∧ ∀ v F s', V i v F → At D (F :: Fs) R' s' →
      wpAny (model prog w) A (assign target env v) (fun _ s2 => wpAny (model prog w) A (execs body env) (fun f s3 => match f with
        | .next | .cont => Hold (J (i + 1) s3)
        | .brk => Rk (.ok .next) s3
        | .ret v => Rk (.ok (.ret v)) s3) (fun _ _ => False) s2) (fun _ _ => False) s')
    (done : ∀ s, J n s → ∃ Fs R R', At D Fs R s ∧ N ∈ Fs ∧ Rm (St n) R R' ∧ ∀ s', At D Fs R' s' → Rk (.ok .next) s') :
    codeAny (model prog w) A (.forLoop target (.ref I) body [] env) Rk s := by
  refine codeAny_forLoop_any (fun k s => ∃ i, k = n + 1 - i ∧ i ≤ n ∧ J i s) ?_ (n + 1) ⟨0, rfl, Nat.zero_le _, h0⟩
  rintro k s ⟨i, rfl, hi, hJ⟩
  rcases Nat.lt_or_eq_of_le hi with hi | rfl
  · obtain ⟨Fs, R, R', H, hm, hp, go⟩ := step i s hi hJ
    refine wpAny_mono (hN.item (Q := fun v s2 => wpAny (model prog w) A (assign target env v) (fun _ s2 => wpAny (model prog w) A (execs body env) (fun f s3 => match f with
        | .next | .cont => Hold (J (i + 1) s3)
        | .brk => Rk (.ok .next) s3
        | .ret v => Rk (.ok (.ret v)) s3) (fun _ _ => False) s2) (fun _ _ => False) s2) (E := fun _ _ => False) ht hh hi H hm hp go) (fun r s1 h1 => ?_) fun _ _ f => f.elim
    obtain ⟨v, rfl, h1⟩ := h1
    refine wpAny_mono h1 (fun _ s2 h2 => wpAny_mono h2 (fun _ s3 h3 => wpAny_mono h3 (fun f s4 h4 => ?_) fun _ _ f => f.elim) fun _ _ f => f.elim) fun _ _ f => f.elim
    cases f with
    | next => exact ⟨n + 1 - (i + 1), by omega, i + 1, rfl, hi, h4.out⟩
    | cont => exact ⟨n + 1 - (i + 1), by omega, i + 1, rfl, hi, h4.out⟩
    | brk => exact h4
    | ret v => exact h4
  · obtain ⟨Fs, R, R', H, hm, hp, go⟩ := done s hJ
    exact hN.done hh H hm hp fun s' H' => wpAny_execs_nil (go s' H')

/-- while -/
theorem r_while {test : Expr} {body : List Stmt} {Rk : Result → Shared → Prop} (J : Nat → Shared → Prop)
    (turn : ∀ k s, J k s → wpAny (model prog w) A (isTrue test env (eval test env)) (fun b s2 =>
      if b then wpAny (model prog w) A (execs body env) (fun f s3 => match f with
        | .next | .cont => Hold (∃ m, m < k ∧ J m s3)
        | .brk => Rk (.ok .next) s3
        | .ret v => Rk (.ok (.ret v)) s3) (fun _ _ => False) s2
      else Rk (.ok .next) s2) (fun _ _ => False) s) (k : Nat) (h0 : J k s) :
    codeAny (model prog w) A (.whileLoop test body [] env) Rk s := by
  refine codeAny_whileLoop J (fun k s hJ => wpAny_mono (turn k s hJ) (fun b s2 h2 => ?_) fun _ _ f => f.elim) k h0
  cases b with
  | false =>
    simp only [Bool.false_eq_true, if_false] at h2 ⊢
    exact wpAny_execs_nil h2
  | true =>
    simp only [if_true] at h2 ⊢
    exact wpAny_mono h2 (fun f s3 h3 => by cases f <;> first | exact h3.out | exact h3) fun _ _ f => f.elim

/-- the rest of a list comprehension once its first iterator stands -/
def CompK (prog : Program) (w : World) (A : Around) (E : Value → Shared → Prop) (env : Env) (elt target iter : Expr) (ifs : List Expr) (scope : Scope) (pos : Pos) (cl : List (Str × Addr)) (use : Option (Value → Sem Unit)) (Q : Value → Shared → Prop) (it : Value) (s : Shared) : Prop :=
  wpAny (model prog w) A (newList []) (fun acc s₃ => wpAny (model prog w) A (newFunctionEnv scope env.globals cl [] env.qual none .none (some env)) (fun cenv s₄ =>
      codeAny (model prog w) A (.compStart (.ListComp elt [⟨target, iter, ifs, 0⟩] scope pos) 0 it acc { cenv with scope := relabel scope env }) (compPost (model prog w) A E use Q acc cenv.locals) s₄) E s₃) E s

theorem r_ListComp {elt target iter : Expr} {ifs : List Expr} {scope : Scope} {cl : List (Str × Addr)} (hclos : closureFor scope env = pure cl) (hkind : scope.kind = .function)
    (hnames : ∀ y ∈ scope.names, y.2 = .local → scope.names.lookup y.1 = some .local) (hs : ∀ x, foldedSetIterable iter env x = pure x)
    (h : wpAny (model prog w) A (eval iter env) (fun xv s₁ => wpAny (model prog w) A (pyIter xv) (fun it s₂ => CompK prog w A E env elt target iter ifs scope pos cl none Q it s₂) E s₁) E s) :
    wpAny (model prog w) A (eval (.ListComp elt [⟨target, iter, ifs, 0⟩] scope pos) env) Q E s := by
  rw [eval_ListComp]
  exact wpAny_comprehension_free (use := none) rfl hs hclos hkind hnames h
theorem r_AssignListComp {elt target iter : Expr} {ifs : List Expr} {scope : Scope} {cl : List (Str × Addr)} {y : Str} {py spos : Pos} {Q : Flow → Shared → Prop}
    (hsw : swapsWith (.ListComp elt [⟨target, iter, ifs, 0⟩] scope pos) (some (.Name y py)) spos.line env = pure true) (hclos : closureFor scope env = pure cl) (hkind : scope.kind = .function)
    (hnames : ∀ y ∈ scope.names, y.2 = .local → scope.names.lookup y.1 = some .local) (hs : ∀ x, foldedSetIterable iter env x = pure x)
    (h : wpAny (model prog w) A (eval iter env) (fun xv s₁ => wpAny (model prog w) A (pyIter xv) (fun it s₂ => CompK prog w A E env elt target iter ifs scope pos cl (some (assign (.Name y py) env)) (fun _ s' => Q .next s') it s₂) E s₁) E s) :
    wpAny (model prog w) A (exec (.Assign [.Name y py] (.ListComp elt [⟨target, iter, ifs, 0⟩] scope pos) spos) env) Q E s := by
  rw [exec_Assign_Name_used _ _ _ _ hsw]
  refine wpAny_bind (wpAny_standAt (wpAny_bind ?_))
  show wpAny _ A (do let _ ← comprehension (.ListComp elt [⟨target, iter, ifs, 0⟩] scope pos) scope env _ (newList []) false (eval iter env) (some (assign (.Name y py) env))) _ _ s
  exact wpAny_bind (wpAny_mono (wpAny_comprehension_free (use := some (assign (.Name y py) env)) (Q := fun _ s' => Q .next s') rfl hs hclos hkind hnames h) (fun _ s' hq => wpAny_pure (wpAny_pure hq)) fun _ _ e => e)

theorem At.setV {L : Addr} {l : List (Str × Value)} {h' : Heap} (H : At D Fs R s) (hp : Rp (Vars L l) (Vars L []) R R') {m : Str → Option Value} (hn : h'.Ns L m) (hs : Heap.SameBut L s.heap h') : At D Fs R' { s with heap := h' } :=
  H.upd (gens' := s.gens) (tk := s.toks) hp rfl (fun b o nb e => hs.extBut b o (fun q => nb (List.mem_singleton.mpr q)) e) ⟨m, hn, fun _ _ e => by cases e⟩ H.gens

/-- a map over an iterator: G tells what i items gave -/
theorem r_mapK {pair : Bool} {elt target iter : Expr} {ifs : List Expr} {scope : Scope} {cl : List (Str × Addr)} {use : Option (Value → Sem Unit)} {I : Addr} {n : Nat} {St : Nat → Res} {N : Fact} {V : Nat → Value → Fact → Prop}
    (G : Nat → List Value → List Fact → Prop) (hN : Nexts prog w D pair I n St N V) (ht : TgtOk pair target) (hh : A.handled = none) (H : At D Fs (St 0 :: R) s) (hm : N ∈ Fs)
    (hcell : ∀ x ∈ scope.names, x.2 ≠ .cell) (hkind : scope.kind = .function)
    (h0 : G 0 [] []) (hlen : ∀ i ys Gs, G i ys Gs → ys.length ≤ 1000000)
    (step : ∀ C acc i ys Gs v F s, i < n → G i ys Gs → V i v F → At D (F :: (Gs ++ Fs)) (Vars C [] :: Lst acc ys :: St (i + 1) :: R) s →
      wpAny (model prog w) A (assign target (compEnvC scope cl C env) v) (fun _ s2 => wpAny (model prog w) A (forIn ifs true fun c r => if r = true then do let ok ← isTrue c (compEnvC scope cl C env) (eval c (compEnvC scope cl C env)); pure (ForInStep.yield ok) else pure (ForInStep.yield r)) (fun ok s3 =>
        if ok = true then wpAny (model prog w) A (eval elt (compEnvC scope cl C env)) (fun x s4 => Hold (∃ F' l', G (i + 1) (ys ++ [x]) F' ∧ At D (F' ++ Fs) (Vars C l' :: Lst acc ys :: St (i + 1) :: R) s4)) (fun _ _ => False) s3
        else Hold (∃ F' l', G (i + 1) ys F' ∧ At D (F' ++ Fs) (Vars C l' :: Lst acc ys :: St (i + 1) :: R) s3)) (fun _ _ => False) s2) (fun _ _ => False) s)
    (done : ∀ C acc ys Gs s, G n ys Gs → At D (Gs ++ Fs) (Vars C [] :: Lst acc ys :: R) s → (match use with
      | none => ∀ s', At D (Gs ++ Fs) (Lst acc ys :: R) s' → Q (.ref acc) s'
      | some u => wpAny (model prog w) A (u (.ref acc)) (fun _ s1 => Hold (∃ Fs' R' R'' l, At D Fs' R' s1 ∧ Rm (Vars C l) R' R'' ∧ ∀ s2, At D Fs' R'' s2 → Q .none s2)) (fun _ _ => False) s)) :
    CompK prog w A E env elt target iter ifs scope pos cl use Q (.ref I) s := by
  unfold CompK
  refine wpAny_newObj_type ?_
  have H1 : At D Fs (Lst s.heap.objs.size [] :: St 0 :: R) { s with heap := s.heap.push { cls := .type "list", data := .seq ([] : List Value).toArray } } := H.pushL (vs := []) (tk := s.toks)
  generalize s.heap.objs.size = acc at H1
  generalize hs1 : ({ s with heap := s.heap.push { cls := .type "list", data := .seq ([] : List Value).toArray } } : Shared) = s1 at H1 ⊢
  refine wpAny_newFunctionEnv hcell (by intro y hy; simp at hy) (fun h₁ hns₁ hsb₁ => ?_) hkind
  have H2 : At D Fs (Vars s1.heap.objs.size [] :: Lst acc [] :: St 0 :: R) { s1 with heap := h₁, toks := s1.toks + ([] : List (Str × Value)).length } := by
    refine H1.own (r := Vars s1.heap.objs.size []) (gens' := s1.gens) ?_ H1.gens ⟨_, hns₁, fun _ _ e => by cases e⟩ (nd1 _) fun b hb => by rw [List.mem_singleton.mp hb]; exact Nat.le_refl _
    intro b o e
    exact hsb₁.extBut b o (Nat.ne_of_lt (Heap.lt_size e)) (Heap.get?_push_of_some _ e)
  generalize s1.heap.objs.size = C at H2 ⊢
  generalize ({ s1 with heap := h₁, toks := s1.toks + ([] : List (Str × Value)).length } : Shared) = s2 at H2 ⊢
  show codeAny _ _ (.compStart (.ListComp elt [⟨target, iter, ifs, 0⟩] scope pos) 0 (.ref I) (.ref acc) (compEnvC scope cl C env)) (compPost (model prog w) A E use Q (.ref acc) C) s2
  have loop : codeAny (model prog w) A (.compLoop (.ListComp elt [⟨target, iter, ifs, 0⟩] scope pos) 0 (.ref I) (.ref acc) (compEnvC scope cl C env)) (compPost (model prog w) A E use Q (.ref acc) C) s2 := by
    refine codeAny_loop rfl (fun k s => ∃ i ys Gs, k = n + 1 - i ∧ i ≤ n ∧ G i ys Gs ∧ At D (Gs ++ Fs) (Vars C [] :: Lst acc ys :: St i :: R) s) ?_ (n + 1) ⟨0, [], [], rfl, Nat.zero_le _, h0, H2⟩
    rintro k s ⟨i, ys, Gs, rfl, hi, hG, H⟩
    show wpAny _ A ((compTurn (.ListComp elt [⟨target, iter, ifs, 0⟩] scope pos) 0 (.ref I) (.ref acc) (compEnvC scope cl C env)).onRaise (fun x => do noteFrame x (compEnvC scope cl C env); theTreesLotGoes x)) _ _ s
    refine wpAny_noted ?_
    rw [compTurn_list]
    have hmN : N ∈ Gs ++ Fs := List.mem_append_right _ hm
    rcases Nat.lt_or_eq_of_le hi with hi | rfl
    · refine wpAny_bind (wpAny_standAt (wpAny_bind (wpAny_mono (hN.item (Q := fun v s => wpAny (model prog w) A (assign target (compEnvC scope cl C env) v) (fun _ s2 => wpAny (model prog w) A (forIn ifs true fun c r => if r = true then do let ok ← isTrue c (compEnvC scope cl C env) (eval c (compEnvC scope cl C env)); pure (ForInStep.yield ok) else pure (ForInStep.yield r)) (fun ok s3 =>
        if ok = true then wpAny (model prog w) A (eval elt (compEnvC scope cl C env)) (fun x s4 => Hold (∃ F' l', G (i + 1) (ys ++ [x]) F' ∧ At D (F' ++ Fs) (Vars C l' :: Lst acc ys :: St (i + 1) :: R) s4)) (fun _ _ => False) s3
        else Hold (∃ F' l', G (i + 1) ys F' ∧ At D (F' ++ Fs) (Vars C l' :: Lst acc ys :: St (i + 1) :: R) s3)) (fun _ _ => False) s2) (fun _ _ => False) s) (E := fun _ _ => False) ht hh hi H hmN (.tail (.tail .head)) fun v F s' hV H' => step C acc i ys Gs v F s' hi hG hV H') (fun r s1 h1 => ?_) fun _ _ f => f.elim)))
      obtain ⟨v, rfl, h1⟩ := h1
      refine wpAny_bind (wpAny_mono h1 (fun _ s1' h1' => wpAny_bind (wpAny_mono h1' (fun _ s2 h2 => wpAny_bind (wpAny_mono h2 (fun ok s3 h3 => ?_) fun _ _ f => f.elim)) fun _ _ f => f.elim)) fun _ _ f => f.elim)
      cases ok with
      | false =>
        simp only [Bool.false_eq_true, if_false] at h3
        obtain ⟨F', l', hG', H'⟩ := h3.out
        exact wpAny_pure ⟨rfl, _, by omega, i + 1, ys, F', rfl, hi, hG', H'.to (.cons (.vars .nil) .head (Sub.refl _))⟩
      | true =>
        simp only [if_true] at h3 ⊢
        refine wpAny_bind (wpAny_bind (wpAny_mono h3 (fun x s4 h4 => ?_) fun _ _ f => f.elim))
        obtain ⟨F', l', hG', H'⟩ := h4.out
        have hl := hlen _ _ _ hG'
        refine wpAny_bind (r_append H' (.tail .head) (by simp at hl; omega) fun s5 H5 => wpAny_pure (wpAny_pure ⟨rfl, _, by omega, i + 1, _, F', rfl, hi, hG', H5.to (.cons (.vars .nil) .head (Sub.refl _))⟩))
    · refine wpAny_bind (wpAny_standAt (wpAny_bind (hN.done hh H hmN (.tail (.tail .head)) fun s' H' => wpAny_pure ?_)))
      have dn := done C acc ys Gs s' hG H'
      cases use with
      | none =>
        obtain ⟨m, hns, _⟩ := H'.res _ (.head _)
        refine ⟨m, hns, fun h' hs' => dn _ (H'.updDrop (gens' := s'.gens) (tk := s'.toks) .head (fun b o nb e => hs'.extBut b o (fun q => nb (List.mem_singleton.mpr q)) e) H'.gens)⟩
      | some u =>
        refine wpAny_mono dn (fun _ s1 h1 => ?_) fun _ _ f => f.elim
        obtain ⟨Fs', R', R'', l, H1, hrm, k⟩ := h1.out
        obtain ⟨m, hns, _⟩ := H1.res _ (hrm.perm.mem_iff.mpr (.head _))
        exact ⟨m, hns, fun h' hs' => k _ (H1.updDrop (gens' := s1.gens) (tk := s1.toks) hrm (fun b o nb e => hs'.extBut b o (fun q => nb (List.mem_singleton.mpr q)) e) H1.gens)⟩
  exact codeAny_compStart_list loop (hN.self hh H2 hm (.tail _ (.tail _ (.head _))) loop)
end
end Mine

namespace Mine

def FQh (C x : Addr) (p n : Int) (h : Heap) : Prop := ∃ m, Inst h x C m ∧ (∃ t, m "n" = some (.int n t)) ∧ (∃ t, m "field_modulus" = some (.int p t)) ∧ ∀ z : Str, z ≠ "n" → z ≠ "field_modulus" → m z = none
theorem Inst.ext {h h' : Heap} {x C : Addr} {m : Str → Option Value} (k : Ext h h') : Inst h x C m → Inst h' x C m := fun ⟨dx, a, b⟩ => ⟨dx, k _ _ a, b.keeps k⟩
theorem FQh.ext {h h' : Heap} {x C : Addr} {p n : Int} (k : Ext h h') : FQh C x p n h → FQh C x p n h' := fun ⟨m, a, b⟩ => ⟨m, a.ext k, b⟩
def FQF (C x : Addr) (p n : Int) : Fact := ⟨FQh C x p n, FQh.ext⟩

/-- the values are field elements -/
inductive FQs (C : Addr) (p : Int) (h : Heap) : List Value → List Int → Prop
  | nil : FQs C p h [] []
  | cons {a n vs ns} : FQh C a p n h → FQs C p h vs ns → FQs C p h (.ref a :: vs) (n :: ns)
theorem FQs.ext {C : Addr} {p : Int} {h h' : Heap} (k : Ext h h') {vs : List Value} {ns : List Int} (x : FQs C p h vs ns) : FQs C p h' vs ns := by
  induction x with
  | nil => exact .nil
  | cons a _ ih => exact .cons (a.ext k) ih
theorem FQs.length {C : Addr} {p : Int} {h : Heap} {vs : List Value} {ns : List Int} (x : FQs C p h vs ns) : vs.length = ns.length := by
  induction x with
  | nil => rfl
  | cons _ _ ih => simp [ih]
theorem FQs.at {C : Addr} {p : Int} {h : Heap} {vs : List Value} {ns : List Int} (x : FQs C p h vs ns) : ∀ (i : Nat) (v : Value), vs[i]? = some v → ∃ a n, v = .ref a ∧ ns[i]? = some n ∧ FQh C a p n h := by
  induction x with
  | nil => intro i v e; simp at e
  | @cons a n vs ns q _ ih =>
    intro i v e
    cases i with
    | zero => simp at e; subst e; exact ⟨a, n, rfl, rfl, q⟩
    | succ i => simpa using ih i v (by simpa using e)
theorem FQs.append {C : Addr} {p : Int} {h : Heap} {vs ws : List Value} {ns ms : List Int} (x : FQs C p h vs ns) (y : FQs C p h ws ms) : FQs C p h (vs ++ ws) (ns ++ ms) := by
  induction x with
  | nil => exact y
  | cons a _ ih => exact .cons a ih
theorem FQs.set {C : Addr} {p : Int} {h : Heap} {vs : List Value} {ns : List Int} (x : FQs C p h vs ns) (k : Nat) {a : Addr} {n : Int} (q : FQh C a p n h) : FQs C p h (vs.set k (.ref a)) (ns.set k n) := by
  induction x generalizing k with
  | nil => exact .nil
  | cons b r ih => cases k with
    | zero => exact .cons q r
    | succ k => exact .cons b (ih k)
theorem FQs.take {C : Addr} {p : Int} {h : Heap} {vs : List Value} {ns : List Int} (x : FQs C p h vs ns) (k : Nat) : FQs C p h (vs.take k) (ns.take k) := by
  induction x generalizing k with
  | nil => simp; exact .nil
  | cons b r ih => cases k with
    | zero => exact .nil
    | succ k => exact .cons b (ih k)
def FQsF (C : Addr) (p : Int) (vs : List Value) (ns : List Int) : Fact := ⟨fun h => FQs C p h vs ns, fun k x => FQs.ext k x⟩

/-- pairs (i, c) of ints, as tuples -/
inductive Prs (h : Heap) : List Value → List (Int × Int) → Prop
  | nil : Prs h [] []
  | cons {T a b t1 t2 vs ps} : h.IsTuple T #[.int a t1, .int b t2] → Prs h vs ps → Prs h (.ref T :: vs) ((a, b) :: ps)
theorem IsTuple.ext {h h' : Heap} {a : Addr} {items : Array Value} (k : Ext h h') : h.IsTuple a items → h'.IsTuple a items := fun ⟨o, e, r⟩ => ⟨o, k _ _ e, r⟩
theorem Prs.ext {h h' : Heap} (k : Ext h h') {vs : List Value} {ps : List (Int × Int)} (x : Prs h vs ps) : Prs h' vs ps := by
  induction x with
  | nil => exact .nil
  | cons a _ ih => exact .cons (IsTuple.ext k a) ih
theorem Prs.length {h : Heap} {vs : List Value} {ps : List (Int × Int)} (x : Prs h vs ps) : vs.length = ps.length := by
  induction x with
  | nil => rfl
  | cons _ _ ih => simp [ih]
theorem Prs.at {h : Heap} {vs : List Value} {ps : List (Int × Int)} (x : Prs h vs ps) : ∀ (i : Nat) (v : Value), vs[i]? = some v → ∃ T a b t1 t2, v = .ref T ∧ ps[i]? = some (a, b) ∧ h.IsTuple T #[.int a t1, .int b t2] := by
  induction x with
  | nil => intro i v e; simp at e
  | @cons T a b t1 t2 vs ps q _ ih =>
    intro i v e
    cases i with
    | zero => simp at e; subst e; exact ⟨T, a, b, t1, t2, rfl, rfl, q⟩
    | succ i => simpa using ih i v (by simpa using e)
theorem Prs.append {h : Heap} {vs ws : List Value} {ps qs : List (Int × Int)} (x : Prs h vs ps) (y : Prs h ws qs) : Prs h (vs ++ ws) (ps ++ qs) := by
  induction x with
  | nil => exact y
  | cons a _ ih => exact .cons a ih
def PrsF (vs : List Value) (ps : List (Int × Int)) : Fact := ⟨fun h => Prs h vs ps, fun k x => Prs.ext k x⟩

/-- an element of the optimized form -/
def mcFrom : Int → List Int → List (Int × Int)
  | _, [] => []
  | i, c :: r => if c ≠ 0 then (i, c) :: mcFrom (i + 1) r else mcFrom (i + 1) r
def Opth (C x : Addr) (p : Int) (ns ms : List Int) (h : Heap) : Prop := ∃ m, Inst h x C m ∧ (∃ t, m "field_modulus" = some (.int p t)) ∧ (∃ tC vs, m "coeffs" = some (.ref tC) ∧ h.IsTuple tC vs.toArray ∧ IntsAre vs ns) ∧
  (∃ tM us, m "modulus_coeffs" = some (.ref tM) ∧ h.IsTuple tM us.toArray ∧ IntsAre us ms) ∧ (∃ t, m "degree" = some (.int ms.length t)) ∧ (∃ l ws, m "mc_tuples" = some (.ref l) ∧ h.PlainList l ws.toArray ∧ Prs h ws (mcFrom 0 ms)) ∧
  ∀ z : Str, z ≠ "field_modulus" → z ≠ "coeffs" → z ≠ "modulus_coeffs" → z ≠ "degree" → z ≠ "mc_tuples" → m z = none
theorem Opth.ext {h h' : Heap} {x C : Addr} {p : Int} {ns ms : List Int} (k : Ext h h') : Opth C x p ns ms h → Opth C x p ns ms h' :=
  fun ⟨m, a, b, ⟨tC, vs, c1, c2, c3⟩, ⟨tM, us, d1, d2, d3⟩, e, ⟨l, ws, f1, f2, f3⟩, g⟩ => ⟨m, a.ext k, b, ⟨tC, vs, c1, IsTuple.ext k c2, c3⟩, ⟨tM, us, d1, IsTuple.ext k d2, d3⟩, e, ⟨l, ws, f1, f2.at fun o q => k _ _ q, f3.ext k⟩, g⟩
def OptF (C x : Addr) (p : Int) (ns ms : List Int) : Fact := ⟨Opth C x p ns ms, Opth.ext⟩
/-- an element of the plain form -/
def Plnh (CQ C x : Addr) (p : Int) (ns ms : List Int) (h : Heap) : Prop := ∃ m, Inst h x C m ∧ (∃ t, m "field_modulus" = some (.int p t)) ∧ (∃ tC vs, m "coeffs" = some (.ref tC) ∧ h.IsTuple tC vs.toArray ∧ FQs CQ p h vs ns) ∧
  (∃ tM us, m "modulus_coeffs" = some (.ref tM) ∧ h.IsTuple tM us.toArray ∧ IntsAre us ms) ∧ (∃ t, m "degree" = some (.int ms.length t)) ∧
  ∀ z : Str, z ≠ "field_modulus" → z ≠ "coeffs" → z ≠ "modulus_coeffs" → z ≠ "degree" → m z = none
theorem Plnh.ext {h h' : Heap} {CQ x C : Addr} {p : Int} {ns ms : List Int} (k : Ext h h') : Plnh CQ C x p ns ms h → Plnh CQ C x p ns ms h' :=
  fun ⟨m, a, b, ⟨tC, vs, c1, c2, c3⟩, ⟨tM, us, d1, d2, d3⟩, e, g⟩ => ⟨m, a.ext k, b, ⟨tC, vs, c1, IsTuple.ext k c2, c3.ext k⟩, ⟨tM, us, d1, IsTuple.ext k d2, d3⟩, e, g⟩
def PlnF (CQ C x : Addr) (p : Int) (ns ms : List Int) : Fact := ⟨Plnh CQ C x p ns ms, Plnh.ext⟩

section
variable {prog : Program} {w : World} {M : Model} {A : Around} {E : Value → Shared → Prop} {D : Dat} {Fs : List Fact} {R R' : List Res} {s : Shared} {env : Env} {K : Frag} {n : Nat}
variable {y C CQ : Addr} {name : Str} {expr : Bool} {attr : Option Value} {p k : Int} {ns ms : List Int} {Q : Value → Shared → Prop}

/-- any object fact holds an own object -/
theorem At.open1 {ι : Sort _} {F : Fact} {G : ι → Fact} (H : At D Fs R s) (hm : F ∈ Fs) (h : ∀ h, F.holds h → ∃ x, (G x).holds h) : ∃ x, At D (G x :: Fs) R s := H.openF hm h
theorem At.add2 {F G : Fact} (H : At D (F :: Fs) R s) (h : ∀ h, F.holds h → G.holds h) : At D (G :: Fs) R s := ((H.learn (.head _) h)).sub fun X hX => by
  rcases List.mem_cons.mp hX with rfl | hX
  · exact .head _
  · exact .tail _ (.tail _ hX)

section
variable (W : Wd K D) (H : At D Fs R s) (hg : plainGet K C name = true) (hh : hasDictIn K C = true) (ha : findIn K (.ref C) name = some attr) (hn : noGet K attr = true)
include W H hg hh ha hn
theorem r_fqn (hm : FQF C y p k ∈ Fs) (e : name = "n") (h : ∀ t s', At D Fs R s' → Q (.int k t) s') : wpAny (model prog w) A (getAttr (.ref y) name expr) Q E s := by
  obtain ⟨m, I, ⟨t, e1⟩, _⟩ := H.fact hm
  obtain ⟨ox, od, I, hlk⟩ := I.at
  exact get_value (At.kin W H) I (plainGet_of hg).1 (findObj_own hh ha hn ((hlk name).trans (by rw [e, e1]))) rfl (h _ _ (H.toks _))
theorem r_fqp (hm : FQF C y p k ∈ Fs) (e : name = "field_modulus") (h : ∀ t s', At D Fs R s' → Q (.int p t) s') : wpAny (model prog w) A (getAttr (.ref y) name expr) Q E s := by
  obtain ⟨m, I, _, ⟨t, e1⟩, _⟩ := H.fact hm
  obtain ⟨ox, od, I, hlk⟩ := I.at
  exact get_value (At.kin W H) I (plainGet_of hg).1 (findObj_own hh ha hn ((hlk name).trans (by rw [e, e1]))) rfl (h _ _ (H.toks _))
theorem r_op (hm : OptF C y p ns ms ∈ Fs) (e : name = "field_modulus") (h : ∀ t s', At D Fs R s' → Q (.int p t) s') : wpAny (model prog w) A (getAttr (.ref y) name expr) Q E s := by
  obtain ⟨m, I, ⟨t, e1⟩, _⟩ := H.fact hm
  obtain ⟨ox, od, I, hlk⟩ := I.at
  exact get_value (At.kin W H) I (plainGet_of hg).1 (findObj_own hh ha hn ((hlk name).trans (by rw [e, e1]))) rfl (h _ _ (H.toks _))
theorem r_od (hm : OptF C y p ns ms ∈ Fs) (e : name = "degree") (h : ∀ t s', At D Fs R s' → Q (.int ms.length t) s') : wpAny (model prog w) A (getAttr (.ref y) name expr) Q E s := by
  obtain ⟨m, I, _, _, _, ⟨t, e1⟩, _⟩ := H.fact hm
  obtain ⟨ox, od, I, hlk⟩ := I.at
  exact get_value (At.kin W H) I (plainGet_of hg).1 (findObj_own hh ha hn ((hlk name).trans (by rw [e, e1]))) rfl (h _ _ (H.toks _))
theorem r_oc (hm : OptF C y p ns ms ∈ Fs) (e : name = "coeffs") (h : ∀ tC vs s', IntsAre vs ns → At D (TupF tC vs :: Fs) R s' → Q (.ref tC) s') : wpAny (model prog w) A (getAttr (.ref y) name expr) Q E s := by
  obtain ⟨⟨m, tC, vs⟩, H1⟩ := H.openF (ι := (Str → Option Value) × Addr × List Value) (G := fun x => ⟨fun h => Inst h y C x.1 ∧ x.1 "coeffs" = some (.ref x.2.1) ∧ h.IsTuple x.2.1 x.2.2.toArray ∧ IntsAre x.2.2 ns, fun k ⟨a, b, c, d⟩ => ⟨a.ext k, b, IsTuple.ext k c, d⟩⟩) hm
    fun h ⟨m, I, _, ⟨tC, vs, c1, c2, c3⟩, _⟩ => ⟨(m, tC, vs), I, c1, c2, c3⟩
  obtain ⟨I, e1, _, i⟩ := H1.fact (.head _)
  obtain ⟨ox, od, I, hlk⟩ := I.at
  exact get_value (At.kin W H) I (plainGet_of hg).1 (findObj_own hh ha hn ((hlk name).trans (by rw [e]; exact congrArg some e1))) rfl (h _ _ _ i ((H1.add2 fun _ x => x.2.2.1).toks _))
theorem r_om (hm : OptF C y p ns ms ∈ Fs) (e : name = "modulus_coeffs") (h : ∀ tC vs s', IntsAre vs ms → At D (TupF tC vs :: Fs) R s' → Q (.ref tC) s') : wpAny (model prog w) A (getAttr (.ref y) name expr) Q E s := by
  obtain ⟨⟨m, tC, vs⟩, H1⟩ := H.openF (ι := (Str → Option Value) × Addr × List Value) (G := fun x => ⟨fun h => Inst h y C x.1 ∧ x.1 "modulus_coeffs" = some (.ref x.2.1) ∧ h.IsTuple x.2.1 x.2.2.toArray ∧ IntsAre x.2.2 ms, fun k ⟨a, b, c, d⟩ => ⟨a.ext k, b, IsTuple.ext k c, d⟩⟩) hm
    fun h ⟨m, I, _, _, ⟨tC, vs, c1, c2, c3⟩, _⟩ => ⟨(m, tC, vs), I, c1, c2, c3⟩
  obtain ⟨I, e1, _, i⟩ := H1.fact (.head _)
  obtain ⟨ox, od, I, hlk⟩ := I.at
  exact get_value (At.kin W H) I (plainGet_of hg).1 (findObj_own hh ha hn ((hlk name).trans (by rw [e]; exact congrArg some e1))) rfl (h _ _ _ i ((H1.add2 fun _ x => x.2.2.1).toks _))
theorem r_ot (hm : OptF C y p ns ms ∈ Fs) (e : name = "mc_tuples") (h : ∀ l ws s', At D (ListF l ws :: PrsF ws (mcFrom 0 ms) :: Fs) R s' → Q (.ref l) s') : wpAny (model prog w) A (getAttr (.ref y) name expr) Q E s := by
  obtain ⟨⟨m, l, ws⟩, H1⟩ := H.openF (ι := (Str → Option Value) × Addr × List Value) (G := fun x => ⟨fun h => Inst h y C x.1 ∧ x.1 "mc_tuples" = some (.ref x.2.1) ∧ h.PlainList x.2.1 x.2.2.toArray ∧ Prs h x.2.2 (mcFrom 0 ms), fun k ⟨a, b, c, d⟩ => ⟨a.ext k, b, c.at fun o q => k _ _ q, d.ext k⟩⟩) hm
    fun h ⟨m, I, _, _, _, _, ⟨l, ws, c1, c2, c3⟩, _⟩ => ⟨(m, l, ws), I, c1, c2, c3⟩
  obtain ⟨I, e1, _, i⟩ := H1.fact (.head _)
  obtain ⟨ox, od, I, hlk⟩ := I.at
  have H2 : At D (ListF l ws :: PrsF ws (mcFrom 0 ms) :: Fs) R s := ⟨H1.os, H1.gens, H1.tab, H1.cs, H1.nodup, H1.res, H1.base, fun F hF => by
    have q := H1.facts _ (.head _)
    rcases List.mem_cons.mp hF with rfl | hF
    · exact q.2.2.1
    · rcases List.mem_cons.mp hF with rfl | hF
      · exact q.2.2.2
      · exact H1.facts F (.tail _ hF)⟩
  exact get_value (At.kin W H) I (plainGet_of hg).1 (findObj_own hh ha hn ((hlk name).trans (by rw [e]; exact congrArg some e1))) rfl (h _ _ _ (H2.toks _))
theorem r_pp (hm : PlnF CQ C y p ns ms ∈ Fs) (e : name = "field_modulus") (h : ∀ t s', At D Fs R s' → Q (.int p t) s') : wpAny (model prog w) A (getAttr (.ref y) name expr) Q E s := by
  obtain ⟨m, I, ⟨t, e1⟩, _⟩ := H.fact hm
  obtain ⟨ox, od, I, hlk⟩ := I.at
  exact get_value (At.kin W H) I (plainGet_of hg).1 (findObj_own hh ha hn ((hlk name).trans (by rw [e, e1]))) rfl (h _ _ (H.toks _))
theorem r_pd (hm : PlnF CQ C y p ns ms ∈ Fs) (e : name = "degree") (h : ∀ t s', At D Fs R s' → Q (.int ms.length t) s') : wpAny (model prog w) A (getAttr (.ref y) name expr) Q E s := by
  obtain ⟨m, I, _, _, _, ⟨t, e1⟩, _⟩ := H.fact hm
  obtain ⟨ox, od, I, hlk⟩ := I.at
  exact get_value (At.kin W H) I (plainGet_of hg).1 (findObj_own hh ha hn ((hlk name).trans (by rw [e, e1]))) rfl (h _ _ (H.toks _))
theorem r_pc (hm : PlnF CQ C y p ns ms ∈ Fs) (e : name = "coeffs") (h : ∀ tC vs s', vs.length = ns.length → At D (TupF tC vs :: FQsF CQ p vs ns :: Fs) R s' → Q (.ref tC) s') : wpAny (model prog w) A (getAttr (.ref y) name expr) Q E s := by
  obtain ⟨⟨m, l, ws⟩, H1⟩ := H.openF (ι := (Str → Option Value) × Addr × List Value) (G := fun x => ⟨fun h => Inst h y C x.1 ∧ x.1 "coeffs" = some (.ref x.2.1) ∧ h.IsTuple x.2.1 x.2.2.toArray ∧ FQs CQ p h x.2.2 ns, fun k ⟨a, b, c, d⟩ => ⟨a.ext k, b, IsTuple.ext k c, d.ext k⟩⟩) hm
    fun h ⟨m, I, _, ⟨l, ws, c1, c2, c3⟩, _⟩ => ⟨(m, l, ws), I, c1, c2, c3⟩
  obtain ⟨I, e1, _, i⟩ := H1.fact (.head _)
  obtain ⟨ox, od, I, hlk⟩ := I.at
  have H2 : At D (TupF l ws :: FQsF CQ p ws ns :: Fs) R s := ⟨H1.os, H1.gens, H1.tab, H1.cs, H1.nodup, H1.res, H1.base, fun F hF => by
    have q := H1.facts _ (.head _)
    rcases List.mem_cons.mp hF with rfl | hF
    · exact q.2.2.1
    · rcases List.mem_cons.mp hF with rfl | hF
      · exact q.2.2.2
      · exact H1.facts F (.tail _ hF)⟩
  exact get_value (At.kin W H) I (plainGet_of hg).1 (findObj_own hh ha hn ((hlk name).trans (by rw [e]; exact congrArg some e1))) rfl (h _ _ _ i.length (H2.toks _))
theorem r_pm (hm : PlnF CQ C y p ns ms ∈ Fs) (e : name = "modulus_coeffs") (h : ∀ tC vs s', IntsAre vs ms → At D (TupF tC vs :: Fs) R s' → Q (.ref tC) s') : wpAny (model prog w) A (getAttr (.ref y) name expr) Q E s := by
  obtain ⟨⟨m, tC, vs⟩, H1⟩ := H.openF (ι := (Str → Option Value) × Addr × List Value) (G := fun x => ⟨fun h => Inst h y C x.1 ∧ x.1 "modulus_coeffs" = some (.ref x.2.1) ∧ h.IsTuple x.2.1 x.2.2.toArray ∧ IntsAre x.2.2 ms, fun k ⟨a, b, c, d⟩ => ⟨a.ext k, b, IsTuple.ext k c, d⟩⟩) hm
    fun h ⟨m, I, _, _, ⟨tC, vs, c1, c2, c3⟩, _⟩ => ⟨(m, tC, vs), I, c1, c2, c3⟩
  obtain ⟨I, e1, _, i⟩ := H1.fact (.head _)
  obtain ⟨ox, od, I, hlk⟩ := I.at
  exact get_value (At.kin W H) I (plainGet_of hg).1 (findObj_own hh ha hn ((hlk name).trans (by rw [e]; exact congrArg some e1))) rfl (h _ _ _ i ((H1.add2 fun _ x => x.2.2.1).toks _))
end

theorem At.fzD {dx x : Addr} {m : Str → Option Value} {nm : List Str} (H : At D Fs R s) (hx : Cell x (instObj C dx) ∈ Fs) (hr : Rm (DRes dx m nm) R R') : At D (InstF x C m :: Fs) R' s := by
  have H1 := H.fz hr
  refine ⟨H1.os, H1.gens, H1.tab, H1.cs, H1.nodup, H1.res, H1.base, fun F hF => ?_⟩
  rcases List.mem_cons.mp hF with rfl | hF
  · exact ⟨dx, H1.facts _ (.tail _ hx), (H1.facts _ (.head _) : Heap.Ns1 _ dx m ∧ _).1.ns⟩
  · exact H1.facts F (.tail _ hF)
theorem At.mkFQ {dx x : Addr} {m : Str → Option Value} {nm : List Str} (H : At D Fs R s) (hx : Cell x (instObj C dx) ∈ Fs) (hr : Rm (DRes dx m nm) R R')
    (h1 : ∃ t, m "n" = some (.int k t)) (h2 : ∃ t, m "field_modulus" = some (.int p t)) (h3 : ∀ z : Str, z ≠ "n" → z ≠ "field_modulus" → m z = none) : At D (FQF C x p k :: Fs) R' s :=
  (H.fzD hx hr).add2 fun _ I => ⟨m, I, h1, h2, h3⟩
theorem ty_weight {C : Addr} {rest : List Value} : (Code.builtin "type.__call__" ⟨.ref C :: rest, []⟩).weight = 1 := by first | rfl | kernel_rfl | decide
theorem ty_units {C : Addr} {rest : List Value} : (Code.builtin "type.__call__" ⟨.ref C :: rest, []⟩).cUnits = 1 := by first | rfl | kernel_rfl
theorem Ok.ty {A : Around} {n : Nat} {C : Addr} {rest : List Value} (h : Ok A (n + 1)) : Ok (A.under (.builtin "type.__call__" ⟨.ref C :: rest, []⟩)) n := by
  have h1 := h.depth
  have h2 := h.units
  refine ⟨h.handled, ?_, ?_⟩
  · show A.depth + Code.weight _ + n ≤ 900
    rw [ty_weight]; omega
  · show A.units + Code.cUnits _ + 16 * n ≤ 4000
    rw [ty_units]; omega
theorem At.inst1 (H : At D Fs R s) (hm : FQF C y p k ∈ Fs) : ∃ m, Inst s.heap y C m ∧ ∀ z : Str, z ≠ "n" → z ≠ "field_modulus" → m z = none := let ⟨m, I, _, _, a⟩ := H.fact hm; ⟨m, I, a⟩
theorem At.inst2 (H : At D Fs R s) (hm : OptF C y p ns ms ∈ Fs) : ∃ m, Inst s.heap y C m ∧ ∀ z : Str, z ≠ "field_modulus" → z ≠ "coeffs" → z ≠ "modulus_coeffs" → z ≠ "degree" → z ≠ "mc_tuples" → m z = none := let ⟨m, I, _, _, _, _, _, a⟩ := H.fact hm; ⟨m, I, a⟩
theorem At.inst3 (H : At D Fs R s) (hm : PlnF CQ C y p ns ms ∈ Fs) : ∃ m, Inst s.heap y C m ∧ ∀ z : Str, z ≠ "field_modulus" → z ≠ "coeffs" → z ≠ "modulus_coeffs" → z ≠ "degree" → m z = none := let ⟨m, I, _, _, _, _, a⟩ := H.fact hm; ⟨m, I, a⟩
/-- what the fact says at least: an own object of C -/
inductive IsObj : Addr → Addr → Fact → Prop
  | fq {C y : Addr} {p k : Int} : IsObj C y (FQF C y p k)
  | opt {C y : Addr} {p : Int} {ns ms : List Int} : IsObj C y (OptF C y p ns ms)
  | pln {CQ C y : Addr} {p : Int} {ns ms : List Int} : IsObj C y (PlnF CQ C y p ns ms)
theorem IsObj.inst {F : Fact} (o : IsObj C y F) (H : At D Fs R s) (hm : F ∈ Fs) : ∃ m, Inst s.heap y C m ∧ ∀ z : Str, z ≠ "n" → z ≠ "field_modulus" → z ≠ "coeffs" → z ≠ "modulus_coeffs" → z ≠ "degree" → z ≠ "mc_tuples" → m z = none := by
  cases o with
  | fq => obtain ⟨m, I, a⟩ := H.inst1 hm; exact ⟨m, I, fun z h1 h2 _ _ _ _ => a z h1 h2⟩
  | opt => obtain ⟨m, I, a⟩ := H.inst2 hm; exact ⟨m, I, fun z _ h2 h3 h4 h5 h6 => a z h2 h3 h4 h5 h6⟩
  | pln => obtain ⟨m, I, a⟩ := H.inst3 hm; exact ⟨m, I, fun z _ h2 h3 h4 h5 _ => a z h2 h3 h4 h5⟩
def plainName (z : Str) : Bool := z != "n" && z != "field_modulus" && z != "coeffs" && z != "modulus_coeffs" && z != "degree" && z != "mc_tuples"
theorem plainName_of {z : Str} {m : Str → Option Value} (h : plainName z = true) (a : z ≠ "n" → z ≠ "field_modulus" → z ≠ "coeffs" → z ≠ "modulus_coeffs" → z ≠ "degree" → z ≠ "mc_tuples" → m z = none) : m z = none := by
  simp only [plainName, Bool.and_eq_true, bne_iff_ne] at h
  obtain ⟨⟨⟨⟨⟨h1, h2⟩, h3⟩, h4⟩, h5⟩, h6⟩ := h
  exact a h1 h2 h3 h4 h5 h6
theorem o_meth {F : Fact} {pl : Sem Bool} {f : Addr} {Q : Value × List Value → Shared → Prop} (W : Wd K D) (H : At D Fs R s) (hm : F ∈ Fs) (ho : IsObj C y F) (hg : plainGet K C name = true) (hf : findIn K (.ref C) name = some (some (.ref f))) (ht : isFn K (.ref f) = true)
    (hl : plainName name = true) (h : Q (.ref f, [.ref y]) s) : wpAny (model prog w) A (getMethod (.ref y) name pl) Q E s := by
  obtain ⟨m, I, a⟩ := ho.inst H hm
  obtain ⟨ox, od, I, hlk⟩ := I.at
  exact method_fn (At.kin W H) I (plainGet_of hg).1 (plainGet_of hg).2 hf (beq_iff_eq.mp ht) (by show (lookIn name od).map _ = _; rw [hlk, plainName_of hl (a name)]; rfl) h
theorem o_isi {F : Fact} {c : Value} {r : Bool} (W : Wd K D) (H : At D Fs R s) (hm : F ∈ Fs) (hob : IsObj C y F) (e : kitOne K (.ref C) c = some r) (hg : plainGet K C "__class__" = true) (hdct : hasDictIn K C = true) (ha : findIn K (.ref C) "__class__" = some (some (.builtin "object.__class__")))
    (hn : specialIn K (.builtin "object.__class__") "__get__" = some (some (.builtin "getset_descriptor.__get__"))) (htk : takesIn K (.builtin "object.__class__") = some true) (hmr : mroIn K C (.type "object") = some true)
    (h : ∀ s', At D Fs R s' → Q (.bool r) s') : wpAny (model prog w) A (call (.builtin "isinstance") [.ref y, c]) Q E s := by
  obtain ⟨m, I, a⟩ := hob.inst H hm
  obtain ⟨ox, od, I, hlk⟩ := I.at
  exact kia_one (kitx_own (ox := ox) hg hdct ha hn htk hmr) (At.kin W H) I e (by intro q; cases q) fun _ => h _ (H.toks _)
theorem o_isiT {F : Fact} {tp : Addr} {its : List Value} {r : Bool} {nn : Nat} (W : Wd K D) (H : At D Fs R s) (hm : F ∈ Fs) (hob : IsObj C y F) (ht : Cell tp ⟨.type "tuple", none, .seq its.toArray nn, #[]⟩ ∈ Fs) (e : kitAny K (.ref C) its = some r) (hg : plainGet K C "__class__" = true) (hdct : hasDictIn K C = true) (ha : findIn K (.ref C) "__class__" = some (some (.builtin "object.__class__")))
    (hn : specialIn K (.builtin "object.__class__") "__get__" = some (some (.builtin "getset_descriptor.__get__"))) (htk : takesIn K (.builtin "object.__class__") = some true) (hmr : mroIn K C (.type "object") = some true)
    (h : ∀ s', At D Fs R s' → Q (.bool r) s') : wpAny (model prog w) A (call (.builtin "isinstance") [.ref y, .ref tp]) Q E s := by
  obtain ⟨m, I, a⟩ := hob.inst H hm
  obtain ⟨ox, od, I, hlk⟩ := I.at
  exact kia_tup (kitx_own (ox := ox) hg hdct ha hn htk hmr) (At.kin W H) I (H.fact ht) e (by intro q; cases q) fun _ => h _ (H.toks _)
end
end Mine

set_option maxRecDepth 100000
set_option maxHeartbeats 1000000
namespace Mine
section
variable {prog : Program} {w : World} {M : Model} {A : Around} {E : Value → Shared → Prop} {D : Dat} {Fs : List Fact} {R R' : List Res} {s : Shared} {env : Env} {K : Frag} {n : Nat}
variable {y C : Addr} {name : Str} {nm : String} {Q : Value → Shared → Prop} {a b ta tb : Value}

/-- the left operand's own method answers; both operands of one type -/
theorem bin1_same {Q : Option Value → Shared → Prop} (la : Looks (model prog w) s.heap (typeOf a) ta) (lb : Looks (model prog w) s.heap (typeOf b) ta) (lf : Looks (model prog w) s.heap (fillsNumberSlot ta nm) true)
    (one : wpAny (model prog w) A (tryMethod a (PySem.dunder nm) b) (fun r s' => ∃ v, r = some v ∧ Q (some v) s') E s) : wpAny (model prog w) A (binaryOp1 nm a b) Q E s := by
  obtain ⟨hh, g, d, tt, os⟩ := s
  replace la : Looks (model prog w) hh (typeOf a) ta := la
  replace lb : Looks (model prog w) hh (typeOf b) ta := lb
  replace lf : Looks (model prog w) hh (fillsNumberSlot ta nm) true := lf
  unfold binaryOp1
  refine wpAny_bind (la.at (wpAny_bind (lb.at (wpAny_bind (lf.at ?_)))))
  simp only [beq_self_eq_true, if_true]
  ksp_lk
  refine wpAny_mono one (fun r s' hr' => ?_) fun _ _ e => e
  obtain ⟨v, rfl, hq⟩ := hr'
  ksp_lk
  exact hq
/-- the left operand's own method answers; operands of two types -/
theorem bin1_left {Q : Option Value → Shared → Prop} {right lp rp : Bool} {ro : Option Value} (la : Looks (model prog w) s.heap (typeOf a) ta) (lb : Looks (model prog w) s.heap (typeOf b) tb) (hne : (ta == tb) = false) (lf : Looks (model prog w) s.heap (fillsNumberSlot ta nm) true)
    (rf : Looks (model prog w) s.heap (fillsNumberSlot tb nm) right) (ls : Looks (model prog w) s.heap (isSubtype tb ta) false) (l1 : Looks (model prog w) s.heap (numberSlotInPython ta nm) lp) (l2 : Looks (model prog w) s.heap (numberSlotInPython tb nm) rp)
    (l3 : Looks (model prog w) s.heap (typeLookup tb (dunderR nm)) ro)
    (one : wpAny (model prog w) A (tryMethod a (PySem.dunder nm) b) (fun r s' => ∃ v, r = some v ∧ Q (some v) s') E s) : wpAny (model prog w) A (binaryOp1 nm a b) Q E s := by
  obtain ⟨hh, g, d, tt, os⟩ := s
  replace la : Looks (model prog w) hh (typeOf a) ta := la
  replace lb : Looks (model prog w) hh (typeOf b) tb := lb
  replace lf : Looks (model prog w) hh (fillsNumberSlot ta nm) true := lf
  replace rf : Looks (model prog w) hh (fillsNumberSlot tb nm) right := rf
  replace ls : Looks (model prog w) hh (isSubtype tb ta) false := ls
  replace l1 : Looks (model prog w) hh (numberSlotInPython ta nm) lp := l1
  replace l2 : Looks (model prog w) hh (numberSlotInPython tb nm) rp := l2
  replace l3 : Looks (model prog w) hh (typeLookup tb (dunderR nm)) ro := l3
  unfold binaryOp1
  refine wpAny_bind (la.at (wpAny_bind (lb.at (wpAny_bind (lf.at ?_)))))
  simp only [hne, Bool.false_eq_true, if_false]
  have fin : ∀ r s', (∃ v, r = some v ∧ Q (some v) s') → r ≠ none := by rintro r s' ⟨v, rfl, _⟩ h; cases h
  cases right <;> cases lp <;> cases rp <;>
  · ksp_lk
    refine wpAny_mono one (fun r s' hr' => ?_) fun _ _ e => e
    obtain ⟨v, rfl, hq⟩ := hr'
    ksp_lk
    exact hq
theorem try_fn {Q : Option Value → Shared → Prop} {x C f : Addr} {ox : Obj} {od : Option Obj} {b : Value} (X : K.In s.heap) (I : InstAt s.heap x ox C od) (hs : findIn K (.ref C) name = some (some (.ref f))) (hf : isFn K (.ref f) = true)
    (h : wpAny (model prog w) A (call (.ref f) [.ref x, b]) (W.CmpBack fun v => Q (some v)) E s) : wpAny (model prog w) A (tryMethod (.ref x) name b) (fun r s' => ∃ v, r = some v ∧ Q (some v) s') E s := ksp_try X I hs hf h
/-- no in-place method -/
theorem noInpl {add : Bool} {h : Heap} {cd : ClassData} (X : K.In h) (hcd : clsIn K C = some cd) (hm : cd.mro = [.ref C, .type "object"]) (h1 : findIn K (.ref C) (dunderI nm) = some none) (h2 : findIn K (.type "object") (dunderI nm) = some none) : Looks M h (fillsInplaceSlot (.ref C) nm add) false := by
  intro A Q E s k q
  have Lm : Looks M h (mroOf (.ref C)) cd.mro := (looks_clsIn X hcd).andThen (f := fun cd => pure cd.mro) .now
  have Lm' := Lm.keeps k
  obtain ⟨hh, g, d, tt, os⟩ := s
  have X' : K.In hh := X.keeps k
  have L1 : Looks M hh (typeLookup (.ref C) (dunderI nm)) none := looks_findIn X' h1
  have L2 : Looks M hh (typeLookup (.type "object") (dunderI nm)) none := looks_findIn X' h2
  unfold fillsInplaceSlot
  refine wpAny_bind (Lm'.at ?_)
  rw [hm, List.anyM_cons]
  refine wpAny_bind ?_
  repeat lk
  exact q
theorem cls_self (hc : selfFirst K C = true) : ∃ cd rest, clsIn K C = some cd ∧ cd.mro = .ref C :: rest := ksp_first hc

theorem bin_of1 {op : Operator} (one : wpAny (model prog w) A (binaryOp1 op.info.2 a b) (fun r s' => ∃ v, r = some v ∧ Q v s') E s) : wpAny (model prog w) A (binaryOp op a b) Q E s := by
  rcases hi : op.info with ⟨sym, nm'⟩
  rw [hi] at one
  dsimp only at one
  simp only [binaryOp, hi]
  refine wpAny_holding (wpAny_bind ?_)
  refine wpAny_mono one (fun r s' q => ?_) fun _ _ e => e
  obtain ⟨v, rfl, hq⟩ := q
  ksp_lk
  exact hq
theorem inpl_of1 {op : Operator} (la : Looks (model prog w) s.heap (typeOf a) ta) (li : Looks (model prog w) s.heap (fillsInplaceSlot ta op.info.2 (op == .Add)) false) (one : wpAny (model prog w) A (binaryOp1 op.info.2 a b) (fun r s' => ∃ v, r = some v ∧ Q v s') E s) : wpAny (model prog w) A (inplaceOp op a b) Q E s := by
  unfold inplaceOp
  refine wpAny_holding ?_
  refine wpAny_bind ?_
  refine la.here ?_
  refine wpAny_bind ?_
  refine li.here ?_
  rw [if_neg Bool.false_ne_true]
  refine wpAny_bind ?_
  refine wpAny_mono one (fun r s' q => ?_) fun _ _ e => e
  obtain ⟨v, rfl, hq⟩ := q
  exact wpAny_pure hq
theorem cmpBack_some {v : Value} {Q : Value → Shared → Prop} (h : PySem.W.CmpBack Q v s) : PySem.W.CmpBack (fun v s' => ∃ v', some v = some v' ∧ Q v' s') v s := by
  cases v <;> first | exact h | exact ⟨_, rfl, h⟩

section
variable {F : Fact} {x : Addr} {f : Addr} {op : Operator} (W : Wd K D) (H : At D Fs R s) (hm : F ∈ Fs) (ho : IsObj C x F) (hc : selfFirst K C = true)
  (hs : findIn K (.ref C) (PySem.dunder op.info.2) = some (some (.ref f))) (hf : isFn K (.ref f) = true)
include W H hm ho hc hs hf
theorem o_bin1 {F2 : Fact} (hm2 : F2 ∈ Fs) (ho2 : IsObj C y F2) (h : wpAny (model prog w) A (call (.ref f) [.ref x, .ref y]) (PySem.W.CmpBack Q) E s) :
    wpAny (model prog w) A (binaryOp1 op.info.2 (.ref x) (.ref y)) (fun r s' => ∃ v, r = some v ∧ Q v s') E s := by
  obtain ⟨m, I, _⟩ := ho.inst H hm
  obtain ⟨ox, od, I, _⟩ := I.at
  obtain ⟨m2, I2, _⟩ := ho2.inst H hm2
  obtain ⟨ox2, od2, I2, _⟩ := I2.at
  obtain ⟨cd, rest, hcd, hmr⟩ := cls_self hc
  exact bin1_same I.type I2.type (fills_K (At.kin W H) hcd hmr hs) (try_fn (Q := fun r s' => ∃ v', r = some v' ∧ Q v' s') (At.kin W H) I hs hf (wpAny_mono h (fun v s' q => cmpBack_some q) fun _ _ e => e))
theorem o_bin {F2 : Fact} (hm2 : F2 ∈ Fs) (ho2 : IsObj C y F2) (h : wpAny (model prog w) A (call (.ref f) [.ref x, .ref y]) (PySem.W.CmpBack Q) E s) :
    wpAny (model prog w) A (binaryOp op (.ref x) (.ref y)) Q E s := bin_of1 (o_bin1 W H hm ho hc hs hf hm2 ho2 h)
theorem o_inpl {F2 : Fact} {cd : ClassData} (hm2 : F2 ∈ Fs) (ho2 : IsObj C y F2) (hcd : clsIn K C = some cd) (hcm : cd.mro = [.ref C, .type "object"]) (h1 : findIn K (.ref C) (dunderI op.info.2) = some none) (h2 : findIn K (.type "object") (dunderI op.info.2) = some none)
    (h : wpAny (model prog w) A (call (.ref f) [.ref x, .ref y]) (PySem.W.CmpBack Q) E s) :
    wpAny (model prog w) A (inplaceOp op (.ref x) (.ref y)) Q E s := by
  obtain ⟨m, I, _⟩ := ho.inst H hm
  obtain ⟨ox, od, I, _⟩ := I.at
  exact inpl_of1 I.type (noInpl (At.kin W H) hcd hcm h1 h2) (o_bin1 W H hm ho hc hs hf hm2 ho2 h)
/-- the right operand is of a built-in type -/
theorem o_bin1T {T : String} {fo ro rc : Option Value} (hb : typeOf b = pure (.type T)) (hr : findIn K (.ref C) (dunderR op.info.2) = some rc) (hp : rc = none ∨ ∃ g : Addr, rc = some (.ref g))
    (h1 : findIn K (.type T) (PySem.dunder op.info.2) = some fo) (h2 : findIn K (.type T) (dunderR op.info.2) = some ro) (hsub : subIn K (.type T) (.ref C) = some false)
    (h : wpAny (model prog w) A (call (.ref f) [.ref x, b]) (PySem.W.CmpBack Q) E s) : wpAny (model prog w) A (binaryOp1 op.info.2 (.ref x) b) (fun r s' => ∃ v, r = some v ∧ Q v s') E s := by
  obtain ⟨m, I, _⟩ := ho.inst H hm
  obtain ⟨ox, od, I, _⟩ := I.at
  obtain ⟨cd, rest, hcd, hmr⟩ := cls_self hc
  have X := At.kin W H
  refine bin1_left I.type (Looks.of_pure hb) ?_ (fills_K X hcd hmr hs) (ksp_fillsT X h1 h2) (looks_subIn X hsub) (ksp_inPy X hs hr hp) (Looks.of_pure (r := false) rfl) (looks_findIn X h2) (try_fn (Q := fun r s' => ∃ v', r = some v' ∧ Q v' s') X I hs hf (wpAny_mono h (fun v s' q => cmpBack_some q) fun _ _ e => e))
  exact Bool.eq_false_iff.mpr fun q => by cases beq_iff_eq.mp q
theorem o_binT {T : String} {fo ro rc : Option Value} (hb : typeOf b = pure (.type T)) (hr : findIn K (.ref C) (dunderR op.info.2) = some rc) (hp : rc = none ∨ ∃ g : Addr, rc = some (.ref g))
    (h1 : findIn K (.type T) (PySem.dunder op.info.2) = some fo) (h2 : findIn K (.type T) (dunderR op.info.2) = some ro) (hsub : subIn K (.type T) (.ref C) = some false)
    (h : wpAny (model prog w) A (call (.ref f) [.ref x, b]) (PySem.W.CmpBack Q) E s) : wpAny (model prog w) A (binaryOp op (.ref x) b) Q E s := bin_of1 (o_bin1T W H hm ho hc hs hf hb hr hp h1 h2 hsub h)
end
theorem o_neg {F : Fact} {x : Addr} {f : Addr} (W : Wd K D) (H : At D Fs R s) (hm : F ∈ Fs) (ho : IsObj C x F) (hs : findIn K (.ref C) "__neg__" = some (some (.ref f))) (hf : isFn K (.ref f) = true)
    (h : wpAny (model prog w) A (call (.ref f) [.ref x]) Q E s) : wpAny (model prog w) A (unaryOp .USub (.ref x)) Q E s := by
  obtain ⟨m, I, _⟩ := ho.inst H hm
  obtain ⟨ox, od, I, _⟩ := I.at
  unfold unaryOp
  exact wpAny_holding (wpAny_bind (special_fn (At.kin W H) I hs (beq_iff_eq.mp hf) (wpAny_mono h (fun _ _ z => wpAny_pure z) fun _ _ z => z)))
end
end Mine

set_option maxRecDepth 100000
namespace Mine

theorem tab_inj {l : List Tab} (h : (l.map (·.P)).Nodup) : ∀ {t t' : Tab}, t ∈ l → t' ∈ l → t.P = t'.P → t = t' := by
  induction l with
  | nil => intro t t' ht; cases ht
  | cons x l ih =>
    intro t t' ht ht' e
    rw [List.map_cons, List.nodup_cons] at h
    rcases List.mem_cons.mp ht with q | q <;> rcases List.mem_cons.mp ht' with q' | q'
    · rw [q, q']
    · exact absurd (List.mem_map.mpr ⟨t', q', by rw [← e, q]⟩) h.1
    · exact absurd (List.mem_map.mpr ⟨t, q, by rw [e, q']⟩) h.1
    · exact ih h.2 q q' e

section
variable {D : Dat} {Fs Fs' : List Fact} {R R' : List Res} {s : Shared} {K : Frag} {n : Nat}
theorem At.withNg (H : At D Fs R s) (hn : n ≤ s.gens.size) : At (D.withNg n) Fs R s := ⟨H.os, ⟨H.gens.1, hn⟩, H.tab, H.cs, H.nodup, H.res, H.base, H.facts⟩
theorem At.ofNg (H : At (D.withNg n) Fs R s) (hn : D.ng ≤ n) : At D Fs R s := ⟨H.os, ⟨H.gens.1, Nat.le_trans hn H.gens.2⟩, H.tab, H.cs, H.nodup, H.res, H.base, H.facts⟩
theorem Wd.ng (W : Wd K D) : Wd K (D.withNg n) := ⟨W.K, W.names, W.lim, W.bmod⟩
theorem At.setGen {g : Nat} {x : GenState} (H : At D Fs R s) (hx : x.bare = true) : At D Fs R (s.setGen g x) :=
  ⟨H.os, ⟨fun y hy => by
      rcases Array.mem_or_eq_of_mem_setIfInBounds hy with h | h
      · exact H.gens.1 y h
      · exact h ▸ hx, by show D.ng ≤ (s.gens.setIfInBounds g x).size; rw [Array.size_setIfInBounds]; exact H.gens.2⟩, H.tab, H.cs, H.nodup, H.res, H.base, H.facts⟩
theorem At.pushGen {x : GenState} (H : At D Fs R s) (hx : x.bare = true) {h' : Heap} {tk : Nat} (hk : Ext s.heap h') : At (D.withNg (s.gens.size + 1)) Fs R { s with heap := h', gens := s.gens.push x, toks := tk } := by
  have H1 : At D Fs R { s with heap := h', gens := s.gens.push x, toks := tk } := H.grow hk ⟨fun y hy => by
    rcases Array.mem_push.mp hy with h | h
    · exact H.gens.1 y h
    · exact h ▸ hx, by rw [Array.size_push]; have := H.gens.2; omega⟩ fun F h => .inl h
  exact H1.withNg (by show _ ≤ (s.gens.push x).size; rw [Array.size_push]; exact Nat.le_refl _)

/-- one code table grows -/
theorem At.tabGrow {t : Tab} {h' : Heap} {tk : Nat} (H : At D Fs R s) (ht : t ∈ D.tabs) (hx : Heap.ExtBut t.P s.heap h') (hn : TabNow t h') : At D Fs R { s with heap := h', toks := tk } := by
  have hP : t.P ∈ D.Ps := List.mem_map.mpr ⟨t, ht, rfl⟩
  have hv : Ext (seen D R s.heap) (seen D R h') := Ext.hide_mono (fun b o nb e => hx b o (fun q => nb (List.mem_append_left _ (q ▸ hP))) e) fun b hb hn => absurd hb hn
  have nd := List.nodup_append.mp H.nodup
  refine ⟨H.os, H.gens, fun t' ht' => ?_, fun t ht => let ⟨o, ho⟩ := H.cs t ht; ⟨o, hv _ _ ho⟩, H.nodup, fun r hr => ?_, H.base.trans hv, fun F hF => F.mono hv (H.facts F hF)⟩
  · by_cases e : t'.P = t.P
    · rw [tab_inj nd.1 ht' ht e]; exact hn
    · obtain ⟨oc, hoc⟩ := H.cs t' ht'
      have nc := hide_not_mem hoc
      exact (H.tab t' ht').keep (fun o q => hx _ o (fun q2 => nc (List.mem_append_left _ (q2 ▸ hP))) q) fun o q => hx _ o e q
  · exact r.loc (fun b hb o e => hx b o (fun q => nd.2.2 _ hP _ (List.mem_flatMap.mpr ⟨r, hr, hb⟩) q.symm) e) (H.res r hr)
end

section
variable {prog : Program} {w : World} {M : Model} {A : Around} {E : Value → Shared → Prop} {D : Dat} {Fs : List Fact} {R R' : List Res} {s : Shared} {env : Env} {K : Frag} {n : Nat}
variable {Q : Value → Shared → Prop}

theorem r_gcode {t : Tab} {pos : Pos} {qual : Str} {scope : Scope} (H : At D Fs R s) (ht : t ∈ D.tabs) (hc : env.code = .ref t.c) (h : ∀ cd h' tk, At D Fs R { s with heap := h', toks := tk } → Q cd { s with heap := h', toks := tk }) :
    wpAny M A (genexprCode env pos qual scope) Q E s := by
  obtain ⟨more, hok, htab⟩ := H.tab t ht
  cases hnf : codeAmong pos (t.ps ++ more).toList with
  | some c' => exact wpAny_genexprCode_hit hc hok hnf (h _ s.heap s.toks H)
  | none =>
    refine wpAny_genexprCodeX hc hok htab hnf fun c' h' tk hE _ _ hok' _ htab' _ => h _ _ _ (H.tabGrow ht hE ⟨more ++ #[rawInt pos.line, rawInt pos.col, .ref c'], ?_, ?_⟩)
    · rw [← Array.append_assoc]; exact hok'
    · rw [← Array.append_assoc]; exact htab'

def GenF (a : Addr) (g : Nat) : Fact := ⟨fun h => h.IsGen a g, fun k x => x.keeps k⟩
/-- the rest of a generator expression once its first iterator stands -/
def GenK (prog : Program) (w : World) (A : Around) (E : Value → Shared → Prop) (env : Env) (elt target iter : Expr) (ifs : List Expr) (scope : Scope) (pos : Pos) (cl : List (Str × Addr)) (Q : Value → Shared → Prop) (it : Value) (s₂ : Shared) : Prop :=
  s₂.heap.NoLimit ∧ wpAny (model prog w) A (genexprCode env pos (env.qual ++ "<genexpr>") scope) (fun code s₃ => wpAny (model prog w) A (builtinsFor env.globals env.builtins) (fun bi s₄ =>
        ∀ h', h'.Ns s₄.heap.objs.size (fun y => if y = ".0" then some it else none) → Heap.SameBut s₄.heap.objs.size (s₄.heap.push { cls := .type "frame", data := .dict #[] }) h' →
          Q (.ref h'.objs.size) { s₄ with
            gens := s₄.gens.push (.fresh (.compStart (.GeneratorExp elt [⟨target, iter, ifs, 0⟩] scope pos) 0 it .none (genEnv scope cl s₄.heap.objs.size code bi env))),
            toks := s₄.toks + 1 + 1 + 1,
            heap := h'.push { cls := .type "generator", data := .fields #[.int s₄.gens.size 0, .str "<genexpr>" (s₄.toks + 1), .str (env.qual ++ "<genexpr>") (s₄.toks + 1 + 1)] } }) E s₃) E s₂
theorem r_GenExp {elt target iter : Expr} {ifs : List Expr} {scope : Scope} {cl : List (Str × Addr)} {pos : Pos} (hco : scope.isCoroutine = false) (hclos : closureFor scope env = pure cl) (hcell : ∀ y ∈ scope.names, y.2 ≠ .cell) (h0 : scope.names.lookup (".0" : Str) = some NameKind.local) (hkind : scope.kind = .function)
    (hA : Ok A n) (hs : ∀ x, genFold iter env x = pure x)
    (h : wpAny (model prog w) A (eval iter env) (fun xv s₁ => wpAny (model prog w) A (pyIter xv) (fun it s₂ => GenK prog w A E env elt target iter ifs scope pos cl Q it s₂) E s₁) E s) :
    wpAny (model prog w) A (eval (.GeneratorExp elt [⟨target, iter, ifs, 0⟩] scope pos) env) Q E s :=
  wpAny_GeneratorExp_make hco hclos hcell h0 hkind hA.room h hs
theorem r_GenK {elt target iter : Expr} {ifs : List Expr} {scope : Scope} {cl : List (Str × Addr)} {pos : Pos} {I : Addr} {t : Tab} (W : Wd K D) (H : At D Fs R s) (ht : t ∈ D.tabs) (hc : env.code = .ref t.c)
    (hg : env.globals = mainGlobals)
    (h : ∀ a g C code s', D.ng ≤ g → At (D.withNg (g + 1)) (GenF a g :: Fs) (Vars C [(".0", .ref I)] :: R) s' →
      s'.gens[g]? = some (.fresh (.compStart (.GeneratorExp elt [⟨target, iter, ifs, 0⟩] scope pos) 0 (.ref I) .none (genEnv scope cl C code builtinsNs env))) → Q (.ref a) s') :
    GenK prog w A E env elt target iter ifs scope pos cl Q (.ref I) s := by
  refine ⟨H.lim W, r_gcode H ht hc fun cd h1' tk1 H1 => ?_⟩
  obtain ⟨mg, bm, ob, gn, hb, hne, ho, h1, h2, h3⟩ := W.bmod
  refine wpAny_builtinsFor (m := mg) (by rw [hg]; exact gn.keeps H1.ofBase) hb hne (H1.ofBase _ _ ho) h1 h2 h3 ?_
  intro h' hn' hs'
  have hgr : s.gens.size + 1 = s.gens.size + 1 := rfl
  dsimp only at hn' hs' ⊢
  have ext1 : Ext h1' h' := fun b o e => hs'.extBut b o (Nat.ne_of_lt (Heap.lt_size e)) (Heap.get?_push_of_some _ e)
  refine h h'.objs.size s.gens.size h1'.objs.size cd _ H.gens.2 ?_ (by simp)
  have H2 := H1.own (r := Vars h1'.objs.size [(".0", .ref I)]) (h' := h') (gens' := s.gens) (tk := tk1) ext1 H1.gens ⟨_, hn', fun x v e => by
    rw [List.lookup_cons] at e
    by_cases q : x = ".0"
    · subst q; simp at e ⊢; exact e
    · have : (x == (".0" : Str)) = false := by simpa using q
      rw [this] at e; cases e⟩ (nd1 _) fun b hb => by rw [List.mem_singleton.mp hb]; exact Nat.le_refl _
  have H3 := At.new (o := { cls := .type "generator", data := .fields #[.int s.gens.size 0, .str "<genexpr>" (tk1 + 1), .str (env.qual ++ "<genexpr>") (tk1 + 1 + 1)] }) (F := GenF h'.objs.size s.gens.size) H2 rfl (tk := tk1 + 1 + 1 + 1) (fun _ e => ⟨_, _, _, e, rfl, rfl, rfl⟩)
  exact H3.pushGen (h' := h'.push _) rfl (Ext.refl _)
end
end Mine

set_option maxRecDepth 100000
namespace Mine

section
variable {prog : Program} {w : World} {D : Dat} {Fs : List Fact} {R : List Res}

def OkS (D : Dat) (Fs : List Fact) (R : List Res) (St : Nat → Res) (G : Nat → List Value → List Fact → Prop) (C S : Addr) (i : Nat) (s : Shared) : Prop :=
  ∃ acc Gs, G i acc Gs ∧ At D (Gs ++ Fs) (Vars C [] :: St i :: Lst S acc :: R) s
def genY (D : Dat) (Fs : List Fact) (R : List Res) (St : Nat → Res) (G : Nat → List Value → List Fact → Prop) (C S : Addr) (n : Nat) : Protocol := fun m _ v s kap =>
  ∃ i acc Gs, n - (i + 1) = m ∧ i < n ∧ G (i + 1) (acc ++ [v]) Gs ∧ At D (Gs ++ Fs) (Vars C [] :: St (i + 1) :: Lst S acc :: R) s ∧
    ∀ s'', OkS' D Fs R St G C S (i + 1) s'' → kap (.send .none) s''
where OkS' := OkS
def genR (D : Dat) (Fs : List Fact) (R : List Res) (G : Nat → List Value → List Fact → Prop) (C S : Addr) (n : Nat) : GenEnd := fun k _ r s =>
  r = .ok .next ∧ (k = 0 ∧ ∃ acc Gs, G n acc Gs ∧ At D (Gs ++ Fs) (Vars C [] :: Lst S acc :: R) s)

/-- the element of one turn: v the value drawn, x what is given -/
def Turn (prog : Program) (w : World) (D : Dat) (Fs : List Fact) (R : List Res) (St : Nat → Res) (V : Nat → Value → Fact → Prop) (G : Nat → List Value → List Fact → Prop) (C S : Addr) (n k : Nat) (target elt : Expr) (cenv : Env) : Prop :=
  ∀ A i acc Gs v F s, Ok A k → i < n → G i acc Gs → V i v F → At D (F :: (Gs ++ Fs)) (Vars C [] :: St (i + 1) :: Lst S acc :: R) s →
    wpAny (model prog w) A (assign target cenv v) (fun _ s2 => wpAny (model prog w) A (eval elt cenv) (fun x s4 => Hold (∃ F' l', G (i + 1) (acc ++ [x]) F' ∧ At D (F' ++ Fs) (Vars C l' :: St (i + 1) :: Lst S acc :: R) s4)) (fun _ _ => False) s2) (fun _ _ => False) s

theorem locals_genEnv {scope : Scope} {cl : List (Str × Addr)} {C bi : Addr} {code : Value} {env : Env} : (genEnv scope cl C code bi env).locals = C := rfl
theorem tests_nil {A : Around} {E : Value → Shared → Prop} {s : Shared} {env : Env} {Q : Bool → Shared → Prop} (h : Q true s) :
    wpAny (model prog w) A (forIn ([] : List Expr) true fun c r => if r = true then do let ok ← isTrue c env (eval c env); pure (ForInStep.yield ok) else pure (ForInStep.yield r)) Q E s := wpAny_pure h

section
variable {A : Around} {St : Nat → Res} {N : Fact} {V : Nat → Value → Fact → Prop} {G : Nat → List Value → List Fact → Prop} {C S I : Addr} {n k k' : Nat} {x : Str} {px pos : Pos} {elt iter : Expr} {scope : Scope} {cenv : Env}

theorem seg_loop (hN : Nexts prog w D false I n St N V) (hm : N ∈ Fs) (hco : cenv.scope.isCoroutine = false) (hA : Ok (A.over (.compLoop (.GeneratorExp elt [⟨.Name x px, iter, [], 0⟩] scope pos) 0 (.ref I) .none cenv) []) k)
    (turn : Turn prog w D Fs R St V G C S n k (.Name x px) elt cenv) :
    ∀ (j i : Nat) (s₀ s : Shared), n - i = j → i ≤ n → OkS D Fs R St G C S i s →
      Seg (model prog w) A (genR D Fs R G C S n) (genY D Fs R St G C S n) (n - i) s₀
        (.compLoop (.GeneratorExp elt [⟨.Name x px, iter, [], 0⟩] scope pos) 0 (.ref I) .none cenv)
        ((model prog w).den (.compLoop (.GeneratorExp elt [⟨.Name x px, iter, [], 0⟩] scope pos) 0 (.ref I) .none cenv)) [] s := by
  intro j
  induction j with
  | zero =>
    rintro i s₀ s hj hi ⟨acc, Gs, hG, H⟩
    have hin : i = n := by omega
    subst hin
    show Seg _ A _ _ _ s₀ _ ((compTurn (.GeneratorExp elt [⟨.Name x px, iter, [], 0⟩] scope pos) 0 (.ref I) .none cenv).onRaise (leaving cenv)) [] s
    rw [compTurn_gen, Sem.onRaise_eq_wrap]
    refine seg_bind_wrap (wpAny_standAt ?_)
    refine seg_bind_wrap (wpAny_mono (hN.done (Q := fun r s' => r = none ∧ At D (Gs ++ Fs) (Vars C [] :: Lst S acc :: R) s') (E := fun _ _ => False) hA.handled H (List.mem_append_right _ hm) (.tail .head) fun s' H' => ⟨rfl, H'⟩) (fun r s' q => ?_) fun _ _ f => f.elim)
    obtain ⟨rfl, H'⟩ := q
    exact seg_end (.ok .next) ⟨rfl, Nat.sub_self _, acc, Gs, hG, H'⟩
  | succ j ih =>
    rintro i s₀ s hj hi ⟨acc, Gs, hG, H⟩
    have hlt : i < n := by omega
    have hni : n - i = (n - (i + 1)) + 1 := by omega
    show Seg _ A _ _ _ s₀ _ ((compTurn (.GeneratorExp elt [⟨.Name x px, iter, [], 0⟩] scope pos) 0 (.ref I) .none cenv).onRaise (leaving cenv)) [] s
    rw [compTurn_gen, Sem.onRaise_eq_wrap]
    refine seg_bind_wrap (wpAny_standAt ?_)
    refine seg_bind_wrap (wpAny_mono (hN.item (target := .Name x px) (E := fun _ _ => False) ⟨_, _, rfl⟩ hA.handled hlt H (List.mem_append_right _ hm) (.tail .head) fun v F s' hV H' => turn _ i acc Gs v F s' hA hlt hG hV H') (fun r s1 q => ?_) fun _ _ f => f.elim)
    obtain ⟨v, rfl, q⟩ := q
    refine seg_bind_wrap (wpAny_mono q (fun _ s2 q => ?_) fun _ _ f => f.elim)
    refine seg_bind_wrap (wpAny_mono q (fun _ s3 q => ?_) fun _ _ f => f.elim)
    refine seg_bind_wrap (tests_nil ?_)
    simp only [if_true]
    have hy : ∀ v, yieldOut cenv v = yieldValue v := fun v => by simp only [yieldOut, hco, Bool.false_eq_true, if_false]
    simp only [hy]
    rw [Sem.bind_eq_wrap', Sem.bind_eq_wrap', Sem.wrap_wrap, Sem.wrap_wrap]
    refine seg_wrap (wpAny_mono q (fun y s4 q => ?_) fun _ _ f => f.elim)
    obtain ⟨F', l', hG', H4⟩ := q.out
    rw [hni]
    refine seg_at (seg_yield rfl rfl rfl ⟨i, acc, F', rfl, hlt, hG', H4.to (.cons (.vars .nil) .head (Sub.refl _)), fun s'' hok => ?_⟩)
    exact seg_again rfl (ih (i + 1) s'' s'' (by omega) hlt hok)

theorem seg_start (hN : Nexts prog w D false I n St N V) (hm : N ∈ Fs) (hco : cenv.scope.isCoroutine = false) (hh : A.handled = none) (hA : Ok (A.over (.compLoop (.GeneratorExp elt [⟨.Name x px, iter, [], 0⟩] scope pos) 0 (.ref I) .none cenv) []) k)
    (turn : Turn prog w D Fs R St V G C S n k (.Name x px) elt cenv) (s₀ s : Shared) (hok : OkS D Fs R St G C S 0 s) :
      Seg (model prog w) A (genR D Fs R G C S n) (genY D Fs R St G C S n) n s₀
        (.compStart (.GeneratorExp elt [⟨.Name x px, iter, [], 0⟩] scope pos) 0 (.ref I) .none cenv)
        ((model prog w).den (.compStart (.GeneratorExp elt [⟨.Name x px, iter, [], 0⟩] scope pos) 0 (.ref I) .none cenv)) [] s := by
  have loop := seg_loop (px := px) (scope := scope) (pos := pos) hN hm hco hA turn n 0 s₀ s (Nat.sub_zero _) (Nat.zero_le _) hok
  obtain ⟨acc, Gs, hG, H⟩ := hok
  rw [Nat.sub_zero] at loop
  show Seg _ A _ _ _ s₀ _ ((compStart (.GeneratorExp elt [⟨.Name x px, iter, [], 0⟩] scope pos) 0 (.ref I) .none cenv).onRaise (leaving cenv)) [] s
  unfold compStart
  rw [Sem.onRaise_eq_wrap]
  show Seg _ A _ _ _ s₀ _ ((ask >>= _).wrap _ _ _ _) [] s
  have slf : wpAny (model prog w) (A.over (.compStart (.GeneratorExp elt [⟨.Name x px, iter, [], 0⟩] scope pos) 0 (.ref I) .none cenv) []) (pyIter (.ref I)) (fun v s' => v = .ref I ∧ s' = s) (fun _ _ => False) s :=
    hN.self hh H (List.mem_append_right _ hm) (.tail _ (.head _)) ⟨rfl, rfl⟩
  refine seg_bind_wrap (wpAny_askSetting ?_)
  split
  · exact seg_again rfl loop
  · refine seg_bind_wrap (wpAny_rule ?_)
    show Seg _ A _ _ _ s₀ _ ((standAt iter.pos >>= _).wrap _ _ _ _) [] s
    refine seg_bind_wrap (wpAny_standAt (seg_bind_wrap (wpAny_mono slf (fun v s' q => ?_) fun _ _ f => f.elim)))
    obtain ⟨rfl, rfl⟩ := q
    exact seg_again rfl loop

theorem over_frames {it acc : Value} {c : List Comprehension} {e : Expr} {d : Nat} : (Code.compLoop (.GeneratorExp e c scope pos) d it acc cenv).frames ≤ 1 := by
  show (if _ = true then 1 else 0) ≤ 1
  split <;> omega
theorem over_weight {it acc : Value} {c : List Comprehension} {e : Expr} {d : Nat} : (Code.compLoop (.GeneratorExp e c scope pos) d it acc cenv).weight ≤ 1 := by
  have h := over_frames (it := it) (acc := acc) (c := c) (e := e) (d := d) (scope := scope) (pos := pos) (cenv := cenv)
  show (Code.compLoop (.GeneratorExp e c scope pos) d it acc cenv).frames + 0 + 0 + 0 ≤ 1
  omega
theorem over_units {it acc : Value} {c : List Comprehension} {e : Expr} {d : Nat} : (Code.compLoop (.GeneratorExp e c scope pos) d it acc cenv).cUnits ≤ 3 := by
  have h := over_frames (it := it) (acc := acc) (c := c) (e := e) (d := d) (scope := scope) (pos := pos) (cenv := cenv)
  show 3 * (Code.compLoop (.GeneratorExp e c scope pos) d it acc cenv).frames ≤ 3
  omega
theorem Ok.over {it acc : Value} {c : List Comprehension} {e : Expr} {d : Nat} (h : Ok A (k + 1)) : Ok (A.over (.compLoop (.GeneratorExp e c scope pos) d it acc cenv) []) k := by
  have h1 := h.depth
  have h2 := h.units
  refine ⟨h.handled, ?_, ?_⟩
  · have := over_weight (it := it) (acc := acc) (c := c) (e := e) (d := d) (scope := scope) (pos := pos) (cenv := cenv)
    show A.depth + 0 + Code.weight _ + k ≤ 900
    omega
  · have := over_units (it := it) (acc := acc) (c := c) (e := e) (d := d) (scope := scope) (pos := pos) (cenv := cenv)
    show A.units + 0 + Code.cUnits _ + 16 * k ≤ 4000
    omega

/-- where the generator stands between two turns -/
def GenSt (prog : Program) (w : World) (A : Around) (D : Dat) (Fs : List Fact) (R : List Res) (St : Nat → Res) (G : Nat → List Value → List Fact → Prop) (C S : Addr) (n g i : Nat) (s : Shared) : Prop :=
  OkS D Fs R St G C S i s ∧ ∃ gs, s.gens[g]? = some gs ∧ ∀ s'', OkS D Fs R St G C S i s'' → gs.Goes (model prog w) A (genR D Fs R G C S n) (genY D Fs R St G C S n) (n - i) (.send .none) s''
theorem OkS.setGen {g i : Nat} {x : GenState} {s : Shared} (h : OkS D Fs R St G C S i s) (hx : x.bare = true) : OkS D Fs R St G C S i (s.setGen g x) := let ⟨acc, Gs, a, b⟩ := h; ⟨acc, Gs, a, b.setGen hx⟩
theorem setGen_get {s : Shared} {g : Nat} {x : GenState} (h : g < s.gens.size) : (s.setGen g x).gens[g]? = some x := by simp [Shared.setGen, h]

variable {E : Value → Shared → Prop} {a : Addr} {g : Nat} {K : Frag}
theorem At.push3 {r1 r2 : Res} {acc : List Value} {v : Value} {Fs' : List Fact} {s' : Shared} (H : At D Fs' (r1 :: r2 :: Lst S acc :: R) s') :
    At D Fs' (r1 :: r2 :: Lst S (acc ++ [v]) :: R) { s' with heap := s'.heap.update S (Obj.mapSeq (·.push v)) } := by
  obtain ⟨c, hS⟩ := H.res (Lst S acc) (.tail _ (.tail _ (.head _)))
  have e2 : acc.toArray.push v = (acc ++ [v]).toArray := by simp
  exact H.upd (r := Lst S acc) (r' := Lst S (acc ++ [v])) (R' := r1 :: r2 :: Lst S (acc ++ [v]) :: R) (h' := s'.heap.update S (Obj.mapSeq (·.push v))) (gens' := s'.gens) (tk := s'.toks) (.tail (.tail .head)) rfl
      (fun b o nb e => (Heap.get?_update_other _ _ (Ne.symm fun q => nb (List.mem_singleton.mpr q))).trans e) (by
        have := IsL.update hS (·.push v)
        simp only [e2] at this
        exact ⟨_, this⟩) H.gens
theorem gen_item {i : Nat} {s : Shared} {Q : Option Value → Shared → Prop} (W : Wd K D) (hA : Ok A k) (hgF : GenF a g ∈ Fs) (hng : g + 1 ≤ D.ng) (hi : i < n) (h : GenSt prog w A.in1 D Fs R St G C S n g i s)
    (hQ : ∀ v acc Gs s', G (i + 1) (acc ++ [v]) Gs → At D (Gs ++ Fs) (Vars C [] :: St (i + 1) :: Lst S acc :: R) s' →
      (∃ gs, s'.gens[g]? = some gs ∧ ∀ s'', OkS D Fs R St G C S (i + 1) s'' → gs.Goes (model prog w) A.in1 (genR D Fs R G C S n) (genY D Fs R St G C S n) (n - (i + 1)) (.send .none) s'') → Q (some v) s') :
    wpAny (model prog w) A (pyNext (.ref a)) Q E s := by
  obtain ⟨hok, gs, hgs, hgo⟩ := h
  obtain ⟨acc, Gs, hG, H⟩ := id hok
  have hni : n - i = (n - (i + 1)) + 1 := by omega
  rw [hni] at hgo
  refine wpAny_pyNext_genexpQ (P := fun k s₀ s₁ => k = 0 ∧ ∃ acc Gs, G n acc Gs ∧ At D (Gs ++ Fs) (Vars C [] :: Lst S acc :: R) s₁) hA.handled (H.lim W) hA.room (H.fact (List.mem_append_right _ hgF)) hgs (hgo _ (hok.setGen rfl)) (fun v s₁ gs' hb hv => ?_) (fun s₁ hp => absurd hp.1 (Nat.succ_ne_zero _))
  obtain ⟨i', acc', Gs', e1, e2, hG', H', hk⟩ := hv
  have hii : i' = i := by omega
  subst hii
  have hsz : g < s₁.gens.size := by have := H'.gens.2; omega
  exact hQ v acc' Gs' _ hG' (H'.setGen hb) ⟨gs', setGen_get hsz, fun s'' hok'' => hk s'' hok''⟩
theorem gen_done {s : Shared} {Q : Option Value → Shared → Prop} (W : Wd K D) (hA : Ok A k) (hgF : GenF a g ∈ Fs) (h : GenSt prog w A.in1 D Fs R St G C S n g n s)
    (hQ : ∀ acc Gs s', G n acc Gs → At D (Gs ++ Fs) (Vars C [] :: Lst S acc :: R) s' → Q none s') :
    wpAny (model prog w) A (pyNext (.ref a)) Q E s := by
  obtain ⟨hok, gs, hgs, hgo⟩ := h
  obtain ⟨acc, Gs, hG, H⟩ := id hok
  rw [Nat.sub_self] at hgo
  refine wpAny_pyNext_genexpQ (P := fun k s₀ s₁ => k = 0 ∧ ∃ acc Gs, G n acc Gs ∧ At D (Gs ++ Fs) (Vars C [] :: Lst S acc :: R) s₁) hA.handled (H.lim W) hA.room (H.fact (List.mem_append_right _ hgF)) hgs (hgo _ (hok.setGen rfl)) (fun v s₁ gs' hb hv => ?_) (fun s₁ hp h' hk => ?_)
  · obtain ⟨i', acc', Gs', e1, e2, hG', H', hk⟩ := hv
    exact (hk _ ⟨_, _, hG', H'.push3⟩ : False).elim
  · obtain ⟨_, acc', Gs', hG', H'⟩ := hp
    exact hQ acc' Gs' _ hG' ((H'.setGen (g := g) (x := .finished) rfl).keeps (tk := s₁.toks) hk)

theorem extend_loop {s : Shared} {Rk : Result → Shared → Prop} {res : Value} (W : Wd K D) (hA : Ok A (k + 1)) (hgF : GenF a g ∈ Fs) (hng : g + 1 ≤ D.ng) (hlen : ∀ i ys Gs, G i ys Gs → ys.length ≤ 1000000)
    (hR : ∀ acc Gs s', G n acc Gs → At D (Gs ++ Fs) (Vars C [] :: Lst S acc :: R) s' → Rk (.ok (.ret res)) s') :
    ∀ (j i : Nat) (s : Shared), n - i = j → i ≤ n → GenSt prog w A.in1.in1 D Fs R St G C S n g i s → codeAny (model prog w) A (.builtin "list.extend.loop" ⟨[.ref S, .ref a, res], []⟩) Rk s := by
  intro j
  induction j with
  | zero =>
    intro i s hj hi h
    have hin : i = n := by omega
    subst hin
    refine codeAny_builtin F.entry_extend_loop ?_
    rw [Around.under_plainId F.plain_extend_loop _]
    show wpAny _ A.in1 (pyNext (.ref a) >>= _) _ _ s
    exact wpAny_bind (gen_done (A := A.in1) W hA.in1 hgF h fun acc Gs s' hG H => wpAny_pure (hR acc Gs s' hG H))
  | succ j ih =>
    intro i s hj hi h
    have hlt : i < n := by omega
    refine codeAny_builtin F.entry_extend_loop ?_
    rw [Around.under_plainId F.plain_extend_loop _]
    show wpAny _ A.in1 (pyNext (.ref a) >>= _) _ _ s
    refine wpAny_bind (gen_item (A := A.in1) W hA.in1 hgF hng hlt h fun v acc Gs s' hG H hgs => ?_)
    have hl := hlen _ _ _ hG
    obtain ⟨c, hS⟩ := H.res (Lst S acc) (.tail _ (.tail _ (.head _)))
    show wpAny _ A.in1 (updateSeq S (·.push v) >>= _) _ _ _
    refine wpAny_bind ?_
    have H2 := H.push3 (v := v)
    refine wpAny_updateSeq hS rfl (wpAny_pure ⟨plainId_quiet F.plain_extend_loop _, ih (i + 1) _ (by omega) hlt ⟨⟨acc ++ [v], Gs, hG, H2⟩, hgs⟩⟩) ?_ ?_
    · simp only [List.size_toArray]; rw [sizeLine_eq]; simp at hl; omega
    · show (acc.toArray.push v).size ≤ sizeLine + 1
      rw [Array.size_push, List.size_toArray, sizeLine_eq]; simp at hl; omega

theorem my_collect {s : Shared} {Q : List Value → Shared → Prop} (W : Wd K D) (hA : Ok A (k + 3)) (hgF : GenF a g ∈ Fs) (hng : g + 1 ≤ D.ng) (hN : Nexts prog w D false I n St N V) (hm : N ∈ Fs) (hco : cenv.scope.isCoroutine = false)
    (hlen : ∀ i ys Gs, G i ys Gs → ys.length ≤ 1000000) (H : At D Fs (Vars C [] :: St 0 :: R) s) (h0 : G 0 [] [])
    (hgs : s.gens[g]? = some (.fresh (.compStart (.GeneratorExp elt [⟨.Name x px, iter, [], 0⟩] scope pos) 0 (.ref I) .none cenv)))
    (turn : ∀ S, Turn prog w D Fs R St V G C S n k (.Name x px) elt cenv)
    (hQ : ∀ acc Gs s', G n acc Gs → At D (Gs ++ Fs) R s' → Q acc s') : wpAny (model prog w) A (collect (.ref a)) Q E s := by
  unfold collect
  refine wpAny_bind (wpAny_runValue (codeAny_builtin F.entry_proto_collect ?_))
  rw [Around.under_plainId F.plain_proto_collect _]
  show wpAny _ A.in1 (newList [] >>= fun l => again (.builtin "list.__iadd__" ⟨[l, .ref a], []⟩)) _ _ s
  refine wpAny_bind (wpAny_newObj_type ?_)
  refine wpAny_pure ⟨plainId_quiet F.plain_list_iadd _, codeAny_builtin F.entry_list_iadd ?_⟩
  rw [Around.under_plainId F.plain_list_iadd _]
  have hg0 := H.fact hgF
  have H1 : At D Fs (Vars C [] :: St 0 :: Lst s.heap.objs.size [] :: R) { s with heap := s.heap.push { cls := .type "list", data := .seq ([] : List Value).toArray } } :=
    (H.pushL (vs := []) (tk := s.toks)).to (.cons .refl (.tail .head) (.cons .refl (.tail .head) (.cons .refl .head (Sub.refl _))))
  have hSI : s.heap.objs.size ≠ a := by obtain ⟨o, _, _, ho, _⟩ := hg0; exact fun e => Nat.lt_irrefl _ (e ▸ Heap.lt_size ho)
  have hg1 : ({ s with heap := s.heap.push { cls := .type "list", data := .seq ([] : List Value).toArray } } : Shared).heap.IsGen a g := H1.fact hgF
  show wpAny _ A.in1 (Builtin.List.listExtendWith (.ref s.heap.objs.size) (.ref a) (.ref s.heap.objs.size)) _ _ _
  unfold Builtin.List.listExtendWith
  refine wpAny_bind (wpAny_typeOf hg1.typeIs ?_)
  have h1 : Builtin.List.listSameRef (.ref s.heap.objs.size) (.ref a) = false := by simp [Builtin.List.listSameRef, hSI]
  have h2 : (Value.type "generator" == Value.type "list") = false := by decide
  have h3 : (Value.type "generator" == Value.type "tuple") = false := by decide
  simp only [h1, h2, h3, Bool.or_false, Bool.false_eq_true, if_false]
  refine wpAny_bind (wpAny_pyIter_gen hg1 ?_)
  refine wpAny_bind (wpAny_holding ?_)
  unfold Builtin.List.listLengthHint
  refine wpAny_bind (wpAny_specialOf hg1.typeIs F.gen_no_len ?_)
  show wpAny _ A.in1 (specialOf (Value.ref a) (Str.ofString "__length_hint__") >>= _) _ _ _
  refine wpAny_bind (wpAny_specialOf hg1.typeIs F.gen_no_hint ?_)
  refine wpAny_pure ?_
  show wpAny _ A.in1 (rule "list.extend.makes-room" >>= fun _ => Builtin.List.listTouch (.ref s.heap.objs.size) >>= fun _ =>
    again (.builtin "list.extend.loop" ⟨[.ref s.heap.objs.size, .ref a, .ref s.heap.objs.size], []⟩)) _ _ _
  refine wpAny_bind (wpAny_rule ?_)
  have hS₁ : (s.heap.push { cls := .type "list", data := .seq ([] : List Value).toArray }).get? s.heap.objs.size = some { cls := .type "list", data := .seq ([] : List Value).toArray } := Heap.get?_push_size _ rfl
  refine wpAny_bind ?_
  show wpAny _ A.in1 (updateSeq s.heap.objs.size (·.push .none) >>= fun _ => updateSeq s.heap.objs.size (·.pop)) _ _ _
  refine wpAny_bind (wpAny_updateSeq hS₁ rfl ?_)
  have hS₂ := Heap.get?_update_self (Obj.mapSeq (·.push Value.none)) hS₁ rfl
  refine wpAny_updateSeq hS₂ rfl ?_
  have hS₃ := Heap.get?_update_self (Obj.mapSeq (·.pop)) hS₂ rfl
  generalize hh3 : ((s.heap.push { cls := .type "list", data := .seq ([] : List Value).toArray }).update s.heap.objs.size (Obj.mapSeq (·.push Value.none))).update s.heap.objs.size (Obj.mapSeq (·.pop)) = h3 at hS₃ ⊢
  have oth : ∀ b o, b ≠ s.heap.objs.size → (s.heap.push { cls := .type "list", data := .seq ([] : List Value).toArray }).get? b = some o → h3.get? b = some o :=
    fun b o hb e => hh3 ▸ (Heap.get?_update_other _ _ (Ne.symm hb)).trans ((Heap.get?_update_other _ _ (Ne.symm hb)).trans e)
  have H3 : At D Fs (Vars C [] :: St 0 :: Lst s.heap.objs.size [] :: R) { s with heap := h3 } :=
    H1.upd (r := Lst s.heap.objs.size []) (r' := Lst s.heap.objs.size []) (h' := h3) (gens' := s.gens) (tk := s.toks) (.tail (.tail .head)) rfl (fun b o nb e => oth b o (fun q => nb (List.mem_singleton.mpr q)) e) ⟨_, hS₃⟩ H1.gens
  have st0 : GenSt prog w A.in1.in1 D Fs R St G C s.heap.objs.size n g 0 { s with heap := h3 } :=
    ⟨⟨[], [], h0, H3⟩, _, hgs, fun s'' hok => ⟨rfl, seg_start (A := A.in1.in1) hN hm hco hA.handled (Ok.over (k := k) (hA.in1.in1.mono (by omega))) (turn _) s'' s'' hok⟩⟩
  refine wpAny_pure ⟨plainId_quiet F.plain_extend_loop _, extend_loop (k := k + 2) (s := s) W hA hgF hng hlen (fun acc Gs s' hG H' => ?_) n 0 _ (Nat.sub_zero _) (Nat.zero_le _) st0⟩
  obtain ⟨c, hS⟩ := H'.res (Lst _ acc) (.tail _ (.head _))
  show wpAny _ A (load s.heap.objs.size >>= _) _ _ s'
  refine wpAny_bind (wpAny_load hS ?_)
  refine wpAny_pure ?_
  have e : acc.toArray.toList = acc := by simp
  show Q acc.toArray.toList s'
  rw [e]
  exact hQ acc Gs s' hG (H'.to (.drop (.drop (Sub.refl _))))

/-- tuple(x for ..) -/
theorem r_tupgen {s : Shared} {Q : Value → Shared → Prop} (W : Wd K D) (hA : Ok A (k + 5)) (hgF : GenF a g ∈ Fs) (hng : g + 1 ≤ D.ng) (hN : Nexts prog w D false I n St N V) (hm : N ∈ Fs) (hco : cenv.scope.isCoroutine = false)
    (hlen : ∀ i ys Gs, G i ys Gs → ys.length ≤ 1000000) (H : At D Fs (Vars C [] :: St 0 :: R) s) (h0 : G 0 [] [])
    (hgs : s.gens[g]? = some (.fresh (.compStart (.GeneratorExp elt [⟨.Name x px, iter, [], 0⟩] scope pos) 0 (.ref I) .none cenv)))
    (turn : ∀ S, Turn prog w D Fs R St V G C S n k (.Name x px) elt cenv)
    (hQ : ∀ t acc Gs s', G n acc Gs → At D (TupF t acc :: (Gs ++ Fs)) R s' → Q (.ref t) s') : wpAny (model prog w) A (call (.type "tuple") [.ref a]) Q E s := by
  have hTI := (H.fact hgF : s.heap.IsGen a g).typeIs
  refine callType_codes (Q₁ := fun obj s₁ => s₁.TypeIs obj "tuple" ∧ Q obj s₁) F.called_tuple (F.typeCall_tuple_1 _) F.entry_object_init ?_ fun obj s₁ h₁ => ?_
  · refine codeAny_of_tree ?_
    show wpAny _ A.in1.in1 (do checkBuiltinCall "tuple.__new__" ⟨[.type "tuple", .ref a], []⟩; again (.builtin "tuple.__new__" ⟨[.type "tuple", .ref a], []⟩)) _ _ s
    refine wpAny_bind (wpAny_of_eq (F.newCall_tuple_1 _) (wpAny_pure ⟨plainId_quiet F.plain_tuple_new _, codeAny_builtin F.entry_tuple_new ?_⟩))
    rw [Around.under_plainId F.plain_tuple_new _]
    have hsub := sub_tuple_self
    have hinit := init_tuple_lookup
    have hmh := madeHere_tuple
    have hAA : Ok A.in1.in1 (k + 3) := hA.in1.in1
    wp_walk using wpAny_typeOf hTI, my_collect (k := k) W hAA hgF hng hN hm hco hlen H h0 hgs turn
    intro acc Gs s' hG H'
    show wpAny _ _ (Builtin.Tuple.tupleExact acc.toArray >>= fun v => ret v) _ _ _
    unfold Builtin.Tuple.tupleExact
    have hl := hlen _ _ _ hG
    refine wpAny_bind (wpAny_newObj_type ?_ (by show acc.toArray.size ≤ sizeLine; rw [List.size_toArray, sizeLine_eq]; omega))
    exact wpAny_pure ⟨⟨_, Heap.get?_push_size _ rfl, rfl⟩, hQ _ acc Gs _ hG (H'.new (tk := s'.toks) rfl fun _ e => ⟨_, e, rfl, 0, rfl⟩)⟩
  · exact ⟨h₁.1, F.args_object_init_2 obj _, object_init_meets F.called_tuple.init.lookup F.called_tuple.made (by decide) prog w A.in1 _ s₁ ⟨h₁.1, rfl, h₁.2⟩⟩
end
end
end Mine

set_option maxRecDepth 100000
namespace Mine
open AutoSeq1 (wpAny_loadPart')

/-- a scalar: an int (read mod p) or a field element -/
def Sch (C : Addr) (p : Int) (h : Heap) (v : Value) (n : Int) : Prop := (∃ k t, v = .int k t ∧ n = k.fmod p) ∨ (∃ a, v = .ref a ∧ FQh C a p n h)
inductive Scs (C : Addr) (p : Int) (h : Heap) : List Value → List Int → Prop
  | nil : Scs C p h [] []
  | cons {v n vs ns} : Sch C p h v n → Scs C p h vs ns → Scs C p h (v :: vs) (n :: ns)
theorem Sch.ext {C : Addr} {p : Int} {h h' : Heap} {v : Value} {n : Int} (k : Ext h h') : Sch C p h v n → Sch C p h' v n
  | .inl x => .inl x
  | .inr ⟨a, e, q⟩ => .inr ⟨a, e, q.ext k⟩
theorem Scs.ext {C : Addr} {p : Int} {h h' : Heap} (k : Ext h h') {vs : List Value} {ns : List Int} (x : Scs C p h vs ns) : Scs C p h' vs ns := by
  induction x with
  | nil => exact .nil
  | cons a _ ih => exact .cons (a.ext k) ih
theorem Scs.length {C : Addr} {p : Int} {h : Heap} {vs : List Value} {ns : List Int} (x : Scs C p h vs ns) : vs.length = ns.length := by
  induction x with
  | nil => rfl
  | cons _ _ ih => simp [ih]
theorem Scs.at {C : Addr} {p : Int} {h : Heap} {vs : List Value} {ns : List Int} (x : Scs C p h vs ns) : ∀ (i : Nat) (v : Value), vs[i]? = some v → ∃ n, ns[i]? = some n ∧ Sch C p h v n := by
  induction x with
  | nil => intro i v e; simp at e
  | @cons v n vs ns q _ ih =>
    intro i v' e
    cases i with
    | zero => simp at e; subst e; exact ⟨n, rfl, q⟩
    | succ i => simpa using ih i v' (by simpa using e)
theorem Scs.ofInts {C : Addr} {p : Int} {h : Heap} {vs : List Value} {ns : List Int} (x : IntsAre vs ns) : Scs C p h vs (ns.map fun k => k.fmod p) := by
  induction x with
  | nil => exact .nil
  | cons n t _ ih => exact .cons (.inl ⟨n, t, rfl, rfl⟩) ih
theorem Scs.ofFQs {C : Addr} {p : Int} {h : Heap} {vs : List Value} {ns : List Int} (x : FQs C p h vs ns) : Scs C p h vs ns := by
  induction x with
  | nil => exact .nil
  | cons q _ ih => exact .cons (.inr ⟨_, rfl, q⟩) ih
def ScsF (C : Addr) (p : Int) (vs : List Value) (ns : List Int) : Fact := ⟨fun h => Scs C p h vs ns, fun k x => Scs.ext k x⟩
def SchF (C : Addr) (p : Int) (v : Value) (n : Int) : Fact := ⟨fun h => Sch C p h v n, fun k x => Sch.ext k x⟩

/-- a list or a tuple -/
def IsSeq (Fs : List Fact) (l : Addr) (vs : List Value) : Prop := ListF l vs ∈ Fs ∨ TupF l vs ∈ Fs
theorem IsSeq.up {Fs Fs' : List Fact} {l : Addr} {vs : List Value} (h : IsSeq Fs l vs) (k : ∀ F ∈ Fs, F ∈ Fs') : IsSeq Fs' l vs := h.imp (k _) (k _)

section
variable {prog : Program} {w : World} {M : Model} {A : Around} {E : Value → Shared → Prop} {D : Dat} {Fs : List Fact} {R R' : List Res} {s : Shared} {env : Env} {K : Frag} {n : Nat}
variable {l : Addr} {vs : List Value} {Q : Value → Shared → Prop}
theorem At.fact2 {F G : Fact} (H : At D (F :: Fs) R s) (h : ∀ h, F.holds h → G.holds h) : At D (G :: F :: Fs) R s := H.learn (.head _) h
theorem r_lenS (H : At D Fs R s) (hs : IsSeq Fs l vs) (hz : vs.length < 2 ^ 60) (h : ∀ t s', At D Fs R s' → Q (.int vs.length t) s') : wpAny (model prog w) A (call (.builtin "len") [.ref l]) Q E s := by
  rcases hs with hs | hs
  · exact r_lenL H hs hz h
  · exact r_lenT H hs hz h
theorem r_tupS (H : At D Fs R s) (hs : IsSeq Fs l vs) (hz : vs.length ≤ 1000000) (h : ∀ t s', At D (TupF t vs :: Fs) R s' → Q (.ref t) s') : wpAny (model prog w) A (call (.type "tuple") [.ref l]) Q E s := by
  rcases hs with hs | hs
  · exact r_tupL H (H.plF hs) hz h
  · exact r_tupT H hs (h _ _ (H.sub fun F hF => by
      rcases List.mem_cons.mp hF with rfl | hF
      · exact hs
      · exact hF))
theorem r_iterS (H : At D Fs R s) (hs : IsSeq Fs l vs)
    (h : ∀ I St N s', (∀ pair ng, Nexts prog w (D.withNg ng) pair I vs.length St N (fun i v F => vs[i]? = some v ∧ F = Tru)) → At D (N :: Fs) (St 0 :: R) s' → Q (.ref I) s') : wpAny (model prog w) A (pyIter (.ref l)) Q E s := by
  rcases hs with hs | hs
  · exact r_iterL H hs fun I s' hN H' => h I _ _ s' hN (H'.sub fun F hF => by
      rcases List.mem_cons.mp hF with rfl | hF
      · exact hs
      · exact hF)
  · exact r_iterT H hs fun I s' hN H' => h I _ _ s' hN (H'.sub fun F hF => by
      rcases List.mem_cons.mp hF with rfl | hF
      · exact hs
      · exact hF)

def EnumR (e it l : Addr) (tup : Bool) (i : Nat) : Res :=
  ⟨[e, it], fun h => (∃ old, IsEnum h e it i old) ∧ (if tup then h.IsTupleIter it l i else h.IsListIter it l i), fun k ⟨⟨old, a⟩, b⟩ => ⟨⟨old, k e (.head _) _ a⟩, by
      cases tup
      · exact Heap.IsListIter.at b fun o q => k it (.tail _ (.head _)) o q
      · exact Heap.IsTupleIter.at b fun o q => k it (.tail _ (.head _)) o q⟩,
    fun ⟨⟨_, a⟩, b⟩ c hc => by
      rcases List.mem_cons.mp hc with rfl | hc
      · exact Heap.lt_size a
      · rw [List.mem_singleton.mp hc]
        cases tup
        · obtain ⟨_, q, _⟩ := b; exact Heap.lt_size q
        · obtain ⟨_, q, _⟩ := b; exact Heap.lt_size q⟩
theorem nexts_enumL {e it : Addr} (hei : e ≠ it) (hle : l ≠ e) (hli : l ≠ it) : Nexts prog w D true e vs.length (EnumR e it l false) (ListF l vs) (fun i v F => ∃ T vals, v = .ref T ∧ (∃ t x, vs.toArray[i]? = some x ∧ vals = #[.int i t, x]) ∧ F = TupF T vals.toList) := by
  have q := Nexts.ofWalksT (D := D) (fun (A : Around) (hh : A.handled = none) => WalksT.enumerate (prog := prog) (w := w) hh e it l hei hle hli vs.toArray) (St := EnumR e it l false) (N := ListF l vs) (fun _ => rfl)
    (fun _ _ a b => ⟨a.1, a.2, Heap.PlainList.isList b⟩) (fun _ _ a => ⟨a.1, a.2.1⟩)
  simpa using q
end
section
variable {prog : Program} {w : World} {A : Around} {E : Value → Shared → Prop} {s : Shared}
theorem nextT_item {it t : Addr} {i : Nat} {items : Array Value} {x : Value} {Q : Value → Shared → Prop} (hit : s.heap.IsTupleIter it t i) (ht : s.heap.IsTuple t items) (hx : items[i]? = some x)
    (hQ : ∀ h', h'.IsTupleIter it t (i + 1) → Heap.SameBut it s.heap h' → Q x { s with heap := h' }) : wpAny (model prog w) A (Builtin.SmallTypes.nextOf (.ref it)) Q E s := by
  obtain ⟨o, ho, hc, hd⟩ := id hit
  obtain ⟨ol, hol, _, nl, hdl⟩ := ht
  unfold Builtin.SmallTypes.nextOf
  refine wpAny_bind (wpAny_callSpecial?_slot (name := Str.ofString "__next__") hit.typeIs F.slot_tuple_iterator_next
    (wpAny_call_entry F.slot_tuple_iterator_next hit.typeIs F.entry_tuple_iterator_next ?_ (F.args_tuple_iterator_next_1 _)))
  show wpAny _ _ (field (.ref it) 0 >>= _) _ _ s
  refine wpAny_bind (wpAny_field ho hd (x := .ref t) rfl ?_)
  show wpAny _ _ (if (Value.ref t == Value.none) = true then _ else _) _ _ s
  rw [if_neg (show ¬ ((Value.ref t == Value.none) = true) from Bool.false_ne_true)]
  show wpAny _ _ (field (.ref it) 1 >>= _) _ _ s
  refine wpAny_bind (wpAny_field ho hd (x := .int i 0) rfl ?_)
  show wpAny _ _ (seqItems? (.ref t) >>= _) _ _ s
  refine wpAny_bind (wpAny_seqItems hol hdl ?_)
  simp only [Int.toNat_natCast, hx]
  refine wpAny_bind (wpAny_setField ho hd (by simp) (wpAny_pure ⟨x, rfl, wpAny_pure (hQ _ ?_ (Heap.SameBut.update ..))⟩))
  exact ⟨_, Heap.get?_update_self _ ho (Obj.isFreed_of_fields (Obj.data_mapFields hd _)), (Obj.cls_mapFields ..).trans hc, by
    rw [Obj.data_mapFields hd]; simp [rawInt]⟩
theorem nextT_end {it t : Addr} {i : Nat} {items : Array Value} {Q : Value → Shared → Prop} (hh : A.handled = none) (hit : s.heap.IsTupleIter it t i) (ht : s.heap.IsTuple t items) (hx : items[i]? = none)
    (hE : ∀ h' e, Heap.ExtBut it s.heap h' → (∃ o, h'.get? e = some o ∧ o.cls = .type "StopIteration") → E (.ref e) { s with heap := h' }) : wpAny (model prog w) A (Builtin.SmallTypes.nextOf (.ref it)) Q E s := by
  obtain ⟨o, ho, hc, hd⟩ := id hit
  obtain ⟨ol, hol, _, nl, hdl⟩ := ht
  unfold Builtin.SmallTypes.nextOf
  refine wpAny_bind (wpAny_callSpecial?_slot (name := Str.ofString "__next__") hit.typeIs F.slot_tuple_iterator_next
    (wpAny_call_entry F.slot_tuple_iterator_next hit.typeIs F.entry_tuple_iterator_next ?_ (F.args_tuple_iterator_next_1 _)))
  show wpAny _ _ (field (.ref it) 0 >>= _) _ _ s
  refine wpAny_bind (wpAny_field ho hd (x := .ref t) rfl ?_)
  show wpAny _ _ (if (Value.ref t == Value.none) = true then _ else _) _ _ s
  rw [if_neg (show ¬ ((Value.ref t == Value.none) = true) from Bool.false_ne_true)]
  show wpAny _ _ (field (.ref it) 1 >>= _) _ _ s
  refine wpAny_bind (wpAny_field ho hd (x := .int i 0) rfl ?_)
  show wpAny _ _ (seqItems? (.ref t) >>= _) _ _ s
  refine wpAny_bind (wpAny_seqItems hol hdl ?_)
  simp only [Int.toNat_natCast, hx]
  refine wpAny_bind (wpAny_rule (wpAny_bind (wpAny_setField ho hd (by simp) ?_)))
  show wpAny _ _ (newExc (.type "StopIteration") [] >>= _) _ _ _
  refine wpAny_bind ?_
  simp only [newExc, newTuple]
  refine wpAny_bind (wpAny_newObj_type ?_ (by size_fits))
  refine wpAny_bind (m := firstArgMember _ _) (wpAny_of_eq (a := Value.none) (by first | rfl | (simp only [firstArgMember]; rfl)) ?_)
  refine wpAny_newObj_type ?_ (by size_fits)
  simp only [raiseNew]
  refine wpAny_bind (wpAny_handled ?_)
  first | rw [show A.in1.handled = none from hh] | rw [hh]
  refine wpAny_bind (wpAny_pure (wpAny_throw ?_))
  exact hE _ _ (((Heap.SameBut.update ..).extBut.push _).push _) ⟨_, Heap.get?_push_size _ rfl, rfl⟩
theorem drawsT (hh : A.handled = none) (it t : Addr) (hne : t ≠ it) (items : Array Value) :
    Draws prog w A it [it, t] items.size (fun i v => items[i]? = some v) (fun i h => h.IsTupleIter it t i ∧ h.IsTuple t items) where
  live := fun _ _ st => let ⟨o, h, _⟩ := st.1; ⟨o, h⟩
  frame := fun _ _ _ st hk => ⟨st.1.at fun o e => hk it (by simp) o e, st.2.at fun o e => hk t (by simp) o e⟩
  item := fun i s Q E hi st hQ => nextT_item st.1 st.2 (x := items[i]) (by simp [hi]) fun h' hit' hs' => hQ _ h' s.toks (by simp [hi]) ⟨hit', st.2.extBut hs'.extBut hne⟩ hs'
  done := fun s Q E st hE => nextT_end hh st.1 st.2 (by simp) fun h' e he hx => hE h' e he hx

theorem meets_enumT (l : Addr) (items : Array Value) (n : Nat) (dct : Option Addr) (sl : Array (Option Value)) :
    Meets (Builtin.«enumerate.__new__» ⟨[.type "enumerate", .ref l], []⟩) (fun _ R s => s.heap.get? l = some { cls := .type "tuple", dict := dct, data := .seq items n, slots := sl } ∧
      R (.ok (.ret (.ref (s.heap.push { cls := .type "tuple_iterator", data := .fields #[.ref l, .int 0 0] }).objs.size)))
        { s with heap := (s.heap.push { cls := .type "tuple_iterator", data := .fields #[.ref l, .int 0 0] }).push { cls := .type "enumerate", data := .fields #[.none, .bool false, .ref s.heap.objs.size, rawInt 0, .none, .none] } }) :=
  .of_wp fun prog w A R s h => by
    obtain ⟨hp, g, d, tk, os⟩ := s; obtain ⟨hl, h⟩ := h
    have hsub := sub_enumerate
    have hL : Heap.IsTuple (Shared.heap ⟨hp, g, d, tk, os⟩) l items := ⟨_, hl, rfl, n, rfl⟩
    wp_walk using wpAny_loadPart' hl
    refine wpAny_stack_any fun st => wpAny_pure ?_
    split
    · rename_i c _ _ _ _ _
      cases (c == Value.type "enumerate")
      · wp_walk using wpAny_loadPart' hl, wpAny_pyIter_tuple hL
        exact ⟨_, rfl, h⟩
      · wp_walk using wpAny_loadPart' hl, wpAny_pyIter_tuple hL
        exact ⟨_, rfl, h⟩
    · wp_walk using wpAny_loadPart' hl, wpAny_pyIter_tuple hL
      exact ⟨_, rfl, h⟩
end
section
variable {prog : Program} {w : World} {M : Model} {A : Around} {E : Value → Shared → Prop} {D : Dat} {Fs : List Fact} {R R' : List Res} {s : Shared} {env : Env} {K : Frag} {n : Nat}
variable {l : Addr} {vs : List Value} {Q : Value → Shared → Prop}
theorem nexts_enumT {e it : Addr} (hei : e ≠ it) (hle : l ≠ e) (hli : l ≠ it) : Nexts prog w D true e vs.length (EnumR e it l true) (TupF l vs) (fun i v F => ∃ T vals, v = .ref T ∧ (∃ t x, vs.toArray[i]? = some x ∧ vals = #[.int i t, x]) ∧ F = TupF T vals.toList) := by
  have q := Nexts.ofWalksT (D := D) (fun (A : Around) (hh : A.handled = none) => WalksT.enumerateD (prog := prog) (w := w) (drawsT (A := A.in1) hh it l hli vs.toArray) e hei (by simp; exact ⟨hei, Ne.symm hle⟩) (by simp)) (St := EnumR e it l true) (N := TupF l vs) (fun _ => rfl)
    (fun _ _ a b => ⟨a.1, a.2, b⟩) (fun _ _ a => ⟨a.1, a.2.1⟩)
  simpa using q
/-- enumerate(list or tuple) -/
theorem r_enumS (H : At D Fs R s) (hs : IsSeq Fs l vs)
    (h : ∀ I St N s', (∀ ng, Nexts prog w (D.withNg ng) true I vs.length St N (fun i v F => ∃ T vals, v = .ref T ∧ (∃ t x, vs.toArray[i]? = some x ∧ vals = #[.int i t, x]) ∧ F = TupF T vals.toList)) → At D (N :: Fs) (St 0 :: R) s' → Q (.ref I) s') :
    wpAny (model prog w) A (call (.type "enumerate") [.ref l]) Q E s := by
  rcases hs with hs | hs
  · have hl := H.fact hs
    have hlt : l < s.heap.objs.size := by obtain ⟨_, e⟩ := hl; exact Heap.lt_size e
    refine call_enumerate_list (Heap.PlainList.isList hl) fun h' he hit hz hk => h _ (EnumR (s.heap.objs.size + 1) s.heap.objs.size l false) (ListF l vs) _ (fun _ => nexts_enumL (Nat.succ_ne_self _) (Nat.ne_of_lt (Nat.lt_succ_of_lt hlt)) (Nat.ne_of_lt hlt)) ?_
    have H1 := H.own (r := EnumR (s.heap.objs.size + 1) s.heap.objs.size l false 0) (gens' := s.gens) (tk := s.toks) hk H.gens ⟨⟨_, he⟩, hit⟩ (by show [s.heap.objs.size + 1, s.heap.objs.size].Nodup; simp) fun b hb => by
      rcases List.mem_cons.mp hb with rfl | hb
      · exact Nat.le_succ _
      · rw [List.mem_singleton.mp hb]; exact Nat.le_refl _
    exact H1.sub fun F hF => by
      rcases List.mem_cons.mp hF with rfl | hF
      · exact hs
      · exact hF
  · have hl := H.fact hs
    have hlt : l < s.heap.objs.size := by obtain ⟨_, e, _⟩ := hl; exact Heap.lt_size e
    obtain ⟨⟨c, dct, dt, sl⟩, hl, hc, m, hd⟩ := hl
    replace hc : c = .type "tuple" := hc
    replace hd : dt = .seq vs.toArray m := hd
    subst hc hd
    refine callType_new F.called_enumerate (by decide) (F.typeCall_enumerate_1 _) (F.newCall_enumerate_1 _) (fun obj => F.args_object_init_2 obj _) F.entry_enumerate_new
      (meets_enumT l vs.toArray m dct sl) ⟨hl, ?_⟩
    have hz : (s.heap.push { cls := .type "tuple_iterator", data := .fields #[.ref l, .int 0 0] }).objs.size = s.heap.objs.size + 1 := Heap.size_push ..
    have he : IsEnum ((s.heap.push { cls := .type "tuple_iterator", data := .fields #[.ref l, .int 0 0] }).push
        { cls := .type "enumerate", data := .fields #[.none, .bool false, .ref s.heap.objs.size, rawInt 0, .none, .none] }) (s.heap.objs.size + 1) s.heap.objs.size 0 .none := by
      have := Heap.get?_push_size (s.heap.push { cls := .type "tuple_iterator", data := .fields #[.ref l, .int 0 0] })
        (o := { cls := .type "enumerate", data := .fields #[.none, .bool false, .ref s.heap.objs.size, rawInt 0, .none, .none] }) rfl
      rw [hz] at this; exact this
    show _ ∧ _
    rw [hz]
    refine ⟨⟨_, he, rfl⟩, h _ (EnumR (s.heap.objs.size + 1) s.heap.objs.size l true) (TupF l vs) _ (fun _ => nexts_enumT (Nat.succ_ne_self _) (Nat.ne_of_lt (Nat.lt_succ_of_lt hlt)) (Nat.ne_of_lt hlt)) ?_⟩
    have H1 := H.own (r := EnumR (s.heap.objs.size + 1) s.heap.objs.size l true 0) (gens' := s.gens) (tk := s.toks) ((Ext.push _ _).trans (Ext.push _ _)) H.gens ⟨⟨_, he⟩, ⟨_, Heap.get?_push_of_some _ (Heap.get?_push_size _ rfl), rfl, rfl⟩⟩ (by show [s.heap.objs.size + 1, s.heap.objs.size].Nodup; simp) fun b hb => by
      rcases List.mem_cons.mp hb with rfl | hb
      · exact Nat.le_succ _
      · rw [List.mem_singleton.mp hb]; exact Nat.le_refl _
    exact H1.sub fun F hF => by
      rcases List.mem_cons.mp hF with rfl | hF
      · exact hs
      · exact hF
theorem r_iterN {pair : Bool} {I : Addr} {St : Nat → Res} {N : Fact} {V : Nat → Value → Fact → Prop} {i : Nat} (hN : Nexts prog w D pair I n St N V) (H : At D Fs R s) (hh : A.handled = none) (hm : N ∈ Fs) (hr : St i ∈ R) (h : Q (.ref I) s) :
    wpAny (model prog w) A (pyIter (.ref I)) Q E s := hN.self hh H hm hr h
end
end Mine

set_option maxRecDepth 100000
namespace Mine
open AutoSeq1 (wpAny_loadPart')

def ZipR (z TI TO i1 i2 l1 l2 : Addr) (k : Nat) : Res :=
  ⟨[z, TO, i1, i2], fun h => IsZip h z TI TO .none ∧ (∃ a b, IsPair h TO a b) ∧ h.IsTupleIter i1 l1 k ∧ h.IsTupleIter i2 l2 k,
    fun k ⟨a, ⟨x, y, b⟩, c, d⟩ => ⟨k z (by simp) _ a, ⟨x, y, k TO (by simp) _ b⟩, c.at fun o e => k i1 (by simp) o e, d.at fun o e => k i2 (by simp) o e⟩,
    fun ⟨a, ⟨x, y, b⟩, ⟨o1, c, _⟩, ⟨o2, d, _⟩⟩ q hq => by
      simp only [List.mem_cons, List.not_mem_nil, or_false] at hq
      rcases hq with rfl | rfl | rfl | rfl
      · exact Heap.lt_size a
      · exact Heap.lt_size b
      · exact Heap.lt_size c
      · exact Heap.lt_size d⟩
def ZipN (TI i1 i2 l1 l2 : Addr) (xs ys : List Value) : Fact := ⟨fun h => IsPair h TI (.ref i1) (.ref i2) ∧ h.IsTuple l1 xs.toArray ∧ h.IsTuple l2 ys.toArray, fun k ⟨a, b, c⟩ => ⟨k _ _ a, IsTuple.ext k b, IsTuple.ext k c⟩⟩

section
variable {prog : Program} {w : World} {A : Around} {E : Value → Shared → Prop} {s : Shared} {z TI TO i1 i2 l1 l2 : Addr}
theorem zipT_item {k : Nat} {xs ys : Array Value} {x y a b : Value} {Q : Value → Shared → Prop} (D : ZipApart z TI TO i1 i2 l1 l2)
    (hz : IsZip s.heap z TI TO .none) (hTI : IsPair s.heap TI (.ref i1) (.ref i2)) (hTO : IsPair s.heap TO a b)
    (h1 : s.heap.IsTupleIter i1 l1 k) (h2 : s.heap.IsTupleIter i2 l2 k) (hl1 : s.heap.IsTuple l1 xs) (hl2 : s.heap.IsTuple l2 ys) (hx : xs[k]? = some x) (hy : ys[k]? = some y)
    (hQ : ∀ h', IsZip h' z TI TO (rawInt s.heap.objs.size) → IsPair h' TO x y → h'.IsTupleIter i1 l1 (k + 1) → h'.IsTupleIter i2 l2 (k + 1) → IsPair h' s.heap.objs.size x y →
      (∀ c o, c ≠ z → c ≠ TO → c ≠ i1 → c ≠ i2 → s.heap.get? c = some o → h'.get? c = some o) → Q (.ref s.heap.objs.size) { s with heap := h' }) :
    wpAny (model prog w) A (Builtin.«zip.__next__» ⟨[.ref z], []⟩) (fun fin s' => ∃ v, fin = .done (.ret v) ∧ Q v s') E s := by
  show wpAny _ _ (field (.ref z) 2 >>= _) _ _ _
  refine wpAny_bind (wpAny_field hz rfl (x := .bool false) rfl ?_)
  show wpAny _ _ (field (.ref z) 3 >>= _) _ _ _
  refine wpAny_bind (wpAny_field hz rfl (x := .ref TI) rfl ?_)
  refine wpAny_bind (wpAny_seqItems hTI rfl ?_)
  show wpAny _ _ (Builtin.SmallTypes.ownedTupleIsFree (.ref z) >>= _) _ _ _
  refine wpAny_bind ?_
  unfold Builtin.SmallTypes.ownedTupleIsFree
  refine wpAny_bind (wpAny_field hz rfl (x := .none) rfl (wpAny_pure ?_))
  simp only [if_true]
  refine wpAny_bind (wpAny_rule ?_)
  refine wpAny_bind (wpAny_field hz rfl (x := .ref TO) rfl ?_)
  refine wpAny_bind (wpAny_setField_rec hz (by simp) fun h₁ hz₁ hs₁ => ?_)
  replace hz₁ : IsZip h₁ z TI TO .ellipsis := hz₁
  refine wpAny_bind ?_
  simp only [List.zipIdx_cons, List.zipIdx_nil, List.forIn_cons, List.forIn_nil]
  refine wpAny_bind (wpAny_bind (wpAny_onRaise ?_))
  show wpAny _ _ (Builtin.SmallTypes.nextOf (.ref i1) >>= _) _ _ _
  refine wpAny_bind (nextT_item (h1.extBut hs₁.extBut D.i1z) (hl1.extBut hs₁.extBut D.l1z) hx fun h₂ h1₂ hs₂ => wpAny_pure ?_)
  have hTO₂ : IsPair h₂ TO a b := hs₂.extBut _ _ D.TOi1 (hs₁.extBut _ _ D.TOz hTO)
  refine wpAny_bind (wpAny_seqItems hTO₂ rfl ?_)
  refine wpAny_bind (wpAny_updateSeq_pair hTO₂ fun h₃ hTO₃ hs₃ => ?_)
  replace hTO₃ : IsPair h₃ TO x b := hTO₃
  refine wpAny_bind (wpAny_letGo (wpAny_pure ?_))
  refine wpAny_bind (wpAny_bind (wpAny_onRaise ?_))
  show wpAny _ _ (Builtin.SmallTypes.nextOf (.ref i2) >>= _) _ _ _
  refine wpAny_bind (nextT_item (((h2.extBut hs₁.extBut D.i2z).extBut hs₂.extBut D.i12.symm).extBut hs₃.extBut D.TOi2.symm)
    (((hl2.extBut hs₁.extBut D.l2z).extBut hs₂.extBut D.l2i1).extBut hs₃.extBut D.l2TO) hy fun h₄ h2₄ hs₄ => wpAny_pure ?_)
  have hTO₄ : IsPair h₄ TO x b := hs₄.extBut _ _ D.TOi2 hTO₃
  refine wpAny_bind (wpAny_seqItems hTO₄ rfl ?_)
  refine wpAny_bind (wpAny_updateSeq_pair hTO₄ fun h₅ hTO₅ hs₅ => ?_)
  replace hTO₅ : IsPair h₅ TO x y := hTO₅
  refine wpAny_bind (wpAny_letGo (wpAny_pure (wpAny_pure ?_)))
  refine wpAny_bind (wpAny_seqItems hTO₅ rfl ?_)
  refine wpAny_bind (wpAny_newTuple ?_)
  have hsz : h₅.objs.size = s.heap.objs.size := by rw [hs₅.1, hs₄.1, hs₃.1, hs₂.1, hs₁.1]
  have hz₅ : IsZip h₅ z TI TO .ellipsis := hs₅.extBut _ _ D.TOz.symm (hs₄.extBut _ _ D.i2z.symm (hs₃.extBut _ _ D.TOz.symm (hs₂.extBut _ _ D.i1z.symm hz₁)))
  have hk₅ : ∀ c o, c ≠ z → c ≠ TO → c ≠ i1 → c ≠ i2 → s.heap.get? c = some o → h₅.get? c = some o := fun c o c1 c2 c3 c4 e =>
    hs₅.extBut _ _ c2 (hs₄.extBut _ _ c4 (hs₃.extBut _ _ c2 (hs₂.extBut _ _ c3 (hs₁.extBut _ _ c1 e))))
  have h1₅ : h₅.IsTupleIter i1 l1 (k + 1) := ((h1₂.extBut hs₃.extBut D.TOi1.symm).extBut hs₄.extBut D.i12).extBut hs₅.extBut D.TOi1.symm
  have h2₅ : h₅.IsTupleIter i2 l2 (k + 1) := h2₄.extBut hs₅.extBut D.TOi2.symm
  have hzlt : z < h₅.objs.size := Heap.lt_size hz₅
  show wpAny _ _ (Builtin.SmallTypes.ownedTupleHandOut (.ref z) (.ref h₅.objs.size) >>= _) _ _ _
  refine wpAny_bind ?_
  unfold Builtin.SmallTypes.ownedTupleHandOut
  have hz₆ : IsZip (h₅.push { cls := .type "tuple", data := .seq #[x, y] }) z TI TO .ellipsis := Heap.get?_push_of_some _ hz₅
  refine wpAny_bind (wpAny_setField_rec hz₆ (by simp) fun h₇ hz₇ hs₇ => ?_)
  replace hz₇ : IsZip h₇ z TI TO (rawInt h₅.objs.size) := hz₇
  refine wpAny_setField_rec hz₇ (by simp) fun h₈ hz₈ hs₈ => ?_
  replace hz₈ : IsZip h₈ z TI TO (rawInt h₅.objs.size) := hz₈
  have up : ∀ c o, c ≠ z → h₅.get? c = some o → h₈.get? c = some o := fun c o c1 e => hs₈.extBut _ _ c1 (hs₇.extBut _ _ c1 (Heap.get?_push_of_some _ e))
  have hT₈ : IsPair h₈ h₅.objs.size x y := hs₈.extBut _ _ (Nat.ne_of_gt hzlt) (hs₇.extBut _ _ (Nat.ne_of_gt hzlt) (Heap.get?_push_size _ rfl))
  rw [hsz] at hz₈ hT₈
  refine wpAny_pure ⟨_, rfl, ?_⟩
  show Q (.ref h₅.objs.size) _
  rw [hsz]
  exact hQ h₈ hz₈ (up _ _ D.TOz hTO₅) (h1₅.at fun o e => up _ o D.i1z e) (h2₅.at fun o e => up _ o D.i2z e) hT₈ fun c o c1 c2 c3 c4 e => up c o c1 (hk₅ c o c1 c2 c3 c4 e)
theorem zipT_end {k : Nat} {xs : Array Value} {a b : Value} {Q : Fin → Shared → Prop} (hh : A.handled = none) (D : ZipApart z TI TO i1 i2 l1 l2)
    (hz : IsZip s.heap z TI TO .none) (hTI : IsPair s.heap TI (.ref i1) (.ref i2)) (hTO : IsPair s.heap TO a b)
    (h1 : s.heap.IsTupleIter i1 l1 k) (hl1 : s.heap.IsTuple l1 xs) (hend : xs[k]? = none)
    (hE : ∀ h' e, (∀ c o, c ≠ z → c ≠ TO → c ≠ i1 → c ≠ i2 → s.heap.get? c = some o → h'.get? c = some o) → (∃ o, h'.get? e = some o ∧ o.cls = .type "StopIteration") → E (.ref e) { s with heap := h' }) :
    wpAny (model prog w) A (Builtin.«zip.__next__» ⟨[.ref z], []⟩) Q E s := by
  show wpAny _ _ (field (.ref z) 2 >>= _) _ _ _
  refine wpAny_bind (wpAny_field hz rfl (x := .bool false) rfl ?_)
  show wpAny _ _ (field (.ref z) 3 >>= _) _ _ _
  refine wpAny_bind (wpAny_field hz rfl (x := .ref TI) rfl ?_)
  refine wpAny_bind (wpAny_seqItems hTI rfl ?_)
  show wpAny _ _ (Builtin.SmallTypes.ownedTupleIsFree (.ref z) >>= _) _ _ _
  refine wpAny_bind ?_
  unfold Builtin.SmallTypes.ownedTupleIsFree
  refine wpAny_bind (wpAny_field hz rfl (x := .none) rfl (wpAny_pure ?_))
  simp only [if_true]
  refine wpAny_bind (wpAny_rule ?_)
  refine wpAny_bind (wpAny_field hz rfl (x := .ref TO) rfl ?_)
  refine wpAny_bind (wpAny_setField_rec hz (by simp) fun h₁ hz₁ hs₁ => ?_)
  replace hz₁ : IsZip h₁ z TI TO .ellipsis := hz₁
  refine wpAny_bind ?_
  simp only [List.zipIdx_cons, List.zipIdx_nil, List.forIn_cons, List.forIn_nil]
  refine wpAny_bind (wpAny_bind (wpAny_onRaise ?_))
  show wpAny _ _ (Builtin.SmallTypes.nextOf (.ref i1) >>= _) _ _ _
  refine wpAny_bind (nextT_end hh (h1.extBut hs₁.extBut D.i1z) (hl1.extBut hs₁.extBut D.l1z) hend fun h₂ e hs₂ he => ?_)
  obtain ⟨oe, hoe, hce⟩ := he
  have hz₂ : IsZip h₂ z TI TO .ellipsis := hs₂ _ _ D.i1z.symm hz₁
  have hez : e ≠ z := fun x => by subst x; rw [hz₂] at hoe; cases hoe; simp at hce
  exact wpAny_setField_rec hz₂ (by simp) fun h₃ _ hs₃ => hE h₃ e (fun c o c1 _ c3 _ x => hs₃.extBut _ _ c1 (hs₂ _ _ c3 (hs₁.extBut _ _ c1 x))) ⟨oe, hs₃.extBut _ _ hez hoe, hce⟩

theorem meets_zipT (l1 l2 : Addr) (xs ys : Array Value) :
    Meets (Builtin.«zip.__new__» ⟨[.type "zip", .ref l1, .ref l2], []⟩) (fun _ R s => s.heap.IsTuple l1 xs ∧ s.heap.IsTuple l2 ys ∧
      R (.ok (.ret (.ref (s.heap.objs.size + 4))))
        { s with heap := ((((s.heap.push { cls := .type "tuple_iterator", data := .fields #[.ref l1, .int 0 0] }).push { cls := .type "tuple_iterator", data := .fields #[.ref l2, .int 0 0] }).push { cls := .type "tuple", data := .seq #[.ref s.heap.objs.size, .ref (s.heap.objs.size + 1)] }).push { cls := .type "tuple", data := .seq #[.none, .none] }).push { cls := .type "zip", data := .fields #[.none, .bool false, .bool false, .ref (s.heap.objs.size + 2), .ref (s.heap.objs.size + 3)] } }) :=
  .of_wp fun prog w A R s h => by
    obtain ⟨hp, g, d, tk, os⟩ := s; obtain ⟨hl1, hl2, h⟩ := h
    have hsub := sub_zip
    have hL1 : Heap.IsTuple (Shared.heap ⟨hp, g, d, tk, os⟩) l1 xs := hl1
    have hL2 : Heap.IsTuple (Shared.heap ⟨hp.push { cls := .type "tuple_iterator", data := .fields #[.ref l1, .int 0 0] }, g, d, tk, os⟩) l2 ys := Heap.IsTuple.push hl2 _
    wp_walk using wpAny_pyIter_tuple hL1, wpAny_pyIter_tuple hL2
    refine ⟨_, rfl, ?_⟩
    simp only [Heap.size_push] at h ⊢
    exact h
end
section
variable {prog : Program} {w : World} {M : Model} {A : Around} {E : Value → Shared → Prop} {D : Dat} {Fs : List Fact} {R R' : List Res} {s : Shared} {env : Env} {K : Frag} {n : Nat}
variable {l1 l2 : Addr} {xs ys : List Value} {Q : Value → Shared → Prop}
theorem nexts_zip {z TI TO i1 i2 : Addr} (Z : ZipApart z TI TO i1 i2 l1 l2) (hlen : xs.length = ys.length) :
    Nexts prog w D true z xs.length (ZipR z TI TO i1 i2 l1 l2) (ZipN TI i1 i2 l1 l2 xs ys) (fun i v F => ∃ T x y, v = .ref T ∧ xs[i]? = some x ∧ ys[i]? = some y ∧ F = TupF T [x, y]) where
  item := by
    rintro target A E Fs R R' s i Q ⟨elts, k, pos, rfl⟩ hh hi H hN hp h
    obtain ⟨hz, ⟨a, b, hTO⟩, h1, h2⟩ := H.res _ hp.mem
    obtain ⟨hTI, hl1, hl2⟩ := H.fact hN
    have hT : s.TypeIs (.ref z) "zip" := ⟨_, hz, rfl⟩
    have hi2 : i < ys.length := hlen ▸ hi
    unfold pyNext
    refine wpAny_bind (wpAny_attempt (wpAny_callSpecial?_slot (name := Str.ofString "__next__") hT F.slot_zip_next
      (wpAny_call_entry F.slot_zip_next hT F.entry_zip_next
        (zipT_item (x := xs[i]) (y := ys[i]) Z hz hTI hTO h1 h2 hl1 hl2 (by simp [hi]) (by simp [hi2]) fun h' a1 a2 a3 a4 a5 a7 => wpAny_pure ⟨_, rfl, ?_⟩) (F.args_zip_next_1 _))))
    have hfp : ∀ j, (ZipR z TI TO i1 i2 l1 l2 j).fp = [z, TO, i1, i2] := fun _ => rfl
    refine wpAny_letOwnedTupleGo_zip a1 fun h'' hz' hs' => ?_
    have keep : ∀ c o, c ∉ [z, TO, i1, i2] → s.heap.get? c = some o → h''.get? c = some o := fun c o nc e => by
      simp only [List.mem_cons, List.not_mem_nil, or_false, not_or] at nc
      exact hs'.extBut _ _ nc.1 (a7 c o nc.1 nc.2.1 nc.2.2.1 nc.2.2.2 e)
    have st : (ZipR z TI TO i1 i2 l1 l2 (i + 1)).holds h'' := ⟨hz', ⟨_, _, hs'.extBut _ _ Z.TOz a2⟩, a3.extBut hs'.extBut Z.i1z, a4.extBut hs'.extBut Z.i2z⟩
    have H1 := H.upd (h' := h'') (gens' := s.gens) (tk := s.toks) hp rfl (fun c o nb e => keep c o nb e) st H.gens
    have ltz : ∀ {c o}, s.heap.get? c = some o → s.heap.objs.size ≠ c := fun e => Nat.ne_of_gt (Heap.lt_size e)
    refine h _ (TupF s.heap.objs.size [xs[i], ys[i]]) _ ⟨_, _, _, rfl, by simp [hi], by simp [hi2], rfl⟩ ⟨H1.os, H1.gens, H1.tab, H1.cs, H1.nodup, H1.res, H1.base, fun F hF => ?_⟩
    rcases List.mem_cons.mp hF with rfl | hF
    · refine ⟨_, hideAll_get _ (hs'.extBut _ _ (ltz hz) a5) fun hm => ?_, rfl, _, rfl⟩
      have := H.lt s.heap.objs.size (by have efp := hp.fps_eq rfl; rw [efp] at hm; exact hm)
      exact Nat.lt_irrefl _ this
    · exact H1.facts F hF
  done := by
    intro A E Fs R R' s Q hh H hN hp h
    obtain ⟨hz, ⟨a, b, hTO⟩, h1, h2⟩ := H.res _ (hp.perm.mem_iff.mpr (.head _))
    obtain ⟨hTI, hl1, hl2⟩ := H.fact hN
    have hT : s.TypeIs (.ref z) "zip" := ⟨_, hz, rfl⟩
    unfold pyNext
    refine wpAny_bind (wpAny_attempt (wpAny_callSpecial?_slot (name := Str.ofString "__next__") hT F.slot_zip_next
      (wpAny_call_entry F.slot_zip_next hT F.entry_zip_next (zipT_end hh Z hz hTI hTO h1 hl1 (by simp) fun h' e hk he => ?_) (F.args_zip_next_1 _))))
    obtain ⟨o, ho, hc⟩ := he
    refine wpAny_bind (wpAny_isInstance (T := "StopIteration") (b := true) ⟨o, ho, hc⟩ isSubtype_stop ?_)
    refine wpAny_pure (h _ (H.updDrop (gens' := s.gens) (tk := s.toks) hp (fun c o nc e => ?_) H.gens))
    have nc' : c ∉ [z, TO, i1, i2] := nc
    simp only [List.mem_cons, List.not_mem_nil, or_false, not_or] at nc'
    exact hk c o nc'.1 nc'.2.1 nc'.2.2.1 nc'.2.2.2 e
  self := by
    intro A E Fs R s i Q hh H hN hm h
    obtain ⟨hz, _⟩ := H.res _ hm
    exact wpAny_pyIter_zip hz h
/-- zip(tuple, tuple) -/
theorem r_zip (H : At D Fs R s) (h1 : TupF l1 xs ∈ Fs) (h2 : TupF l2 ys ∈ Fs) (hlen : xs.length = ys.length)
    (h : ∀ I St N s', (∀ ng, Nexts prog w (D.withNg ng) true I xs.length St N (fun i v F => ∃ T x y, v = .ref T ∧ xs[i]? = some x ∧ ys[i]? = some y ∧ F = TupF T [x, y])) → At D (N :: Fs) (St 0 :: R) s' → Q (.ref I) s') :
    wpAny (model prog w) A (call (.type "zip") [.ref l1, .ref l2]) Q E s := by
  have t1 := H.fact h1
  have t2 := H.fact h2
  have lt1 : l1 < s.heap.objs.size := by obtain ⟨_, e, _⟩ := t1; exact Heap.lt_size e
  have lt2 : l2 < s.heap.objs.size := by obtain ⟨_, e, _⟩ := t2; exact Heap.lt_size e
  refine callType_new F.called_zip (by decide) (F.typeCall_zip_2 _ _) (F.newCall_zip_2 _ _) (fun obj => F.args_object_init_3 obj _ _) F.entry_zip_new
    (meets_zipT l1 l2 xs.toArray ys.toArray) ⟨t1, t2, ?_⟩
  generalize hh5 : ((((s.heap.push { cls := .type "tuple_iterator", data := .fields #[.ref l1, .int 0 0] }).push { cls := .type "tuple_iterator", data := .fields #[.ref l2, .int 0 0] }).push { cls := .type "tuple", data := .seq #[.ref s.heap.objs.size, .ref (s.heap.objs.size + 1)] }).push { cls := .type "tuple", data := .seq #[.none, .none] }).push { cls := .type "zip", data := .fields #[.none, .bool false, .bool false, .ref (s.heap.objs.size + 2), .ref (s.heap.objs.size + 3)] } = h5
  have ext : Ext s.heap h5 := hh5 ▸ (Ext.push _ _).trans ((Ext.push _ _).trans ((Ext.push _ _).trans ((Ext.push _ _).trans (Ext.push _ _))))
  have g1 : h5.get? s.heap.objs.size = some { cls := .type "tuple_iterator", data := .fields #[.ref l1, .int 0 0] } := hh5 ▸ Heap.get?_push_of_some _ (Heap.get?_push_of_some _ (Heap.get?_push_of_some _ (Heap.get?_push_of_some _ (Heap.get?_push_size _ rfl))))
  have g2 : h5.get? (s.heap.objs.size + 1) = some { cls := .type "tuple_iterator", data := .fields #[.ref l2, .int 0 0] } := by
    have q := Heap.get?_push_size (s.heap.push { cls := .type "tuple_iterator", data := .fields #[.ref l1, .int 0 0] }) (o := { cls := .type "tuple_iterator", data := .fields #[.ref l2, .int 0 0] }) rfl
    rw [Heap.size_push] at q
    exact hh5 ▸ Heap.get?_push_of_some _ (Heap.get?_push_of_some _ (Heap.get?_push_of_some _ q))
  have g3 : h5.get? (s.heap.objs.size + 2) = some { cls := .type "tuple", data := .seq #[.ref s.heap.objs.size, .ref (s.heap.objs.size + 1)] } := by
    have q := Heap.get?_push_size ((s.heap.push { cls := .type "tuple_iterator", data := .fields #[.ref l1, .int 0 0] }).push { cls := .type "tuple_iterator", data := .fields #[.ref l2, .int 0 0] }) (o := { cls := .type "tuple", data := .seq #[.ref s.heap.objs.size, .ref (s.heap.objs.size + 1)] }) rfl
    rw [Heap.size_push, Heap.size_push] at q
    exact hh5 ▸ Heap.get?_push_of_some _ (Heap.get?_push_of_some _ q)
  have g4 : h5.get? (s.heap.objs.size + 3) = some { cls := .type "tuple", data := .seq #[.none, .none] } := by
    have q := Heap.get?_push_size (((s.heap.push { cls := .type "tuple_iterator", data := .fields #[.ref l1, .int 0 0] }).push { cls := .type "tuple_iterator", data := .fields #[.ref l2, .int 0 0] }).push { cls := .type "tuple", data := .seq #[.ref s.heap.objs.size, .ref (s.heap.objs.size + 1)] }) (o := { cls := .type "tuple", data := .seq #[.none, .none] }) rfl
    rw [Heap.size_push, Heap.size_push, Heap.size_push] at q
    exact hh5 ▸ Heap.get?_push_of_some _ q
  have g5 : h5.get? (s.heap.objs.size + 4) = some { cls := .type "zip", data := .fields #[.none, .bool false, .bool false, .ref (s.heap.objs.size + 2), .ref (s.heap.objs.size + 3)] } := by
    have q := Heap.get?_push_size ((((s.heap.push { cls := .type "tuple_iterator", data := .fields #[.ref l1, .int 0 0] }).push { cls := .type "tuple_iterator", data := .fields #[.ref l2, .int 0 0] }).push { cls := .type "tuple", data := .seq #[.ref s.heap.objs.size, .ref (s.heap.objs.size + 1)] }).push { cls := .type "tuple", data := .seq #[.none, .none] })
      (o := { cls := .type "zip", data := .fields #[.none, .bool false, .bool false, .ref (s.heap.objs.size + 2), .ref (s.heap.objs.size + 3)] }) rfl
    rw [Heap.size_push, Heap.size_push, Heap.size_push, Heap.size_push] at q
    exact hh5 ▸ q
  refine ⟨⟨_, g5, rfl⟩, ?_⟩
  generalize hm : (s.heap.objs.size : Nat) = m at *
  replace lt1 : @LT.lt Nat _ l1 m := lt1
  replace lt2 : @LT.lt Nat _ l2 m := lt2
  have Z : ZipApart (m + 4) (m + 2) (m + 3) m (m + 1) l1 l2 := by
    constructor <;> first | exact Nat.ne_of_lt (by omega) | exact Nat.ne_of_gt (by omega)
  refine h (m + 4) (ZipR (m + 4) (m + 2) (m + 3) m (m + 1) l1 l2) (ZipN (m + 2) m (m + 1) l1 l2 xs ys) _ (fun _ => nexts_zip Z hlen) ?_
  have nd : [m + 4, m + 3, m, m + 1].Nodup := by simp
  have H1 := H.own (r := ZipR (m + 4) (m + 2) (m + 3) m (m + 1) l1 l2 0) (gens' := s.gens) (tk := s.toks) ext H.gens ⟨g5, ⟨_, _, g4⟩, ⟨_, g1, rfl, rfl⟩, ⟨_, g2, rfl, rfl⟩⟩ nd fun b hb => by
    have hb' : b ∈ [m + 4, m + 3, m, m + 1] := hb
    simp only [List.mem_cons, List.not_mem_nil, or_false] at hb'
    rw [hm]
    rcases hb' with rfl | rfl | rfl | rfl <;> first | exact Nat.le_refl _ | exact Nat.le_add_right _ _
  refine ⟨H1.os, H1.gens, H1.tab, H1.cs, H1.nodup, H1.res, H1.base, fun F hF => ?_⟩
  rcases List.mem_cons.mp hF with rfl | hF
  · refine ⟨hideAll_get _ g3 fun hmm => ?_, H1.facts _ h1, H1.facts _ h2⟩
    rcases List.mem_append.mp hmm with q | q
    · have := H.lt _ (List.mem_append_left _ q); rw [hm] at this; exact absurd this (Nat.not_lt.mpr (Nat.le_add_right _ _))
    · rcases List.mem_append.mp (show _ ∈ [m + 4, m + 3, m, m + 1] ++ fps R from q) with q | q
      · simp at q
      · have := H.lt _ (List.mem_append_right _ q); rw [hm] at this; exact absurd this (Nat.not_lt.mpr (Nat.le_add_right _ _))
  · exact H1.facts F hF

theorem r_methR {name : Str} {pl : Sem Bool} {f y C dx : Addr} {m : Str → Option Value} {ns : List Str} {Q : Value × List Value → Shared → Prop} (W : Wd K D) (H : At D Fs R s) (hx : Cell y (instObj C dx) ∈ Fs) (hm : DRes dx m ns ∈ R) (hg : plainGet K C name = true) (hf : findIn K (.ref C) name = some (some (.ref f))) (ht : isFn K (.ref f) = true)
    (hl : m name = none) (h : Q (.ref f, [.ref y]) s) : wpAny (model prog w) A (getMethod (.ref y) name pl) Q E s := by
  obtain ⟨ox, od, I, hlk⟩ := Inst.at ⟨dx, H.fact hx, (H.res _ hm).1.ns⟩
  exact method_fn (At.kin W H) I (plainGet_of hg).1 (plainGet_of hg).2 hf (beq_iff_eq.mp ht) (by show (lookIn name od).map _ = _; rw [hlk, hl]; rfl) h
theorem At.mkPln {dx x C CQ : Addr} {p : Int} {m : Str → Option Value} {nm : List Str} {ns ms : List Int} {tC tM : Addr} {vs us : List Value} (H : At D Fs R s) (hx : Cell x (instObj C dx) ∈ Fs) (hr : Rm (DRes dx m nm) R R')
    (h1 : TupF tC vs ∈ Fs) (h2 : FQsF CQ p vs ns ∈ Fs) (h3 : TupF tM us ∈ Fs) (h4 : IntsAre us ms)
    (a1 : ∃ t, m "field_modulus" = some (.int p t)) (a2 : m "coeffs" = some (.ref tC)) (a3 : m "modulus_coeffs" = some (.ref tM)) (a4 : ∃ t, m "degree" = some (.int ms.length t))
    (a5 : ∀ z : Str, z ≠ "field_modulus" → z ≠ "coeffs" → z ≠ "modulus_coeffs" → z ≠ "degree" → m z = none) : At D (PlnF CQ C x p ns ms :: Fs) R' s := by
  have H1 := H.fzD hx hr
  refine ⟨H1.os, H1.gens, H1.tab, H1.cs, H1.nodup, H1.res, H1.base, fun F hF => ?_⟩
  rcases List.mem_cons.mp hF with rfl | hF
  · exact ⟨m, H1.facts _ (.head _), a1, ⟨tC, vs, a2, H1.facts _ (.tail _ h1), H1.facts _ (.tail _ h2)⟩, ⟨tM, us, a3, H1.facts _ (.tail _ h3), h4⟩, a4, a5⟩
  · exact H1.facts F (.tail _ hF)
theorem At.mkOpt {dx x C : Addr} {p : Int} {m : Str → Option Value} {nm : List Str} {ns ms : List Int} {tC tM lw : Addr} {vs us ws : List Value} (H : At D Fs R s) (hx : Cell x (instObj C dx) ∈ Fs) (hr : Rm (DRes dx m nm) R R')
    (h1 : TupF tC vs ∈ Fs) (h2 : IntsAre vs ns) (h3 : TupF tM us ∈ Fs) (h4 : IntsAre us ms) (h5 : ListF lw ws ∈ Fs) (h6 : PrsF ws (mcFrom 0 ms) ∈ Fs)
    (a1 : ∃ t, m "field_modulus" = some (.int p t)) (a2 : m "coeffs" = some (.ref tC)) (a3 : m "modulus_coeffs" = some (.ref tM)) (a4 : ∃ t, m "degree" = some (.int ms.length t)) (a6 : m "mc_tuples" = some (.ref lw))
    (a5 : ∀ z : Str, z ≠ "field_modulus" → z ≠ "coeffs" → z ≠ "modulus_coeffs" → z ≠ "degree" → z ≠ "mc_tuples" → m z = none) : At D (OptF C x p ns ms :: Fs) R' s := by
  have H1 := H.fzD hx hr
  refine ⟨H1.os, H1.gens, H1.tab, H1.cs, H1.nodup, H1.res, H1.base, fun F hF => ?_⟩
  rcases List.mem_cons.mp hF with rfl | hF
  · exact ⟨m, H1.facts _ (.head _), a1, ⟨tC, vs, a2, H1.facts _ (.tail _ h1), h2⟩, ⟨tM, us, a3, H1.facts _ (.tail _ h3), h4⟩, a4, ⟨lw, ws, a6, H1.facts _ (.tail _ h5), H1.facts _ (.tail _ h6)⟩, a5⟩
  · exact H1.facts F (.tail _ hF)
/-- one more field element at the end -/
theorem At.fqSnoc {C : Addr} {p : Int} {vs : List Value} {ns : List Int} {a : Addr} {n : Int} (H : At D Fs R s) (h1 : FQsF C p vs ns ∈ Fs) (h2 : FQF C a p n ∈ Fs) : At D (FQsF C p (vs ++ [.ref a]) (ns ++ [n]) :: Fs) R s :=
  ⟨H.os, H.gens, H.tab, H.cs, H.nodup, H.res, H.base, fun F hF => by
    rcases List.mem_cons.mp hF with rfl | hF
    · exact FQs.append (H.facts _ h1) (.cons (H.facts _ h2) .nil)
    · exact H.facts F hF⟩
theorem At.fqNil {C : Addr} {p : Int} (H : At D Fs R s) : At D (FQsF C p [] [] :: Fs) R s :=
  ⟨H.os, H.gens, H.tab, H.cs, H.nodup, H.res, H.base, fun F hF => by
    rcases List.mem_cons.mp hF with rfl | hF
    · exact FQs.nil
    · exact H.facts F hF⟩
theorem At.pick {C : Addr} {p : Int} {vs : List Value} {ns : List Int} {i : Nat} {v : Value} (H : At D Fs R s) (h : ScsF C p vs ns ∈ Fs) (hv : vs[i]? = some v) : ∃ n, ns[i]? = some n ∧ At D (SchF C p v n :: Fs) R s := by
  obtain ⟨n, hn, _⟩ := (H.facts _ h : Scs C p _ vs ns).at i v hv
  refine ⟨n, hn, H.os, H.gens, H.tab, H.cs, H.nodup, H.res, H.base, fun F hF => ?_⟩
  rcases List.mem_cons.mp hF with rfl | hF
  · obtain ⟨n', hn', q⟩ := (H.facts _ h : Scs C p _ vs ns).at i v hv
    rw [hn] at hn'; cases hn'; exact q
  · exact H.facts F hF
theorem At.pickQ {C : Addr} {p : Int} {vs : List Value} {ns : List Int} {i : Nat} {v : Value} (H : At D Fs R s) (h : FQsF C p vs ns ∈ Fs) (hv : vs[i]? = some v) : ∃ a n, v = .ref a ∧ ns[i]? = some n ∧ At D (FQF C a p n :: Fs) R s := by
  obtain ⟨a, n, e, hn, _⟩ := (H.facts _ h : FQs C p _ vs ns).at i v hv
  refine ⟨a, n, e, hn, H.os, H.gens, H.tab, H.cs, H.nodup, H.res, H.base, fun F hF => ?_⟩
  rcases List.mem_cons.mp hF with rfl | hF
  · obtain ⟨a', n', e', hn', q⟩ := (H.facts _ h : FQs C p _ vs ns).at i v hv
    rw [e] at e'; cases e'
    rw [hn] at hn'; cases hn'; exact q
  · exact H.facts F hF
theorem At.fqStart {C : Addr} {p : Int} {acc : List Value} {ns : List Int} {i : Nat} {F0 : Fact} (H : At D (F0 :: ((if i = 0 then [] else [FQsF C p acc (ns.take i)]) ++ Fs)) R s) (hl : acc.length = i) : At D (FQsF C p acc (ns.take i) :: Fs) R s := by
  by_cases i0 : i = 0
  · subst i0
    rw [List.length_eq_zero_iff.mp hl, List.take_zero]
    exact H.fqNil.sub (subf_cons (.head _) (fun F hF => .tail _ (.tail _ (List.mem_append_right _ hF))))
  · rw [if_neg i0] at H
    exact H.sub fun F hF => .tail _ hF
theorem take_snoc {α : Type} {l : List α} {i : Nat} {x : α} (h : l[i]? = some x) : l.take i ++ [x] = l.take (i + 1) := by
  rw [List.take_add_one, h]; rfl
theorem At.fqNext {C : Addr} {p : Int} {acc : List Value} {ns : List Int} {i : Nat} {a : Addr} {n : Int} {Fs' : List Fact} (H : At D Fs' R s) (h1 : FQsF C p acc (ns.take i) ∈ Fs') (h2 : FQF C a p n ∈ Fs') (hn : ns[i]? = some n) (hR : Sub R R') (hF : ∀ F ∈ Fs, F ∈ Fs') :
    At D ((if i + 1 = 0 then [] else [FQsF C p (acc ++ [.ref a]) (ns.take (i + 1))]) ++ Fs) R' s := by
  rw [if_neg (Nat.succ_ne_zero _)]
  have H1 := H.fqSnoc h1 h2
  rw [take_snoc hn] at H1
  exact H1.to' hR (subf_cons (.head _) fun F q => .tail _ (hF F q))
theorem At.fqEnd {C : Addr} {p : Int} {acc : List Value} {ns : List Int} {k m : Nat} {F0 : Fact} (H : At (D.withNg m) (F0 :: ((if k = 0 then [] else [FQsF C p acc (ns.take k)]) ++ Fs)) R s) (hl : acc.length = k) (hn : ns.length = k) (hm : D.ng ≤ m) : At D (F0 :: FQsF C p acc ns :: Fs) R s := by
  have H0 := H.ofNg hm
  have H1 := H0.fqStart hl
  rw [List.take_of_length_le (by omega)] at H1
  exact ⟨H0.os, H0.gens, H0.tab, H0.cs, H0.nodup, H0.res, H0.base, fun F hF => by
    rcases List.mem_cons.mp hF with rfl | hF
    · exact H0.facts _ (.head _)
    · exact H1.facts F hF⟩
theorem At.len2 {C : Addr} {p : Int} {vs : List Value} {ns : List Int} (H : At D Fs R s) (h : ScsF C p vs ns ∈ Fs) : ns.length = vs.length := (H.facts _ h : Scs C p _ vs ns).length.symm
end
end Mine

set_option maxRecDepth 100000
namespace Mine
section
variable {prog : Program} {w : World} {M : Model} {A : Around} {E : Value → Shared → Prop} {D : Dat} {Fs : List Fact} {R R' : List Res} {s : Shared} {env : Env} {K : Frag} {n : Nat}
variable {Q : Value → Shared → Prop}
theorem r_asg2 {x y : Str} {px py pos : Pos} {k : Nat} {T : Addr} {v1 v2 : Value} {Q : Unit → Shared → Prop} (hh : A.handled = none) (H : At D Fs R s) (hm : TupF T [v1, v2] ∈ Fs)
    (h : ∀ s', At D Fs R s' → wpAny (model prog w) A (storeName env x v1) (fun _ s1 => wpAny (model prog w) A (storeName env y v2) Q E s1) E s') :
    wpAny (model prog w) A (assign (.Tuple [.Name x px, .Name y py] k pos) env (.ref T)) Q E s := by
  refine wpAny_assign_Tuple hh (H.fact hm) rfl rfl fun h' hE => ?_
  show wpAny _ A (do holding [v2] (assign (.Name x px) env v1); do holding [] (assign (.Name y py) env v2); pure ()) _ _ _
  have H1 : At D Fs R { s with heap := h' } := H.keeps (tk := s.toks) fun b o e => hE b o (Nat.ne_of_lt (Heap.lt_size e)) e
  refine wpAny_bind (wpAny_holding (wpAny_assign_Name (wpAny_mono (h _ H1) (fun _ s1 q => ?_) fun _ _ e => e)))
  exact wpAny_bind (wpAny_holding (wpAny_assign_Name (wpAny_mono q (fun _ s2 q => wpAny_pure q) fun _ _ e => e)))
theorem r_asg3 {x y z : Str} {px py pz pos : Pos} {k : Nat} {T : Addr} {v1 v2 v3 : Value} {Q : Unit → Shared → Prop} (hh : A.handled = none) (H : At D Fs R s) (hm : TupF T [v1, v2, v3] ∈ Fs)
    (h : ∀ s', At D Fs R s' → wpAny (model prog w) A (storeName env x v1) (fun _ s1 => wpAny (model prog w) A (storeName env y v2) (fun _ s2 => wpAny (model prog w) A (storeName env z v3) Q E s2) E s1) E s') :
    wpAny (model prog w) A (assign (.Tuple [.Name x px, .Name y py, .Name z pz] k pos) env (.ref T)) Q E s := by
  refine wpAny_assign_Tuple hh (H.fact hm) rfl rfl fun h' hE => ?_
  show wpAny _ A (do holding [v2, v3] (assign (.Name x px) env v1); do holding [v3] (assign (.Name y py) env v2); do holding [] (assign (.Name z pz) env v3); pure ()) _ _ _
  have H1 : At D Fs R { s with heap := h' } := H.keeps (tk := s.toks) fun b o e => hE b o (Nat.ne_of_lt (Heap.lt_size e)) e
  refine wpAny_bind (wpAny_holding (wpAny_assign_Name (wpAny_mono (h _ H1) (fun _ s1 q => ?_) fun _ _ e => e)))
  refine wpAny_bind (wpAny_holding (wpAny_assign_Name (wpAny_mono q (fun _ s2 q => ?_) fun _ _ e => e)))
  exact wpAny_bind (wpAny_holding (wpAny_assign_Name (wpAny_mono q (fun _ s2 q => wpAny_pure q) fun _ _ e => e)))

/-- facts that grow along a map that makes field elements -/
def fqG (C : Addr) (p : Int) (ns : List Int) (i : Nat) (ys : List Value) (Gs : List Fact) : Prop := ys.length = i ∧ i ≤ ns.length ∧ Gs = (if i = 0 then [] else [FQsF C p ys (ns.take i)])
theorem fqG.zero {C : Addr} {p : Int} {ns : List Int} : fqG C p ns 0 [] [] := ⟨rfl, Nat.zero_le _, rfl⟩
theorem fqG.len {C : Addr} {p : Int} {ns : List Int} {i : Nat} {ys : List Value} {Gs : List Fact} (h : fqG C p ns i ys Gs) (hz : ns.length ≤ 1000000) : ys.length ≤ 1000000 := by obtain ⟨a, b, _⟩ := h; omega
theorem fqG.start {C : Addr} {p : Int} {ns : List Int} {i : Nat} {ys : List Value} {Gs : List Fact} {F0 : Fact} (h : fqG C p ns i ys Gs) (H : At D (F0 :: (Gs ++ Fs)) R s) : At D (FQsF C p ys (ns.take i) :: F0 :: Fs) R s := by
  obtain ⟨a, b, rfl⟩ := h
  have H1 := H.fqStart a
  exact ⟨H.os, H.gens, H.tab, H.cs, H.nodup, H.res, H.base, fun F hF => by
    rcases List.mem_cons.mp hF with rfl | hF
    · exact H1.facts _ (.head _)
    · rcases List.mem_cons.mp hF with rfl | hF
      · exact H.facts _ (.head _)
      · exact H1.facts _ (.tail _ hF)⟩
theorem fqG.next {C : Addr} {p : Int} {ns : List Int} {i : Nat} {ys : List Value} {Gs : List Fact} {a : Addr} {n : Int} {Fs' : List Fact} (h : fqG C p ns i ys Gs) (H : At D Fs' R s) (h1 : FQsF C p ys (ns.take i) ∈ Fs') (h2 : FQF C a p n ∈ Fs') (hn : ns[i]? = some n) (hR : Sub R R') (hF : ∀ F ∈ Fs, F ∈ Fs') :
    ∃ F', fqG C p ns (i + 1) (ys ++ [.ref a]) F' ∧ At D (F' ++ Fs) R' s :=
  ⟨_, ⟨by simp [h.1], (List.getElem?_eq_some_iff.mp hn).1, rfl⟩, H.fqNext h1 h2 hn hR hF⟩
theorem fqG.done {C : Addr} {p : Int} {ns : List Int} {k : Nat} {ys : List Value} {Gs : List Fact} (h : fqG C p ns k ys Gs) (H : At D (Gs ++ Fs) R s) (hk : ns.length = k) : At D (FQsF C p ys ns :: Fs) R s := by
  obtain ⟨a, b, rfl⟩ := h
  have H1 : At D (Tru :: ((if k = 0 then [] else [FQsF C p ys (ns.take k)]) ++ Fs)) R s := ⟨H.os, H.gens, H.tab, H.cs, H.nodup, H.res, H.base, fun F hF => by
    rcases List.mem_cons.mp hF with rfl | hF
    · trivial
    · exact H.facts _ hF⟩
  have H2 := H1.fqStart a
  rwa [List.take_of_length_le (by omega)] at H2
theorem At.scs {C : Addr} {p : Int} {vs : List Value} {ns : List Int} (H : At D Fs R s) (h : FQsF C p vs ns ∈ Fs) : At D (ScsF C p vs ns :: Fs) R s := H.learn h fun _ x => Scs.ofFQs x
theorem At.scsI {C : Addr} {p : Int} {vs : List Value} {ns : List Int} (H : At D Fs R s) (h : IntsAre vs ns) : At D (ScsF C p vs (ns.map fun k => k.fmod p) :: Fs) R s := ⟨H.os, H.gens, H.tab, H.cs, H.nodup, H.res, H.base, fun F hF => by
    rcases List.mem_cons.mp hF with rfl | hF
    · exact Scs.ofInts h
    · exact H.facts _ hF⟩
theorem zipWith_get {f : Int → Int → Int} {xs ys : List Int} {i : Nat} {a b : Int} (h1 : xs[i]? = some a) (h2 : ys[i]? = some b) : (List.zipWith f xs ys)[i]? = some (f a b) := by
  simp [List.getElem?_zipWith, h1, h2]
theorem fqs_idx {C : Addr} {p : Int} {h : Heap} {vs : List Value} {ns : List Int} (x : FQs C p h vs ns) {k : Int} (h0 : 0 ≤ k) (h1 : k < ns.length) : ∃ a, vs[k.toNat]? = some (.ref a) ∧ FQh C a p (ns.getD k.toNat 0) h := by
  have hl := x.length
  have q : k.toNat < vs.length := by omega
  obtain ⟨a, n, e, hn, f⟩ := x.at k.toNat vs[k.toNat] (by simp [q])
  exact ⟨a, by rw [← e]; simp [q], by simpa [List.getD, hn] using f⟩
theorem At.addFQ {C a : Addr} {p n : Int} (H : At D Fs R s) (q : FQh C a p n (seen D R s.heap)) : At D (FQF C a p n :: Fs) R s := ⟨H.os, H.gens, H.tab, H.cs, H.nodup, H.res, H.base, fun F hF => by
    rcases List.mem_cons.mp hF with rfl | hF
    · exact q
    · exact H.facts _ hF⟩
section
variable {value slice : Expr} {l C : Addr} {p : Int} {vs : List Value} {ns : List Int} {k : Int} {u : Tok}
theorem r_itemTQ (H : At D Fs R s) (hm : TupF l vs ∈ Fs) (hq : FQsF C p vs ns ∈ Fs) (h0 : 0 ≤ k) (h1 : k < ns.length) (h2 : k < 2 ^ 60) (h : ∀ a, At D (FQF C a p (ns.getD k.toNat 0) :: Fs) R s → Q (.ref a) s)
    (hs : subscripted slice false (.ref l) (.int k u) = operate [.ref l, .int k u] (getItem (.ref l) (.int k u))) : wpAny (model prog w) A (subscriptTail value slice (.ref l) (.int k u)) Q E s := by
  obtain ⟨a, e, q⟩ := fqs_idx (H.facts _ hq) h0 h1
  exact r_itemT H hm h0 h2 e (h a (H.addFQ q)) hs
theorem r_itemLQ (H : At D Fs R s) (hl : s.heap.PlainList l vs.toArray) (hq : FQsF C p vs ns ∈ Fs) (h0 : 0 ≤ k) (h1 : k < ns.length) (h2 : k < 2 ^ 60) (h : ∀ a, At D (FQF C a p (ns.getD k.toNat 0) :: Fs) R s → Q (.ref a) s)
    (hs : subscripted slice false (.ref l) (.int k u) = operate [.ref l, .int k u] (getItem (.ref l) (.int k u))) : wpAny (model prog w) A (subscriptTail value slice (.ref l) (.int k u)) Q E s := by
  obtain ⟨a, e, q⟩ := fqs_idx (H.facts _ hq) h0 h1
  have hL := Heap.PlainList.isList hl
  exact tail_any (Heap.IsList.typeIs hL) slot_list_getitem.lookup (wpAny_getItem_list hL h0 (by omega) (by simpa using e) (h a (H.addFQ q))) hs
theorem r_giLQ (H : At D Fs R s) (hl : s.heap.PlainList l vs.toArray) (hq : FQsF C p vs ns ∈ Fs) (h0 : 0 ≤ k) (h1 : k < ns.length) (h2 : k < 2 ^ 60) (h : ∀ a, At D (FQF C a p (ns.getD k.toNat 0) :: Fs) R s → Q (.ref a) s) :
    wpAny (model prog w) A (getItem (.ref l) (.int k u)) Q E s := by
  obtain ⟨a, e, q⟩ := fqs_idx (H.facts _ hq) h0 h1
  exact wpAny_getItem_list (Heap.PlainList.isList hl) h0 (by omega) (by simpa using e) (h a (H.addFQ q))
theorem At.fqSet {a : Addr} {n : Int} {j : Nat} (H : At D Fs R s) (h1 : FQsF C p vs ns ∈ Fs) (h2 : FQF C a p n ∈ Fs) : At D (FQsF C p (vs.set j (.ref a)) (ns.set j n) :: Fs) R s := ⟨H.os, H.gens, H.tab, H.cs, H.nodup, H.res, H.base, fun F hF => by
    rcases List.mem_cons.mp hF with rfl | hF
    · exact FQs.set (H.facts _ h1) j (H.facts _ h2)
    · exact H.facts _ hF⟩
theorem FQs.snoc_inv {h : Heap} {vs : List Value} {y : Value} {ns : List Int} (x : FQs C p h (vs ++ [y]) ns) : ∃ ms n a, ns = ms ++ [n] ∧ FQs C p h vs ms ∧ y = .ref a ∧ FQh C a p n h := by
  induction vs generalizing ns with
  | nil => cases x with
    | cons q r => cases r; exact ⟨[], _, _, rfl, .nil, rfl, q⟩
  | cons v vs ih => cases x with
    | cons q r =>
      obtain ⟨ms, n, a, rfl, r', e, f⟩ := ih r
      exact ⟨_ :: ms, n, a, rfl, .cons q r', e, f⟩
theorem At.fqSnocInv {y : Value} (H : At D Fs R s) (h1 : FQsF C p (vs ++ [y]) ns ∈ Fs) : ∃ ms n a, ns = ms ++ [n] ∧ y = .ref a ∧ At D (FQF C a p n :: FQsF C p vs ms :: Fs) R s := by
  obtain ⟨ms, n, a, e, q, ey, f⟩ := FQs.snoc_inv (H.facts _ h1)
  refine ⟨ms, n, a, e, ey, H.os, H.gens, H.tab, H.cs, H.nodup, H.res, H.base, fun F hF => ?_⟩
  rcases List.mem_cons.mp hF with rfl | hF
  · exact f
  · rcases List.mem_cons.mp hF with rfl | hF
    · exact q
    · exact H.facts _ hF
theorem At.fqLen (H : At D Fs R s) (h1 : FQsF C p vs ns ∈ Fs) : vs.length = ns.length := FQs.length (H.facts _ h1)
end
/-- small ints -/
def Bd (l : List Int) : Prop := ∀ x ∈ l, -(2 ^ 60) < x ∧ x < 2 ^ 60
theorem mulOk_right {a b : Int} (h : -(2 ^ 60) < b ∧ b < 2 ^ 60) : IntMulOk a b := PySem.IntMulOk.of_right (intBits_le (by omega))
theorem mulOk_left {a b : Int} (h : -(2 ^ 60) < a ∧ a < 2 ^ 60) : IntMulOk a b := PySem.IntMulOk.of_left (intBits_le (by omega))
theorem Bd.getD {l : List Int} (h : Bd l) (k : Nat) : -(2 ^ 60) < l.getD k 0 ∧ l.getD k 0 < 2 ^ 60 := by
  by_cases q : k < l.length
  · rw [List.getD_eq_getElem?_getD, List.getElem?_eq_getElem q]; exact h _ (List.getElem_mem q)
  · rw [List.getD_eq_getElem?_getD, List.getElem?_eq_none (by omega)]; decide
theorem fmod_bd {x p : Int} (h0 : 0 < p) (h1 : p < 2 ^ 60) : -(2 ^ 60) < x.fmod p ∧ x.fmod p < 2 ^ 60 := by
  have a := Int.fmod_nonneg_of_pos x h0
  have b := Int.fmod_lt_of_pos x h0
  omega
theorem At.listScs {C l : Addr} {p : Int} {vs : List Value} {ks : List Int} (H : At D Fs R s) (hr : Rm (Lst l vs) R R') (h : IntsAre vs ks) : At D (ListF l vs :: ScsF C p vs (ks.map fun k => k.fmod p) :: Fs) R' s :=
  At.fzL (H.scsI h) hr
theorem r_popM {l : Addr} {items : Array Value} {pl : Sem Bool} {Q : Value × List Value → Shared → Prop} (hl : s.heap.PlainList l items) (h : Q (.builtin "list.pop", [.ref l]) s) : wpAny (model prog w) A (getMethod (.ref l) (Str.ofString "pop") pl) Q E s :=
  getMethod_list_of F.slot_list_pop F.type_list_pop (Heap.PlainList.isList hl) (by obtain ⟨n, e⟩ := hl; exact ⟨_, e, rfl⟩) h
end
end Mine

set_option maxRecDepth 100000
namespace Mine
section
variable {prog : Program} {w : World} {M : Model} {A : Around} {E : Value → Shared → Prop} {D : Dat} {Fs : List Fact} {R R' : List Res} {s : Shared} {env : Env} {K : Frag} {n : Nat}
theorem r_unpk {t : Addr} {vs : List Value} {n : Nat} {Q : List Value → Shared → Prop} (hh : A.handled = none) (H : At D Fs R s) (hm : TupF t vs ∈ Fs) (hn : n = vs.length) (h : ∀ s', At D Fs R s' → Q vs s') : wpAny (model prog w) A (unpackItems (.ref t) n none) Q E s := by
  subst hn
  have e := wpAny_unpackItems_tuple (prog := prog) (w := w) (E := E) (Q := Q) hh (H.fact hm : s.heap.IsTuple t vs.toArray) fun h' hE => h _ (H.keeps (tk := s.toks) fun b o e => hE b o (Nat.ne_of_lt (Heap.lt_size e)) e)
  simpa using e
theorem r_aio2 {f1 f2 : Value → Sem Unit} {v1 v2 : Value} {Q : Unit → Shared → Prop} (h : wpAny (model prog w) A (f1 v1) (fun _ s1 => wpAny (model prog w) A (f2 v2) Q E s1) E s) : wpAny (model prog w) A (assignInOrder [f1, f2] [v1, v2]) Q E s := by
  show wpAny _ A (do holding [v2] (f1 v1); do holding [] (f2 v2); pure ()) _ _ _
  refine wpAny_bind (wpAny_holding (wpAny_mono h (fun _ s1 q => ?_) fun _ _ e => e))
  exact wpAny_bind (wpAny_holding (wpAny_mono q (fun _ s2 q => wpAny_pure q) fun _ _ e => e))
end
end Mine

set_option maxRecDepth 100000
namespace Mine
section
variable {prog : Program} {w : World} {M : Model} {A : Around} {E : Value → Shared → Prop} {D : Dat} {Fs : List Fact} {R R' : List Res} {s : Shared} {env : Env} {K : Frag} {n : Nat}
theorem mcFrom_snoc (l : List Int) (c : Int) : ∀ k : Int, mcFrom k (l ++ [c]) = mcFrom k l ++ (if c ≠ 0 then [(k + l.length, c)] else []) := by
  induction l with
  | nil => intro k; by_cases h : c = 0 <;> simp [mcFrom, h]
  | cons a l ih =>
    intro k
    by_cases h : a = 0
    · simp only [List.cons_append, mcFrom, h, ne_eq, not_true_eq_false, if_false, ih, List.length_cons]
      rw [show k + 1 + (l.length : Int) = k + ((l.length + 1 : Nat) : Int) by omega]
    · simp only [List.cons_append, mcFrom, h, ne_eq, not_false_eq_true, if_true, ih, List.length_cons]
      rw [show k + 1 + (l.length : Int) = k + ((l.length + 1 : Nat) : Int) by omega]
/-- the pairs of the modulus so far -/
def prG (ms : List Int) (i : Nat) (ys : List Value) (Gs : List Fact) : Prop := i ≤ ms.length ∧ ys.length ≤ i ∧ Gs = (if i = 0 then [] else [PrsF ys (mcFrom 0 (ms.take i))])
theorem prG.zero {ms : List Int} : prG ms 0 [] [] := ⟨Nat.zero_le _, Nat.le_refl _, rfl⟩
theorem prG.len {ms : List Int} {i : Nat} {ys : List Value} {Gs : List Fact} (h : prG ms i ys Gs) (hz : ms.length ≤ 1000000) : ys.length ≤ 1000000 := by obtain ⟨a, b, _⟩ := h; omega
theorem prG.fact {ms : List Int} {i : Nat} {ys : List Value} {Gs Fs' : List Fact} (h : prG ms i ys Gs) (H : At D Fs' R s) (hs : ∀ F ∈ Gs, F ∈ Fs') : At D (PrsF ys (mcFrom 0 (ms.take i)) :: Fs') R s := by
  refine ⟨H.os, H.gens, H.tab, H.cs, H.nodup, H.res, H.base, fun F hF => ?_⟩
  rcases List.mem_cons.mp hF with rfl | hF
  · obtain ⟨a, b, rfl⟩ := h
    by_cases i0 : i = 0
    · subst i0
      rw [List.length_eq_zero_iff.mp (Nat.le_zero.mp b), List.take_zero]
      exact Prs.nil
    · rw [if_neg i0] at hs
      exact H.facts _ (hs _ (.head _))
  · exact H.facts _ hF
theorem prG.step {ms : List Int} {i : Nat} {zs : List Value} {Fs' : List Fact} {c : Int} (hc : ms[i]? = some c) (hz : zs.length ≤ i + 1) (H : At D Fs' R s)
    (hm : Prs (seen D R s.heap) zs (mcFrom 0 (ms.take i) ++ (if c ≠ 0 then [((i : Int), c)] else []))) (hF : ∀ F ∈ Fs, F ∈ Fs') : ∃ F', prG ms (i + 1) zs F' ∧ At D (F' ++ Fs) R s := by
  have hi : i < ms.length := (List.getElem?_eq_some_iff.mp hc).1
  refine ⟨[PrsF zs (mcFrom 0 (ms.take (i + 1)))], ⟨hi, hz, by simp⟩, H.os, H.gens, H.tab, H.cs, H.nodup, H.res, H.base, fun F h' => ?_⟩
  rcases List.mem_cons.mp h' with rfl | h'
  · show Prs _ _ _
    rw [← take_snoc hc, mcFrom_snoc, List.length_take, Nat.min_eq_left (Nat.le_of_lt hi), Int.zero_add]
    exact hm
  · exact H.facts _ (hF _ h')
theorem prG.skip {ms : List Int} {i : Nat} {ys : List Value} {Gs Fs' : List Fact} (h : prG ms i ys Gs) (hc : ms[i]? = some 0) (H : At D Fs' R s)
    (h1 : PrsF ys (mcFrom 0 (ms.take i)) ∈ Fs') (hF : ∀ F ∈ Fs, F ∈ Fs') : ∃ F', prG ms (i + 1) ys F' ∧ At D (F' ++ Fs) R s :=
  prG.step hc (Nat.le_succ_of_le h.2.1) H (by rw [if_neg (by simp), List.append_nil]; exact H.facts _ h1) hF
theorem prG.take {ms : List Int} {i : Nat} {ys : List Value} {Gs Fs' : List Fact} {c : Int} {T : Addr} {t1 t2 : Tok} (h : prG ms i ys Gs) (hc : ms[i]? = some c) (c0 : c ≠ 0) (H : At D Fs' R s)
    (h1 : PrsF ys (mcFrom 0 (ms.take i)) ∈ Fs') (h2 : TupF T [.int i t1, .int c t2] ∈ Fs') (hF : ∀ F ∈ Fs, F ∈ Fs') : ∃ F', prG ms (i + 1) (ys ++ [.ref T]) F' ∧ At D (F' ++ Fs) R s :=
  prG.step hc (by have := h.2.1; simp; omega) H (by rw [if_pos c0]; exact (H.facts _ h1 : Prs _ _ _).append (.cons (H.facts _ h2) .nil)) hF
theorem prG.done {ms : List Int} {k : Nat} {ys : List Value} {Gs : List Fact} (h : prG ms k ys Gs) (H : At D (Gs ++ Fs) R s) (hk : ms.length = k) : At D (PrsF ys (mcFrom 0 ms) :: Fs) R s := by
  have H1 := h.fact H fun F hF => List.mem_append_left _ hF
  rw [List.take_of_length_le (by omega)] at H1
  exact H1.sub (subf_cons (.head _) fun F hF => .tail _ (List.mem_append_right _ hF))
theorem prG.holdT {C : Addr} {l : List (Str × Value)} {ms : List Int} {i : Nat} {ys : List Value} {Gs Fs' : List Fact} {c : Int} {T : Addr} {t1 t2 : Tok} (h : prG ms i ys Gs) (hc : ms[i]? = some c) (c0 : c ≠ 0) (H : At D Fs' (Vars C l :: R) s)
    (h1 : PrsF ys (mcFrom 0 (ms.take i)) ∈ Fs') (h2 : TupF T [.int i t1, .int c t2] ∈ Fs') (hF : ∀ F ∈ Fs, F ∈ Fs') : Hold (∃ F' l', prG ms (i + 1) (ys ++ [.ref T]) F' ∧ At D (F' ++ Fs) (Vars C l' :: R) s) :=
  ⟨(h.take hc c0 H h1 h2 hF).elim fun F' q => ⟨F', l, q.1, q.2⟩⟩
theorem prG.holdS {C : Addr} {l : List (Str × Value)} {ms : List Int} {i : Nat} {ys : List Value} {Gs Fs' : List Fact} (h : prG ms i ys Gs) (hc : ms[i]? = some 0) (H : At D Fs' (Vars C l :: R) s)
    (h1 : PrsF ys (mcFrom 0 (ms.take i)) ∈ Fs') (hF : ∀ F ∈ Fs, F ∈ Fs') : Hold (∃ F' l', prG ms (i + 1) ys F' ∧ At D (F' ++ Fs) (Vars C l' :: R) s) :=
  ⟨(h.skip hc H h1 hF).elim fun F' q => ⟨F', l, q.1, q.2⟩⟩
/-- a map that makes whole numbers -/
def inG (ks : List Int) (i : Nat) (ys : List Value) (Gs : List Fact) : Prop := i ≤ ks.length ∧ IntsAre ys (ks.take i) ∧ Gs = []
theorem inG.zero {ks : List Int} : inG ks 0 [] [] := ⟨Nat.zero_le _, .nil, rfl⟩
theorem inG.len {ks : List Int} {i : Nat} {ys : List Value} {Gs : List Fact} (h : inG ks i ys Gs) (hz : ks.length ≤ 1000000) : ys.length ≤ 1000000 := by obtain ⟨a, b, _⟩ := h; have := b.length; rw [List.length_take] at this; omega
theorem inG.next {ks : List Int} {i : Nat} {ys : List Value} {Gs : List Fact} {a : Int} {t : Tok} (h : inG ks i ys Gs) (ha : ks[i]? = some a) : inG ks (i + 1) (ys ++ [.int a t]) [] :=
  ⟨(List.getElem?_eq_some_iff.mp ha).1, by rw [← take_snoc ha]; exact h.2.1.append (.cons _ _ .nil), rfl⟩
theorem inG.done {ks : List Int} {k : Nat} {ys : List Value} {Gs : List Fact} (h : inG ks k ys Gs) (hk : ks.length = k) : IntsAre ys ks := by
  have := h.2.1
  rwa [List.take_of_length_le (by omega)] at this
end
end Mine

set_option maxRecDepth 100000
namespace Mine
section
variable {prog : Program} {w : World} {D : Dat} {Fs : List Fact} {R R' : List Res} {s : Shared}
theorem inG.hold {C : Addr} {l : List (Str × Value)} {ks : List Int} {i : Nat} {ys : List Value} {Fs' Gs : List Fact} {a : Int} {t : Tok} (h : inG ks i ys Gs) (ha : ks[i]? = some a) (H : At D Fs' (Vars C l :: R) s) (hF : ∀ F ∈ Fs, F ∈ Fs') :
    Hold (∃ F' l', inG ks (i + 1) (ys ++ [.int a t]) F' ∧ At D (F' ++ Fs) (Vars C l' :: R) s) := ⟨[], l, h.next ha, H.sub hF⟩
theorem At.nil0 {Gs Fs : List Fact} (H : At D (Gs ++ Fs) R s) (e : Gs = []) : At D Fs R s := by subst e; exact H
theorem At.nil1 {F : Fact} {Gs Fs : List Fact} (H : At D (F :: (Gs ++ Fs)) R s) (e : Gs = []) : At D (F :: Fs) R s := by subst e; exact H
end
end Mine

set_option maxRecDepth 100000
namespace Mine
/-- the enumerate object whose handed-out tuple T is alive -/
abbrev enO (it T : Addr) (b : Bool) (i : Int) (old : Value) : Obj := { cls := .type "enumerate", dict := none, data := .fields #[rawInt (T : Nat), .bool b, .ref it, rawInt i, .none, old], slots := #[] }
section
variable {prog : Program} {w : World} {A : Around} {E : Value → Shared → Prop} {s : Shared}
theorem alive_at {M : Model} {a : Addr} {Q : Option Obj → Shared → Prop} (h : Q (s.heap.get? a) s) : wpAny M A (loadIfAlive a) Q E s := fun _ _ _ => h
theorem next_out {e it T : Addr} {fp : List Addr} {n i : Nat} {P : Nat → Value → Prop} {St : Nat → Heap → Prop} {b : Bool} {old : Value} {o : Obj} {Q : Value → Shared → Prop}
    (D : Draws prog w A it fp n P St) (he : s.heap.get? e = some (enO it T b i old)) (hT : s.heap.get? T = some o) (hTe : T ≠ e) (hTi : T ≠ it) (hst : St i s.heap) (hlt : i < n) (hne : e ≠ it) (hef : e ∉ fp)
    (hQ : ∀ x h' tk, P i x → h'.get? e = some (enO it T true ((i : Int) + 1) old) → St (i + 1) h' → h'.get? s.heap.objs.size = some { cls := .type "tuple", data := .seq #[.int i tk, x] } →
      (∀ b o, b ≠ e → b ≠ it → s.heap.get? b = some o → h'.get? b = some o) → Q (.ref s.heap.objs.size) { s with heap := h', toks := tk + 1 }) :
    wpAny (model prog w) A (Builtin.«enumerate.__next__» ⟨[.ref e], []⟩) (fun fin s' => ∃ v, fin = .done (.ret v) ∧ Q v s') E s := by
  obtain ⟨hp, g, d, tk₀, os⟩ := s
  show wpAny _ _ (field (.ref e) 2 >>= _) _ _ _
  refine wpAny_bind (wpAny_field he rfl (x := .ref it) rfl ?_)
  refine wpAny_bind (D.item i _ _ _ hlt hst fun x h1 tk hPx st1 c1 => ?_)
  have he1 : h1.get? e = some (enO it T b i old) := (c1.2 e hne).trans he
  show wpAny _ _ (field (.ref e) 3 >>= _) _ _ ⟨h1, g, d, tk, os⟩
  refine wpAny_bind (wpAny_field he1 rfl (x := rawInt i) rfl ?_)
  show wpAny _ _ (field (.ref e) 4 >>= _) _ _ ⟨h1, g, d, tk, os⟩
  refine wpAny_bind (wpAny_field he1 rfl (x := .none) rfl ?_)
  show wpAny _ _ (mkInt i >>= _) _ _ ⟨h1, g, d, tk, os⟩
  refine wpAny_bind (wpAny_mkInt ?_)
  show wpAny _ _ (setField (.ref e) 3 (rawInt ((i : Int) + 1)) >>= _) _ _ ⟨h1, g, d, tk + 1, os⟩
  refine wpAny_bind (wpAny_setField_rec he1 (by simp) fun h2 he2 c2 => ?_)
  replace he2 : h2.get? e = some (enO it T b ((i : Int) + 1) old) := he2
  show wpAny _ _ (setField (.ref e) 4 .none >>= _) _ _ ⟨h2, g, d, tk + 1, os⟩
  refine wpAny_bind (wpAny_setField_rec he2 (by simp) fun h3 he3 c3 => ?_)
  replace he3 : h3.get? e = some (enO it T b ((i : Int) + 1) old) := he3
  show wpAny _ _ (newTuple [.int i tk, x] >>= _) _ _ ⟨h3, g, d, tk + 1, os⟩
  refine wpAny_bind (wpAny_newTuple ?_)
  have hsz : h3.objs.size = hp.objs.size := by rw [c3.1, c2.1, c1.1]
  have up : ∀ b o, b ≠ e → b ≠ it → hp.get? b = some o → h3.get? b = some o := fun b o q1 q2 q => c3.extBut b o q1 (c2.extBut b o q1 (c1.extBut b o q2 q))
  have hel : e < hp.objs.size := Heap.lt_size he
  have he4 : (h3.push { cls := .type "tuple", data := .seq #[.int i tk, x] }).get? e = some (enO it T b ((i : Int) + 1) old) := Heap.get?_push_of_some _ he3
  have hn4 : (h3.push { cls := .type "tuple", data := .seq #[.int i tk, x] }).get? hp.objs.size = some { cls := .type "tuple", data := .seq #[.int i tk, x] } := by rw [← hsz]; exact Heap.get?_push_size _ rfl
  have up4 : ∀ b o, b ≠ e → b ≠ it → hp.get? b = some o → (h3.push { cls := .type "tuple", data := .seq #[.int i tk, x] }).get? b = some o := fun b o q1 q2 q => Heap.get?_push_of_some _ (up b o q1 q2 q)
  have st4 : St (i + 1) (h3.push { cls := .type "tuple", data := .seq #[.int i tk, x] }) := D.frame _ _ _ st1 fun b hb o y => by
    have q1 : b ≠ e := fun q => hef (q ▸ hb)
    exact Heap.get?_push_of_some _ (c3.extBut b o q1 (c2.extBut b o q1 y))
  generalize h3.push { cls := .type "tuple", data := .seq #[.int i tk, x] } = h4 at *
  show wpAny _ _ (Builtin.SmallTypes.ownedTupleIsFree (.ref e) >>= _) _ _ ⟨h4, g, d, tk + 1, os⟩
  rw [hsz]
  refine wpAny_bind ?_
  unfold Builtin.SmallTypes.ownedTupleIsFree
  refine wpAny_bind (wpAny_field he4 rfl (x := rawInt (T : Nat)) rfl ?_)
  show wpAny _ _ (loadIfAlive ((T : Nat) : Int).toNat >>= _) _ _ ⟨h4, g, d, tk + 1, os⟩
  refine wpAny_bind (alive_at ?_)
  rw [Int.toNat_natCast]
  show wpAny _ _ (if (h4.get? T).isNone = true then _ else _) _ _ ⟨h4, g, d, tk + 1, os⟩
  rw [up4 T o hTe hTi hT]
  rw [if_neg (by simp)]
  refine wpAny_bind (wpAny_field he4 rfl (x := .bool b) rfl ?_)
  cases b with
  | true =>
    show wpAny _ _ (pure false) _ _ ⟨h4, g, d, tk + 1, os⟩
    refine wpAny_pure ?_
    exact wpAny_pure ⟨_, rfl, hQ x h4 tk hPx he4 st4 hn4 up4⟩
  | false =>
    show wpAny _ _ (setField (.ref e) 1 (.bool true) >>= fun _ => pure false) _ _ ⟨h4, g, d, tk + 1, os⟩
    refine wpAny_bind (wpAny_setField_rec he4 (by simp) fun h5 he5 c5 => ?_)
    replace he5 : h5.get? e = some (enO it T true ((i : Int) + 1) old) := he5
    refine wpAny_pure ?_
    refine wpAny_pure ⟨_, rfl, hQ x h5 tk hPx he5 ?_ ?_ ?_⟩
    · exact D.frame _ _ _ st4 fun b hb o y => c5.extBut b o (fun q => hef (q ▸ hb)) y
    · exact c5.extBut _ _ (Nat.ne_of_gt hel) hn4
    · exact fun b o q1 q2 q => c5.extBut b o q1 (up4 b o q1 q2 q)
end
/-- the numbered pairs -/
def enF : Int → List Int → List (Int × Int)
  | _, [] => []
  | k, c :: r => (k, c) :: enF (k + 1) r
theorem enF_snoc (l : List Int) (c : Int) : ∀ k : Int, enF k (l ++ [c]) = enF k l ++ [(k + l.length, c)] := by
  induction l with
  | nil => intro k; simp [enF]
  | cons a l ih => intro k; simp only [List.cons_append, enF, ih, List.length_cons]; rw [show k + 1 + (l.length : Int) = k + ((l.length + 1 : Nat) : Int) by omega]
theorem enF_get (l : List Int) : ∀ (k : Int) (i : Nat) (c : Int), l[i]? = some c → (enF k l)[i]? = some (k + i, c) := by
  induction l with
  | nil => intro k i c h; simp at h
  | cons a l ih =>
    intro k i c h
    cases i with
    | zero => simp at h; subst h; simp [enF]
    | succ i => simp only [enF, List.getElem?_cons_succ]; rw [ih (k + 1) i c (by simpa using h)]; congr 2; omega
theorem enF_length (l : List Int) : ∀ k : Int, (enF k l).length = l.length := by
  induction l with
  | nil => intro k; rfl
  | cons a l ih => intro k; simp [enF, ih]
/-- the enumerate object in list(..), after its first turn -/
def EnO (e it l T : Addr) (i : Nat) : Res :=
  ⟨[e, it], fun h => (∃ b old, h.get? e = some (enO it T b i old)) ∧ h.IsTupleIter it l i, fun k ⟨⟨b, old, a⟩, c⟩ => ⟨⟨b, old, k e (.head _) _ a⟩, c.at fun o e => k it (.tail _ (.head _)) o e⟩,
    fun ⟨⟨b, old, a⟩, c⟩ x hx => by
      rcases List.mem_cons.mp hx with rfl | hx
      · exact Heap.lt_size a
      · rw [List.mem_singleton.mp hx]; obtain ⟨_, q, _⟩ := c; exact Heap.lt_size q⟩
section
variable {prog : Program} {w : World} {A : Around} {E : Value → Shared → Prop} {D : Dat} {Fs : List Fact} {R R' : List Res} {s : Shared}
variable {e it l T S : Addr} {vs ws acc : List Value} {ns : List Int} {i : Nat} {x : Value}
theorem ne_of_cls {h : Heap} {a b : Addr} {o o' : Obj} (h1 : h.get? a = some o) (h2 : h.get? b = some o') (hc : o.cls ≠ o'.cls) : a ≠ b := fun q => by
  subst q; rw [h1] at h2; cases h2; exact hc rfl
/-- a new tuple is a fact after an owner's turn -/
theorem At.turnTup {r r' : Res} {h' : Heap} {tk : Nat} {T : Addr} {ws : List Value} (H : At D Fs (r :: R) s) (hfp : r'.fp = r.fp) (hk : ∀ b o, b ∉ r.fp → s.heap.get? b = some o → h'.get? b = some o) (hr : r'.holds h')
    (hT : h'.get? T = some { cls := .type "tuple", data := .seq ws.toArray }) (hge : s.heap.objs.size ≤ T) : At D (TupF T ws :: Fs) (r' :: R) { s with heap := h', toks := tk } := by
  have hp : Rp r r' (r :: R) (r' :: R) := Rp.head
  have H1 := H.upd (h' := h') (gens' := s.gens) (tk := tk) hp hfp hk hr H.gens
  refine ⟨H1.os, H1.gens, H1.tab, H1.cs, H1.nodup, H1.res, H1.base, fun F hF => ?_⟩
  rcases List.mem_cons.mp hF with rfl | hF
  · refine ⟨_, hideAll_get _ hT fun hm => ?_, rfl, 0, rfl⟩
    have := H.lt T (by rw [hp.fps_eq hfp] at hm; exact hm)
    exact absurd this (Nat.not_lt.mpr hge)
  · exact H1.facts F hF
theorem en_first {Q : Option Value → Shared → Prop} (hh : A.handled = none) (H : At D Fs (EnumR e it l true 0 :: R) s) (hm : TupF l vs ∈ Fs) (hx : vs[0]? = some x)
    (h : ∀ T t s', At D (TupF T [.int 0 t, x] :: Fs) (EnO e it l T 1 :: R) s' → Q (some (.ref T)) s') : wpAny (model prog w) A (pyNext (.ref e)) Q E s := by
  obtain ⟨⟨old, he⟩, hit⟩ := H.res _ (.head _)
  replace hit : s.heap.IsTupleIter it l 0 := hit
  have hl : s.heap.IsTuple l vs.toArray := H.fact hm
  have hei : e ≠ it := by obtain ⟨o, ho, hc, _⟩ := id hit; exact ne_of_cls he ho (by rw [hc]; exact (by decide : Value.type "enumerate" ≠ Value.type "tuple_iterator"))
  have hle : l ≠ e := by obtain ⟨o, ho, hc, _⟩ := id hl; exact ne_of_cls ho he (by rw [hc]; exact (by decide : Value.type "tuple" ≠ Value.type "enumerate"))
  have hli : l ≠ it := by obtain ⟨o, ho, hc, _⟩ := id hl; obtain ⟨o', ho', hc', _⟩ := id hit; exact ne_of_cls ho ho' (by rw [hc, hc']; decide)
  have hlt : 0 < vs.toArray.size := by rw [List.size_toArray]; exact (List.getElem?_eq_some_iff.mp hx).1
  refine wpAny_pyNext_enum_itemD (drawsT (A := A.in1) hh it l hli vs.toArray) he ⟨hit, hl⟩ hlt hei (by simp; exact ⟨hei, Ne.symm hle⟩) fun x' h' tk hP ho hs' hT hsz hk => ?_
  have ex : x' = x := by simp at hP; rw [hx] at hP; exact (Option.some.inj hP).symm
  subst ex
  refine h _ tk _ (At.turnTup (r := EnumR e it l true 0) (r' := EnO e it l s.heap.objs.size 1) H rfl (fun b o nb q => hk b o (fun q1 => nb (by rw [q1]; exact .head _)) (fun q1 => nb (by rw [q1]; exact .tail _ (.head _))) q) ⟨⟨false, x', ho⟩, hs'.1⟩ ?_ (Nat.le_refl _))
  exact hT
theorem en_next {Q : Option Value → Shared → Prop} (hh : A.handled = none) (H : At D Fs (EnO e it l T i :: R) s) (hm : TupF l vs ∈ Fs) (hT : TupF T ws ∈ Fs) (hx : vs[i]? = some x)
    (h : ∀ T' t s', At D (TupF T' [.int i t, x] :: Fs) (EnO e it l T (i + 1) :: R) s' → Q (some (.ref T')) s') : wpAny (model prog w) A (pyNext (.ref e)) Q E s := by
  obtain ⟨⟨b, old, he⟩, hit⟩ := H.res _ (.head _)
  have hl : s.heap.IsTuple l vs.toArray := H.fact hm
  have hTT : s.heap.IsTuple T ws.toArray := H.fact hT
  have hei : e ≠ it := by obtain ⟨o, ho, hc, _⟩ := id hit; exact ne_of_cls he ho (by rw [hc]; exact (by decide : Value.type "enumerate" ≠ Value.type "tuple_iterator"))
  have hle : l ≠ e := by obtain ⟨o, ho, hc, _⟩ := id hl; exact ne_of_cls ho he (by rw [hc]; exact (by decide : Value.type "tuple" ≠ Value.type "enumerate"))
  have hli : l ≠ it := by obtain ⟨o, ho, hc, _⟩ := id hl; obtain ⟨o', ho', hc', _⟩ := id hit; exact ne_of_cls ho ho' (by rw [hc, hc']; decide)
  obtain ⟨oT, hoT, hcT, _⟩ := id hTT
  have hTe : T ≠ e := ne_of_cls hoT he (by rw [hcT]; exact (by decide : Value.type "tuple" ≠ Value.type "enumerate"))
  have hTi : T ≠ it := by obtain ⟨o', ho', hc', _⟩ := id hit; exact ne_of_cls hoT ho' (by rw [hcT, hc']; decide)
  have hlt : i < vs.toArray.size := by rw [List.size_toArray]; exact (List.getElem?_eq_some_iff.mp hx).1
  have ht : s.TypeIs (.ref e) "enumerate" := ⟨_, he, rfl⟩
  unfold pyNext
  refine wpAny_bind (wpAny_attempt (wpAny_callSpecial?_slot (name := Str.ofString "__next__") ht F.slot_enumerate_next (wpAny_call_entry F.slot_enumerate_next ht F.entry_enumerate_next
    (next_out (drawsT (A := A.in1) hh it l hli vs.toArray) he hoT hTe hTi ⟨hit, hl⟩ hlt hei (by simp; exact ⟨hei, Ne.symm hle⟩) fun x' h' tk hP ho hs' hT' hk => wpAny_pure ?_) (F.args_enumerate_next_1 _))))
  have ex : x' = x := by simp at hP; rw [hx] at hP; exact (Option.some.inj hP).symm
  subst ex
  refine h _ tk _ (At.turnTup (r := EnO e it l T i) (r' := EnO e it l T (i + 1)) H rfl (fun b o nb q => hk b o (fun q1 => nb (by rw [q1]; exact .head _)) (fun q1 => nb (by rw [q1]; exact .tail _ (.head _))) q) ⟨⟨true, old, ho⟩, hs'.1⟩ ?_ (Nat.le_refl _))
  exact hT'
theorem en_done {Q : Option Value → Shared → Prop} (hh : A.handled = none) (H : At D Fs (EnO e it l T vs.length :: R) s) (hm : TupF l vs ∈ Fs)
    (h : ∀ s', At D Fs R s' → Q none s') : wpAny (model prog w) A (pyNext (.ref e)) Q E s := by
  obtain ⟨⟨b, old, he⟩, hit⟩ := H.res _ (.head _)
  have hl : s.heap.IsTuple l vs.toArray := H.fact hm
  have hli : l ≠ it := by obtain ⟨o, ho, hc, _⟩ := id hl; obtain ⟨o', ho', hc', _⟩ := id hit; exact ne_of_cls ho ho' (by rw [hc, hc']; decide)
  have ht : s.TypeIs (.ref e) "enumerate" := ⟨_, he, rfl⟩
  unfold pyNext
  refine wpAny_bind (wpAny_attempt (wpAny_callSpecial?_slot (name := Str.ofString "__next__") ht F.slot_enumerate_next (wpAny_call_entry F.slot_enumerate_next ht F.entry_enumerate_next ?_ (F.args_enumerate_next_1 _))))
  show wpAny _ _ (field (.ref e) 2 >>= _) _ _ _
  refine wpAny_bind (wpAny_field he rfl (x := .ref it) rfl ?_)
  refine wpAny_bind ((drawsT (A := A.in1) hh it l hli vs.toArray).done _ _ _ ⟨by simpa using hit, hl⟩ fun h' z hk hz => ?_)
  obtain ⟨o, ho, hc⟩ := hz
  refine wpAny_bind (wpAny_isInstance (T := "StopIteration") (b := true) ⟨o, ho, hc⟩ isSubtype_stop ?_)
  refine wpAny_pure (h _ (H.updDrop (h' := h') (gens' := s.gens) (tk := s.toks) (r := EnO e it l T vs.length) Rm.head (fun b o nb q => hk b o (fun q1 => nb (by rw [q1]; exact .tail _ (.head _))) q) H.gens))
theorem At.push2 {r1 : Res} {v : Value} (H : At D Fs (r1 :: Lst S acc :: R) s) : At D Fs (r1 :: Lst S (acc ++ [v]) :: R) { s with heap := s.heap.update S (Obj.mapSeq (·.push v)) } := by
  obtain ⟨c, hS⟩ := H.res (Lst S acc) (.tail _ (.head _))
  have e2 : acc.toArray.push v = (acc ++ [v]).toArray := by simp
  exact H.upd (r := Lst S acc) (r' := Lst S (acc ++ [v])) (R' := r1 :: Lst S (acc ++ [v]) :: R) (h' := s.heap.update S (Obj.mapSeq (·.push v))) (gens' := s.gens) (tk := s.toks) (.tail .head) rfl
      (fun b o nb q => (Heap.get?_update_other _ _ (Ne.symm fun q1 => nb (List.mem_singleton.mpr q1))).trans q) (by
        have := IsL.update hS (·.push v)
        simp only [e2] at this
        exact ⟨_, this⟩) H.gens
theorem At.prsPush {T' : Addr} {t : Tok} {c : Int} {u : Tok} (H : At D Fs R s) (h1 : PrsF acc (enF 0 (ns.take i)) ∈ Fs) (h2 : TupF T' [.int i t, .int c u] ∈ Fs) (hc : ns[i]? = some c) : At D (PrsF (acc ++ [.ref T']) (enF 0 (ns.take (i + 1))) :: Fs) R s := by
  refine ⟨H.os, H.gens, H.tab, H.cs, H.nodup, H.res, H.base, fun F hF => ?_⟩
  rcases List.mem_cons.mp hF with rfl | hF
  · have hi : i < ns.length := (List.getElem?_eq_some_iff.mp hc).1
    show Prs _ _ _
    rw [← take_snoc hc, enF_snoc, List.length_take, Nat.min_eq_left (Nat.le_of_lt hi), Int.zero_add]
    exact (H.facts _ h1 : Prs _ _ _).append (.cons (H.facts _ h2) .nil)
  · exact H.facts F hF
variable {res : Value} {Rk : Result → Shared → Prop}
theorem en_loop (hh : A.handled = none) (hi : IntsAre vs ns) (hz : vs.length ≤ 1000000) (hm : TupF l vs ∈ Fs) (hT : TupF T ws ∈ Fs)
    (hR : ∀ acc s', acc.length = vs.length → At D (PrsF acc (enF 0 ns) :: Fs) (Lst S acc :: R) s' → Rk (.ok (.ret res)) s') :
    ∀ (j i : Nat) (acc : List Value) (s : Shared), vs.length - i = j → i ≤ vs.length → acc.length = i → At D (PrsF acc (enF 0 (ns.take i)) :: Fs) (EnO e it l T i :: Lst S acc :: R) s →
      codeAny (model prog w) A (.builtin "list.extend.loop" ⟨[.ref S, .ref e, res], []⟩) Rk s := by
  have hL := hi.length
  intro j
  induction j with
  | zero =>
    intro i acc s hj hi' ha H
    have hin : i = vs.length := by omega
    subst hin
    refine codeAny_builtin F.entry_extend_loop ?_
    rw [Around.under_plainId F.plain_extend_loop _]
    show wpAny _ A.in1 (pyNext (.ref e) >>= _) _ _ s
    refine wpAny_bind (en_done (A := A.in1) hh H (.tail _ hm) fun s' H' => wpAny_pure (hR acc s' ha ?_))
    rwa [List.take_of_length_le (by omega)] at H'
  | succ j ih =>
    intro i acc s hj hi' ha H
    have hlt : i < vs.length := by omega
    obtain ⟨c, u, ev, hc⟩ := hi.at i vs[i] (by simp [hlt])
    refine codeAny_builtin F.entry_extend_loop ?_
    rw [Around.under_plainId F.plain_extend_loop _]
    show wpAny _ A.in1 (pyNext (.ref e) >>= _) _ _ s
    refine wpAny_bind (en_next (A := A.in1) hh H (.tail _ hm) (.tail _ hT) (x := .int c u) (by rw [← ev]; simp [hlt]) fun T' t s' H' => ?_)
    obtain ⟨cc, hS⟩ := H'.res (Lst S acc) (.tail _ (.head _))
    show wpAny _ A.in1 (updateSeq S (·.push (.ref T')) >>= _) _ _ _
    refine wpAny_bind ?_
    have H2 := (H'.prsPush (.tail _ (.head _)) (.head _) hc).push2 (v := .ref T')
    have H3 := H2.sub (Fs' := PrsF (acc ++ [.ref T']) (enF 0 (ns.take (i + 1))) :: Fs) (subf_cons (.head _) fun F hF => .tail _ (.tail _ (.tail _ hF)))
    refine wpAny_updateSeq hS rfl (wpAny_pure ⟨plainId_quiet F.plain_extend_loop _, ih (i + 1) _ _ (by omega) hlt (by simp [ha]) H3⟩) ?_ ?_
    · simp only [List.size_toArray]; rw [sizeLine_eq]; omega
    · show (acc.toArray.push _).size ≤ sizeLine + 1
      rw [Array.size_push, List.size_toArray, sizeLine_eq]; omega
theorem enum_no_len : typeLookup (.type "enumerate") "__len__" = pure none := by rw [typeLookup_type, builtinLookup_eq_fast]; kernel_rfl
theorem enum_no_hint : typeLookup (.type "enumerate") "__length_hint__" = pure none := by rw [typeLookup_type, builtinLookup_eq_fast]; kernel_rfl
/-- list(enumerate(tuple of ints)) -/
theorem r_listEnum {Q : Value → Shared → Prop} (hh : A.handled = none) (H : At D Fs (EnumR e it l true 0 :: R) s) (hm : TupF l vs ∈ Fs) (hi : IntsAre vs ns) (h0 : 0 < vs.length) (hz : vs.length ≤ 1000000)
    (h : ∀ L acc s', acc.length = vs.length → At D (PrsF acc (enF 0 ns) :: Fs) (Lst L acc :: R) s' → Q (.ref L) s') : wpAny (model prog w) A (call (.type "list") [.ref e]) Q E s := by
  obtain ⟨⟨old, he⟩, hit⟩ := H.res _ (.head _)
  have hSe : s.heap.objs.size ≠ e := fun q => Nat.lt_irrefl _ (q ▸ Heap.lt_size he)
  refine callType_codes (Q₁ := fun obj s₁ => obj = .ref s.heap.objs.size ∧ s₁ = { s with heap := s.heap.push { cls := .type "list", data := .seq #[] } }) F.called_list (F.typeCall_list_1 _) F.entry_list_init
    (code_list_new _ ⟨rfl, rfl⟩) fun obj s₁ h₁ => ?_
  obtain ⟨rfl, rfl⟩ := h₁
  have H1 : At D Fs (EnumR e it l true 0 :: Lst s.heap.objs.size [] :: R) { s with heap := s.heap.push { cls := .type "list", data := .seq #[] } } :=
    (H.pushL (vs := []) (tk := s.toks)).to (.cons .refl (.tail .head) (.cons .refl .head (Sub.refl _)))
  have hS : (s.heap.push { cls := .type "list", data := .seq #[] }).get? s.heap.objs.size = some { cls := .type "list", data := .seq #[] } := Heap.get?_push_size _ rfl
  refine ⟨⟨_, hS, rfl⟩, F.args_list_init_2 _ _, ?_⟩
  generalize hS0 : s.heap.objs.size = S at *
  show wpAny _ _ (Builtin.List.listItems (.ref S) >>= _) _ _ _
  refine wpAny_bind ?_
  unfold Builtin.List.listItems
  refine wpAny_bind (wpAny_seqItems hS rfl (wpAny_pure ?_))
  show wpAny _ _ (updateSeq S (fun _ => #[]) >>= fun _ => letGo (#[] : Array Value).toList.reverse >>= fun _ => Builtin.List.listExtendWith (.ref S) (.ref e) .none) _ _ _
  refine wpAny_bind (wpAny_updateSeq hS rfl ?_)
  refine wpAny_bind (wpAny_letGo ?_)
  have hS2 := Heap.get?_update_self (Obj.mapSeq (fun _ => (#[] : Array Value))) hS rfl
  have H2 := H1.upd (r := Lst S []) (r' := Lst S []) (h' := (s.heap.push { cls := .type "list", data := .seq #[] }).update S (Obj.mapSeq (fun _ => #[]))) (gens' := s.gens) (tk := s.toks) (.tail .head) rfl
    (fun b o nb q => (Heap.get?_update_other _ _ (Ne.symm fun q1 => nb (List.mem_singleton.mpr q1))).trans q) ⟨_, hS2⟩ H1.gens
  generalize (s.heap.push { cls := .type "list", data := .seq #[] }).update S (Obj.mapSeq (fun _ => #[])) = h2 at *
  obtain ⟨⟨old2, he2⟩, _⟩ := H2.res _ (.head _)
  have ht2 : ({ s with heap := h2 } : Shared).TypeIs (.ref e) "enumerate" := ⟨_, he2, rfl⟩
  show wpAny _ _ (Builtin.List.listExtendWith (.ref S) (.ref e) .none) _ _ _
  unfold Builtin.List.listExtendWith
  refine wpAny_bind (wpAny_typeOf ht2 ?_)
  have b1 : Builtin.List.listSameRef (.ref S) (.ref e) = false := by simp [Builtin.List.listSameRef, hSe]
  have b2 : (Value.type "enumerate" == Value.type "list") = false := by decide
  have b3 : (Value.type "enumerate" == Value.type "tuple") = false := by decide
  simp only [b1, b2, b3, Bool.or_false, Bool.false_eq_true, if_false]
  refine wpAny_bind (wpAny_pyIter_enum he2 ?_)
  refine wpAny_bind (wpAny_holding ?_)
  unfold Builtin.List.listLengthHint
  refine wpAny_bind (wpAny_specialOf ht2 enum_no_len ?_)
  show wpAny _ _ (specialOf (Value.ref e) (Str.ofString "__length_hint__") >>= _) _ _ _
  refine wpAny_bind (wpAny_specialOf ht2 enum_no_hint ?_)
  refine wpAny_pure ?_
  show wpAny _ _ (rule "list.extend.makes-room" >>= fun _ => Builtin.List.listTouch (.ref S) >>= fun _ =>
    again (.builtin "list.extend.loop" ⟨[.ref S, .ref e, .none], []⟩)) _ _ _
  refine wpAny_bind (wpAny_rule ?_)
  refine wpAny_bind ?_
  show wpAny _ _ (updateSeq S (·.push .none) >>= fun _ => updateSeq S (·.pop)) _ _ _
  obtain ⟨c3, hS3⟩ := H2.res (Lst S []) (.tail _ (.head _))
  replace hS3 : h2.get? S = some { cls := .type "list", dict := none, data := .seq #[] c3, slots := #[] } := hS3
  refine wpAny_bind (wpAny_updateSeq hS3 rfl ?_)
  have hS4 := Heap.get?_update_self (Obj.mapSeq (·.push Value.none)) hS3 rfl
  refine wpAny_updateSeq hS4 rfl ?_
  have hS5 := Heap.get?_update_self (Obj.mapSeq (·.pop)) hS4 rfl
  have H3 := H2.upd (r := Lst S []) (r' := Lst S []) (h' := (h2.update S (Obj.mapSeq (·.push Value.none))).update S (Obj.mapSeq (·.pop))) (gens' := s.gens) (tk := s.toks) (.tail .head) rfl
    (fun b o nb q => (Heap.get?_update_other _ _ (Ne.symm fun q1 => nb (List.mem_singleton.mpr q1))).trans ((Heap.get?_update_other _ _ (Ne.symm fun q1 => nb (List.mem_singleton.mpr q1))).trans q)) ⟨_, hS5⟩ H2.gens
  generalize (h2.update S (Obj.mapSeq (·.push Value.none))).update S (Obj.mapSeq (·.pop)) = h5 at *
  refine wpAny_pure ⟨plainId_quiet F.plain_extend_loop _, ?_⟩
  -- the first turn
  have hL := hi.length
  obtain ⟨c, u, ev, hc⟩ := hi.at 0 vs[0] (by simp [h0])
  refine codeAny_builtin F.entry_extend_loop ?_
  rw [Around.under_plainId F.plain_extend_loop _]
  show wpAny _ _ (pyNext (.ref e) >>= _) _ _ _
  refine wpAny_bind (en_first hh H3 hm (x := .int c u) (by rw [← ev]; simp [h0]) fun T t s' H' => ?_)
  obtain ⟨cc, hS⟩ := H'.res (Lst S []) (.tail _ (.head _))
  show wpAny _ _ (updateSeq S (·.push (.ref T)) >>= _) _ _ _
  refine wpAny_bind ?_
  have H4 := H'.push2 (v := .ref T)
  have H5 : At D (PrsF [.ref T] (enF 0 (ns.take 1)) :: TupF T [.int 0 t, .int c u] :: Fs) (EnO e it l T 1 :: Lst S ([] ++ [.ref T]) :: R) _ := H4.learn (.head _) fun h q => by
    show Prs _ _ _
    have : ns.take 1 = [c] := by cases ns with
      | nil => simp at hc
      | cons a r => simp at hc; simp [hc]
    rw [this]
    exact .cons q .nil
  refine wpAny_updateSeq hS rfl (wpAny_pure ⟨plainId_quiet F.plain_extend_loop _, en_loop (A := A.in1) (T := T) (ws := [.int 0 t, .int c u]) hh hi hz (.tail _ hm) (.head _) (fun acc s' ha H' => ?_) _ 1 [.ref T] _ rfl h0 rfl H5⟩) ?_ ?_
  · exact ⟨rfl, h S acc s' ha (H'.sub (subf_cons (.head _) fun F hF => .tail _ (.tail _ hF)))⟩
  · simp only [List.size_toArray]; rw [sizeLine_eq]; simp
  · rw [sizeLine_eq]; simp
end
end Mine

set_option maxRecDepth 100000
namespace Mine
open AutoSeq1 (wpAny_loadPart')
section
variable {prog : Program} {w : World} {A : Around} {E : Value → Shared → Prop} {D : Dat} {Fs : List Fact} {R R' : List Res} {s : Shared}
variable {l : Addr} {vs : List Value} {Q : Value → Shared → Prop}
/-- enumerate(tuple), its parts in sight -/
theorem r_enumT (H : At D Fs R s) (hm : TupF l vs ∈ Fs)
    (h : ∀ I it s', (∀ ng, Nexts prog w (D.withNg ng) true I vs.length (EnumR I it l true) (TupF l vs) (fun i v F => ∃ T vals, v = .ref T ∧ (∃ t x, vs.toArray[i]? = some x ∧ vals = #[.int i t, x]) ∧ F = TupF T vals.toList)) → At D Fs (EnumR I it l true 0 :: R) s' → Q (.ref I) s') :
    wpAny (model prog w) A (call (.type "enumerate") [.ref l]) Q E s := by
  have hl := H.fact hm
  have hlt : l < s.heap.objs.size := by obtain ⟨_, e, _⟩ := hl; exact Heap.lt_size e
  obtain ⟨⟨c, dct, dt, sl⟩, hl, hc, m, hd⟩ := hl
  replace hc : c = .type "tuple" := hc
  replace hd : dt = .seq vs.toArray m := hd
  subst hc hd
  refine callType_new F.called_enumerate (by decide) (F.typeCall_enumerate_1 _) (F.newCall_enumerate_1 _) (fun obj => F.args_object_init_2 obj _) F.entry_enumerate_new
    (meets_enumT l vs.toArray m dct sl) ⟨hl, ?_⟩
  have hz : (s.heap.push { cls := .type "tuple_iterator", data := .fields #[.ref l, .int 0 0] }).objs.size = s.heap.objs.size + 1 := Heap.size_push ..
  have he : IsEnum ((s.heap.push { cls := .type "tuple_iterator", data := .fields #[.ref l, .int 0 0] }).push
      { cls := .type "enumerate", data := .fields #[.none, .bool false, .ref s.heap.objs.size, rawInt 0, .none, .none] }) (s.heap.objs.size + 1) s.heap.objs.size 0 .none := by
    have := Heap.get?_push_size (s.heap.push { cls := .type "tuple_iterator", data := .fields #[.ref l, .int 0 0] })
      (o := { cls := .type "enumerate", data := .fields #[.none, .bool false, .ref s.heap.objs.size, rawInt 0, .none, .none] }) rfl
    rw [hz] at this; exact this
  show _ ∧ _
  rw [hz]
  refine ⟨⟨_, he, rfl⟩, h _ s.heap.objs.size _ (fun _ => nexts_enumT (Nat.succ_ne_self _) (Nat.ne_of_lt (Nat.lt_succ_of_lt hlt)) (Nat.ne_of_lt hlt)) ?_⟩
  exact H.own (r := EnumR (s.heap.objs.size + 1) s.heap.objs.size l true 0) (gens' := s.gens) (tk := s.toks) ((Ext.push _ _).trans (Ext.push _ _)) H.gens ⟨⟨_, he⟩, ⟨_, Heap.get?_push_of_some _ (Heap.get?_push_size _ rfl), rfl, rfl⟩⟩ (by show [s.heap.objs.size + 1, s.heap.objs.size].Nodup; simp) fun b hb => by
    rcases List.mem_cons.mp hb with rfl | hb
    · exact Nat.le_succ _
    · rw [List.mem_singleton.mp hb]; exact Nat.le_refl _
/-- a pair of a list of pairs -/
theorem At.prAt {ps : List (Int × Int)} {i : Nat} {v : Value} (H : At D Fs R s) (hm : PrsF vs ps ∈ Fs) (hv : vs[i]? = some v) : ∃ T a b t1 t2, v = .ref T ∧ ps[i]? = some (a, b) ∧ At D (TupF T [.int a t1, .int b t2] :: Fs) R s := by
  obtain ⟨T, a, b, t1, t2, e, e2, q⟩ := Prs.at (H.facts _ hm) i v hv
  refine ⟨T, a, b, t1, t2, e, e2, H.os, H.gens, H.tab, H.cs, H.nodup, H.res, H.base, fun F hF => ?_⟩
  rcases List.mem_cons.mp hF with rfl | hF
  · exact q
  · exact H.facts F hF
theorem At.prLen {ps : List (Int × Int)} (H : At D Fs R s) (hm : PrsF vs ps ∈ Fs) : vs.length = ps.length := Prs.length (H.facts _ hm)
end
end Mine

set_option maxRecDepth 100000
namespace Mine
theorem pow3_entry {a b c : Int} {t u v : Tok} (h0 : ¬ (c == 0) = true) (h1 : ¬ (c.natAbs == 1) = true) (hb : ¬ b < 0) (hc : ¬ c < 0) :
    Gives (Builtin.«int.__pow__» ⟨[.int a t, .int b u, .int c v], []⟩) (.int (Builtin.powMod (a % (c.natAbs : Int)).toNat b.natAbs c.natAbs : Nat)) :=
  .of_wp fun M A E s Q h => by
    obtain ⟨hp, g, d, tk, os⟩ := s
    wp_walk
    have e : decide (c < 0) = false := decide_eq_false hc
    simp only [e, Bool.false_and, Bool.false_eq_true, if_false]
    exact ⟨_, rfl, h⟩
theorem slot_pow' : Slot "int" (Str.ofString "__pow__") "int.__pow__" := by
  have e : PySem.dunder "pow" = Str.ofString "__pow__" := by kernel_rfl
  rw [← e]; exact slot_int_pow
theorem kind_powT : builtinKind "pow" = none := by decide +kernel
theorem plain_powT : plainId "pow" = true := by decide +kernel
theorem entry_powT : entryFor table "pow" = some Builtin.«pow» := entryFor_of_fast (by kernel_rfl)
theorem args_pow3 (a b c : Value) : argsOk "pow" ⟨[a, b, c], []⟩ := by unfold argsOk; kernel_rfl
section
variable {prog : Program} {w : World} {A : Around} {E : Value → Shared → Prop} {s : Shared} {a b c : Int} {t u v : Tok} {Q : Value → Shared → Prop}
theorem pow3_slot (h0 : ¬ (c == 0) = true) (h1 : ¬ (c.natAbs == 1) = true) (hb : ¬ b < 0) (hc : ¬ c < 0) (h : ∀ t k, Q (.int (Builtin.powMod (a % (c.natAbs : Int)).toNat b.natAbs c.natAbs : Nat) t) { s with toks := k }) :
    wpAny (model prog w) A (call (.builtin "int.__pow__") [.int a t, .int b u, .int c v]) Q E s :=
  call_gives slot_pow' (typeIs_int s a t) entry_int_pow (F.args_int_pow_3 _ _ _) (pow3_entry h0 h1 hb hc) (h s.toks (s.toks + 1))
theorem pow3_special {Q : Option Value → Shared → Prop} (h0 : ¬ (c == 0) = true) (h1 : ¬ (c.natAbs == 1) = true) (hb : ¬ b < 0) (hc : ¬ c < 0) (h : ∀ t k, Q (some (.int (Builtin.powMod (a % (c.natAbs : Int)).toNat b.natAbs c.natAbs : Nat) t)) { s with toks := k }) :
    wpAny (model prog w) A (callSpecial? (.int a t) (Str.ofString "__pow__") [.int b u, .int c v]) Q E s := by
  have k := pow3_slot (prog := prog) (w := w) (Q := fun v => Q (some v)) (A := A) (E := E) (s := s) (t := t) (u := u) (v := v) h0 h1 hb hc h
  have k2 := typeIs_int s a t
  generalize (.int a t : Value) = X at *
  generalize (.int b u : Value) = Y at *
  generalize (.int c v : Value) = Z at *
  exact wpAny_callSpecial?_slot (T := "int") (id := "int.__pow__") k2 slot_pow' k
theorem pow3_call (h0 : ¬ (c == 0) = true) (h1 : ¬ (c.natAbs == 1) = true) (hb : ¬ b < 0) (hc : ¬ c < 0) (h : ∀ t k, Q (.int (Builtin.powMod (a % (c.natAbs : Int)).toNat b.natAbs c.natAbs : Nat) t) { s with toks := k }) :
    wpAny (model prog w) A (call (.builtin "pow") [.int a t, .int b u, .int c v]) Q E s := by
  refine Calls.call_function_entry kind_powT plain_powT entry_powT (args_pow3 _ _ _) ?_
  unfold Builtin.«pow»
  refine wpAny_bind (wpAny_of_eq (show Builtin.Builtins.bindParams "pow" ["base", "exp", "mod"] 2 ⟨[.int a t, .int b u, .int c v], []⟩ = pure [some (.int a t), some (.int b u), some (.int c v)] from rfl) ?_)
  wp_walk
  refine wpAny_of_eq slot_pow'.lookup ?_
  dsimp only
  refine wpAny_bind ?_
  simp only [Option.getD_some]
  refine pow3_special h0 h1 hb hc fun t k => ?_
  dsimp only
  rw [if_pos (by rfl)]
  exact wpAny_pure ⟨_, rfl, h t k⟩
end
section
variable {prog : Program} {w : World} {A : Around} {E : Value → Shared → Prop} {D : Dat} {Fs : List Fact} {R R' : List Res} {s : Shared} {Q : Value → Shared → Prop}
theorem r_pow3 {a b c : Int} {t u v : Tok} (H : At D Fs R s) (hc : 1 < c) (hb : 0 ≤ b) (h : ∀ t s', At D Fs R s' → Q (.int (Builtin.powMod (a % (c.natAbs : Int)).toNat b.natAbs c.natAbs : Nat) t) s') :
    wpAny (model prog w) A (call (.builtin "pow") [.int a t, .int b u, .int c v]) Q E s :=
  pow3_call (by simp; omega) (by simp; omega) (by omega) (by omega) fun t k => h t _ (H.toks k)
theorem all_eq_decide {ns ms : List Int} (h : ns.length = ms.length) : ((List.range ns.length).all fun j => ns.getD j 0 == ms.getD j 0) = decide (ns = ms) := by
  rw [Bool.eq_iff_iff, List.all_eq_true, decide_eq_true_iff]
  constructor
  · intro q
    refine List.ext_getElem h fun j h1 h2 => ?_
    have := q j (List.mem_range.mpr h1)
    simpa [List.getD, h1, h2] using this
  · rintro rfl j _
    simp
theorem r_eqL {l b : Addr} {vs ws : List Value} {ns ms : List Int} (hu : A.units < 9900) (H : At D Fs R s) (h1 : s.heap.PlainList l vs.toArray) (h2 : s.heap.PlainList b ws.toArray) (i1 : IntsAre vs ns) (i2 : IntsAre ws ms) (hl : ns.length = ms.length)
    (h : Q (.bool (decide (ns = ms))) s) : wpAny (model prog w) A (compareOp .Eq (.ref l) (.ref b)) Q E s := by
  have l1 := i1.length
  have l2 := i2.length
  refine SeqAt.eq_listAt (e := fun j => ns.getD j 0 == ms.getD j 0) (Heap.PlainList.isList h1) (Heap.PlainList.isList h2) (by simp; omega) hu (fun j q1 q2 => ?_) ?_
  · obtain ⟨t, e⟩ := i1.int_at j (vs.toArray[j]) (by simp)
    obtain ⟨u, e'⟩ := i2.int_at j (ws.toArray[j]) (by simp)
    rw [e, e']
    exact SeqAt.EqAt.int_int _ _ _ _
  · rw [List.size_toArray, l1, all_eq_decide hl]
    exact h
end
end Mine

namespace Mine
section
local macro_rules | `(tactic| o_head ($f $k $a (fun _ => $b))) => `(tactic| o_head ($f (fun P => $k P ++ [(49, X.tableObj #[]), (348, X.tableObj #[])]) ($a ++ [49, 348]) ((fun _ => $b))))
set_option maxRecDepth 100000 in
set_option maxHeartbeats 8000000 in
open_top hd for PySem.Challenge.rw_bq0014_01
end
noncomputable def KK (P : Params) : Frag := hd.heap_39 P ++ [(49, X.tableObj #[]), (348, X.tableObj #[])]
theorem plain_of {P : Params} {h : Heap} {l : Addr} {vs : List Value} {x : List PyData} (w1 : Well P h (.ref l) (ofPy (PyData.list x))) (hL : h.IsList l vs.toArray) : h.PlainList l vs.toArray := by
  have e : ofPy (.list x) = .list (ofPys x) := rfl
  rw [e] at w1
  cases w1 with
  | list hg _ =>
    obtain ⟨o, ho, hc, n, hd⟩ := hL
    rw [hg] at ho
    cases ho
    have hd' := hd
    simp only [Data.seq.injEq] at hd'
    exact ⟨0, by rw [← hd'.1]; exact hg⟩
def LawDone : Prop := ∀ {prog : Program} {w : World} {mg mb : Str → Option Value} {s₁ : Shared} {fa l : Addr} {vs : List Value} {ns : List Int} {Q : Value → Shared → Prop} {E : Value → Shared → Prop}, (KK w.params).In s₁.heap → s₁.heap.Ns mainGlobals mg → s₁.heap.Ns builtinsNs mb → s₁.heap.NoLimit → (∀ x : Str, x ≠ "__name__" → mb x = bootBuiltins x) → (∃ bm ob, mg "__builtins__" = some (.ref bm) ∧ bm ≠ builtinsNs ∧ s₁.heap.get? bm = some ob ∧ ob.cls = .type "module" ∧ ob.dict = some builtinsNs ∧ ob.data = .plain) → mg "law" = some (.ref fa) → s₁.gens = #[] → s₁.heap.PlainList l vs.toArray → IntsAre vs ns → vs.length < 2 ^ 20 → (∀ s', OldK s₁.heap s'.heap → s'.os = s₁.os → AllBare s'.gens → Q (.bool true) s') → wpAny (model prog w) callerA (call (.ref fa) [.ref l]) Q E s₁
set_option maxRecDepth 100000 in
set_option maxHeartbeats 8000000 in
theorem fin_of (HH : LawDone) : PySem.Challenge.rw_bq0014_01.Holds := by
  w_on
  refine hd ?_
  intro w s₀ s₁ mg mb G Y fa o pm cd doc dV kV ho hd hcd hD hmg hg args vals as hpre hlay hrd hwl hlo
  have KX : (KK w.params).In s₁.heap := kIn_of Y
  have T := G.T
  clear hcd hD hd G Y ho
  wrow_args hpre hlay hrd hwl hlo
  rename_i ws _ _ _ _ _ _ _ l vs _ hL _ w1 _ hI _ hc _
  refine HH KX T.g T.b T.nolimit T.builtins T.bmain hmg hg (plain_of w1 hL) hI (by have := hI.length; omega) fun s' hK hos hgen => ⟨.inl ⟨_, .bool true, [], rfl, fun _ => ?_, .bool true, ?_, ?_⟩, hK, hos, hgen⟩
  · rfl
  · wrow_post
  · intro hu
    exact ⟨List.nodup_nil, fun a ha => by cases ha⟩
end Mine

namespace Mine
local macro_rules | `(tactic| k_extra "m mem") => `(tactic| first | with_reducible assumption | with_reducible exact mem_hd | (with_reducible refine mem_tl ?_; k_extra "m mem"))
local macro_rules | `(tactic| k_extra "m rp") => `(tactic| first | with_reducible exact Rp.head | (with_reducible refine' Rp.tail ?b; (case b => k_extra "m rp")))
local macro_rules | `(tactic| k_extra "m rm") => `(tactic| first | with_reducible exact Rm.head | (with_reducible refine' Rm.tail ?b; (case b => k_extra "m rm")))
local macro_rules | `(tactic| k_extra "m set") => `(tactic| first | exact SetV.head | exact SetV.nil | (refine' SetV.tail ?a ?b; (case a => decide); (case b => k_extra "m set")))
local macro_rules | `(tactic| k_extra "m subv") => `(tactic| repeat' (first | exact SubV.refl | exact SubV.nil | refine SubV.cons rfl ?_))
local macro_rules | `(tactic| k_extra "m sub") => `(tactic| first | exact Sub.nil | exact Sub.refl _ | (refine' Sub.cons Imp.refl ?a ?c; (case a => k_extra "m rm"); (case c => k_extra "m sub")) | (refine' Sub.cons (Imp.vars ?b) ?a ?c; (case a => k_extra "m rm"); (case b => k_extra "m subv"); (case c => k_extra "m sub")) | (refine Sub.drop ?_; k_extra "m sub"))
local macro_rules | `(tactic| k_extra "m facts") => `(tactic| with_reducible first | exact subf_refl | exact subf_nil | (refine subf_cons (by k_extra "m mem") ?_; k_extra "m facts") | (refine subf_drop ?_; k_extra "m facts"))
local macro_rules | `(tactic| k_extra "m tails") => `(tactic| first | with_reducible assumption | (with_reducible refine mem_tl ?_; k_extra "m tails"))
local macro_rules | `(tactic| k_extra "m at") => `(tactic| with_reducible assumption)
local macro_rules | `(tactic| k_extra "m hh") => `(tactic| first | exact (by assumption : Ok _ _).handled | assumption)
local macro_rules | `(tactic| k_extra "m pl") => `(tactic| ((with_reducible rename At _ _ _ _ => $(Lean.mkIdent `hA):ident); first | exact At.plF $(Lean.mkIdent `hA):ident (by k_extra "m mem") | exact At.pl $(Lean.mkIdent `hA):ident (by k_extra "m mem")))
local macro_rules | `(tactic| walk_at "eval Name") => `(tactic| ((with_reducible rename At _ _ _ _ => $(Lean.mkIdent `hA):ident); with_unfolding_all refine' r_ldbuiltin (K := ?K) (by assumption) $(Lean.mkIdent `hA):ident ?e ?b ?_ ?n rfl rfl rfl rfl ?d; (case e => k_is); (case b => boot_by_name); (case n => decide); (case d => decide)))
local macro_rules | `(tactic| walk_at "eval Name") => `(tactic| ((with_reducible rename At _ _ _ _ => $(Lean.mkIdent `hA):ident); with_unfolding_all refine' r_ldglob (K := ?K) (by assumption) $(Lean.mkIdent `hA):ident ?e ?_ rfl rfl rfl ?d; (case e => k_is); (case d => decide)))
local macro_rules | `(tactic| walk_at "eval Name") => `(tactic| ((with_reducible rename At _ _ _ _ => $(Lean.mkIdent `hA):ident); with_unfolding_all refine' r_ldcell $(Lean.mkIdent `hA):ident ?m ?c ?_ rfl rfl ?d; (case c => exact rfl); (case m => k_extra "m mem"); (case d => decide)))
local macro_rules | `(tactic| walk_at "eval Name") => `(tactic| ((with_reducible rename At _ _ _ _ => $(Lean.mkIdent `hA):ident); with_unfolding_all refine' r_ldfree $(Lean.mkIdent `hA):ident ?m ?c ?_ rfl rfl ?d ?n; (case c => exact rfl); (case m => k_extra "m mem"); (case d => decide); (case n => decide)))
local macro_rules | `(tactic| walk_at "eval Name") => `(tactic| ((with_reducible rename At _ _ _ _ => $(Lean.mkIdent `hA):ident); with_unfolding_all refine' v_ld ?hL $(Lean.mkIdent `hA):ident ?m ?v ?_ rfl rfl ?d; (case hL => k_extra "m loc"); (case m => k_extra "m mem"); (case v => exact rfl); (case d => decide)))
local macro_rules | `(tactic| walk_at "loadName") => `(tactic| ((with_reducible rename At _ _ _ _ => $(Lean.mkIdent `hA):ident); with_unfolding_all refine' v_ldn ?hL $(Lean.mkIdent `hA):ident ?m ?v ?_ rfl rfl; (case hL => k_extra "m loc"); (case m => k_extra "m mem"); (case v => exact rfl)))
local macro_rules | `(tactic| walk_at "storeName") => `(tactic| ((with_reducible rename At _ _ _ _ => $(Lean.mkIdent `hA):ident); with_unfolding_all refine' v_st ?hL $(Lean.mkIdent `hA):ident ?p ?s ?_ rfl rfl; (case hL => k_extra "m loc"); (case p => k_extra "m rp"); (case s => k_extra "m set"); clear $(Lean.mkIdent `hA):ident; intro $(Lean.mkIdent `s9):ident $(Lean.mkIdent `hA):ident))
local macro_rules | `(tactic| walk_at "eval Constant int") => `(tactic| ((with_reducible rename At _ _ _ _ => $(Lean.mkIdent `hA):ident); refine r_int $(Lean.mkIdent `hA):ident ?_; clear $(Lean.mkIdent `hA):ident; intro $(Lean.mkIdent `t9):ident $(Lean.mkIdent `s9):ident $(Lean.mkIdent `hA):ident))
local macro_rules | `(tactic| walk_at "binaryOp Add int int") => `(tactic| ((with_reducible rename At _ _ _ _ => $(Lean.mkIdent `hA):ident); refine r_add $(Lean.mkIdent `hA):ident ?_; clear $(Lean.mkIdent `hA):ident; intro $(Lean.mkIdent `t9):ident $(Lean.mkIdent `s9):ident $(Lean.mkIdent `hA):ident))
local macro_rules | `(tactic| walk_at "binaryOp Sub int int") => `(tactic| ((with_reducible rename At _ _ _ _ => $(Lean.mkIdent `hA):ident); refine r_sub $(Lean.mkIdent `hA):ident ?_; clear $(Lean.mkIdent `hA):ident; intro $(Lean.mkIdent `t9):ident $(Lean.mkIdent `s9):ident $(Lean.mkIdent `hA):ident))
local macro_rules | `(tactic| walk_at "inplaceOp Add int int") => `(tactic| ((with_reducible rename At _ _ _ _ => $(Lean.mkIdent `hA):ident); refine r_iadd $(Lean.mkIdent `hA):ident ?_; clear $(Lean.mkIdent `hA):ident; intro $(Lean.mkIdent `t9):ident $(Lean.mkIdent `s9):ident $(Lean.mkIdent `hA):ident))
local macro_rules | `(tactic| walk_at "inplaceOp Sub int int") => `(tactic| ((with_reducible rename At _ _ _ _ => $(Lean.mkIdent `hA):ident); refine r_isub $(Lean.mkIdent `hA):ident ?_; clear $(Lean.mkIdent `hA):ident; intro $(Lean.mkIdent `t9):ident $(Lean.mkIdent `s9):ident $(Lean.mkIdent `hA):ident))
local macro_rules | `(tactic| walk_at "unaryOp USub int") => `(tactic| ((with_reducible rename At _ _ _ _ => $(Lean.mkIdent `hA):ident); refine r_neg $(Lean.mkIdent `hA):ident ?_; clear $(Lean.mkIdent `hA):ident; intro $(Lean.mkIdent `t9):ident $(Lean.mkIdent `s9):ident $(Lean.mkIdent `hA):ident))
local macro_rules | `(tactic| k_extra "m mulok") => `(tactic| first | assumption | exact PySem.IntMulOk.of_left (by decide) | exact PySem.IntMulOk.of_right (by decide) | exact PySem.IntMulOk.of_left (intBits_le (by omega)) | exact PySem.IntMulOk.of_right (intBits_le (by omega)))
local macro_rules | `(tactic| walk_at "binaryOp Mult int int") => `(tactic| ((with_reducible rename At _ _ _ _ => $(Lean.mkIdent `hA):ident); refine r_mul $(Lean.mkIdent `hA):ident (by k_extra "m mulok") ?_; clear $(Lean.mkIdent `hA):ident; intro $(Lean.mkIdent `t9):ident $(Lean.mkIdent `s9):ident $(Lean.mkIdent `hA):ident))
local macro_rules | `(tactic| walk_at "binaryOp Mod int int") => `(tactic| ((with_reducible rename At _ _ _ _ => $(Lean.mkIdent `hA):ident); refine r_mod $(Lean.mkIdent `hA):ident (by omega) ?_; clear $(Lean.mkIdent `hA):ident; intro $(Lean.mkIdent `t9):ident $(Lean.mkIdent `s9):ident $(Lean.mkIdent `hA):ident))
local macro_rules | `(tactic| k_extra "m size") => `(tactic| first | omega | (simp; omega) | (simp; done))
local macro_rules | `(tactic| walk_at "call builtin:len") => `(tactic| ((with_reducible rename At _ _ _ _ => $(Lean.mkIdent `hA):ident); (first | refine r_lenL $(Lean.mkIdent `hA):ident (by k_extra "m mem") (by k_extra "m size") ?_ | refine r_lenR $(Lean.mkIdent `hA):ident (by k_extra "m mem") (by k_extra "m size") ?_ | refine r_lenT $(Lean.mkIdent `hA):ident (by k_extra "m mem") (by k_extra "m size") ?_); clear $(Lean.mkIdent `hA):ident; intro $(Lean.mkIdent `t9):ident $(Lean.mkIdent `s9):ident $(Lean.mkIdent `hA):ident))
local macro_rules | `(tactic| walk_at "pyIter ref") => `(tactic| ((with_reducible rename At _ _ _ _ => $(Lean.mkIdent `hA):ident); (first | refine r_iterL $(Lean.mkIdent `hA):ident (by k_extra "m mem") ?_ | (refine' r_iterLR $(Lean.mkIdent `hA):ident ?rm ?_; (case rm => k_extra "m rm")) | refine r_iterT $(Lean.mkIdent `hA):ident (by k_extra "m mem") ?_ | refine r_iterU $(Lean.mkIdent `hA):ident (by k_extra "m mem") (by omega) ?_ | refine r_iterD $(Lean.mkIdent `hA):ident (by k_extra "m mem") (by omega) ?_ | refine r_iterR $(Lean.mkIdent `hA):ident (by k_extra "m mem") (by k_extra "m small") (by k_extra "m range0") ?_); clear $(Lean.mkIdent `hA):ident; intro $(Lean.mkIdent `I9):ident $(Lean.mkIdent `s9):ident $(Lean.mkIdent `hN9):ident $(Lean.mkIdent `hA):ident))
local macro_rules | `(tactic| k_extra "m small") => `(tactic| first | exact small_one (by omega) (by omega) (by omega) (by omega) | assumption)
local macro_rules | `(tactic| k_extra "m range0") => `(tactic| first | assumption | (rw [rangeSize_one]; split <;> omega))
local macro_rules | `(tactic| walk_at "call type:range") => `(tactic| ((with_reducible rename At _ _ _ _ => $(Lean.mkIdent `hA):ident); (first | refine r_range1 $(Lean.mkIdent `hA):ident ?_ | refine r_range2 $(Lean.mkIdent `hA):ident ?_); clear $(Lean.mkIdent `hA):ident; intro $(Lean.mkIdent `r9):ident $(Lean.mkIdent `s9):ident $(Lean.mkIdent `hA):ident))
local macro_rules | `(tactic| k_extra "m and") => `(tactic| ((with_reducible rename At _ _ _ _ => $(Lean.mkIdent `hA):ident); (first | with_reducible refine r_newL $(Lean.mkIdent `hA):ident (by simp) ?_ | with_reducible refine r_newT $(Lean.mkIdent `hA):ident (by simp) ?_); clear $(Lean.mkIdent `hA):ident; intro $(Lean.mkIdent `l9):ident $(Lean.mkIdent `s9):ident $(Lean.mkIdent `hA):ident))
local macro_rules | `(tactic| walk_at "binaryOp Mult ref int") => `(tactic| ((with_reducible rename At _ _ _ _ => $(Lean.mkIdent `hA):ident); refine r_mulL $(Lean.mkIdent `hA):ident (by k_extra "m pl") (by k_extra "m size") (by k_extra "m size") ?_; clear $(Lean.mkIdent `hA):ident; intro $(Lean.mkIdent `l9):ident $(Lean.mkIdent `s9):ident $(Lean.mkIdent `hA):ident))
local macro_rules | `(tactic| walk_at "subscriptTail") => `(tactic| ((with_reducible rename At _ _ _ _ => $(Lean.mkIdent `hA):ident); first | refine r_itemL $(Lean.mkIdent `hA):ident (by k_extra "m mem") (by k_extra "m size") (by k_extra "m size") (by k_extra "m idx") ?_ rfl | refine r_itemR $(Lean.mkIdent `hA):ident (by k_extra "m mem") (by k_extra "m size") (by k_extra "m size") (by k_extra "m idx") ?_ rfl | refine r_itemT $(Lean.mkIdent `hA):ident (by k_extra "m mem") (by k_extra "m size") (by k_extra "m size") (by k_extra "m idx") ?_ rfl))
local macro_rules | `(tactic| k_extra "m idx") => `(tactic| assumption)
local macro_rules | `(tactic| k_extra "m bind") => `(tactic| repeat' (first | exact allB_nil | (with_reducible refine allB_cons ?_ ?_) | (with_unfolding_all exact rfl)))
local macro_rules | `(tactic| k_extra "m enter") => `(tactic| (w_top off; (case W => assumption); (case ho => k_is); (case hcd => k_is); (case hb => exact rfl); (case hl => exact locs rfl); (case hm => exact rfl); (case c1 => decide); (case c2 => exact rfl); (case c3 => exact rfl); (case c4 => exact rfl); intro $(Lean.mkIdent `L9):ident $(Lean.mkIdent `s9):ident $(Lean.mkIdent `hK9):ident $(Lean.mkIdent `hA):ident))
local macro_rules | `(tactic| k_extra "m enterc") => `(tactic| (w_top off; (case W => assumption); (case ho => k_is); (case hcd => k_is); (case hb => exact rfl); (case hl => exact rfl); (case hm => (intro _; k_extra "m bind")); (case hcm => intro _; exact rfl); (case hum => intro _; exact rfl); (case hnd => decide +kernel); (case hud => (intro _; simp)); (case c2 => exact rfl); (case c3 => exact rfl); (case c4 => exact rfl); intro $(Lean.mkIdent `L9):ident $(Lean.mkIdent `s9):ident $(Lean.mkIdent `hK9):ident $(Lean.mkIdent `hA):ident; simp only [List.map_cons, List.map_nil, List.cons_append, List.nil_append] at $(Lean.mkIdent `hA):ident))
local macro_rules | `(tactic| k_extra "m loc") => `(tactic| first | with_reducible exact locals_envOf | with_reducible exact locals_envOfC | with_reducible exact locals_compEnvC | with_reducible exact locals_genEnv | exact locals_envOf | exact locals_envOfC | exact locals_compEnvC | exact locals_genEnv)
local macro_rules | `(tactic| walk_at "newList") => `(tactic| ((with_reducible rename At _ _ _ _ => $(Lean.mkIdent `hA):ident); refine r_nl $(Lean.mkIdent `hA):ident (by k_extra "m size") ?_; clear $(Lean.mkIdent `hA):ident; intro $(Lean.mkIdent `l9):ident $(Lean.mkIdent `s9):ident $(Lean.mkIdent `hA):ident))
local macro_rules | `(tactic| walk_at "newTuple") => `(tactic| ((with_reducible rename At _ _ _ _ => $(Lean.mkIdent `hA):ident); refine r_nt $(Lean.mkIdent `hA):ident (by k_extra "m size") ?_; clear $(Lean.mkIdent `hA):ident; intro $(Lean.mkIdent `l9):ident $(Lean.mkIdent `s9):ident $(Lean.mkIdent `hA):ident))
local macro_rules | `(tactic| walk_at "exec For") => `(tactic| (refine wpAny_For ?_ ?hs; (case hs => (intro _; with_unfolding_all exact rfl))))
local macro_rules | `(tactic| walk_at "exec While") => `(tactic| (refine wpAny_While ?_))
local macro_rules | `(tactic| walk_at "exec AugAssign Subscript") => `(tactic| refine wpAny_AugAssign_SubscriptAny ?_)
local macro_rules | `(tactic| walk_at "subscriptTail") => `(tactic| ((with_reducible rename At _ _ _ _ => $(Lean.mkIdent `hA):ident); (with_reducible show wpAny _ _ (subscriptTail _ _ (Value.ref _) (Value.ref _)) _ _ _); (first | refine r_slice $(Lean.mkIdent `hA):ident (by k_extra "m pl") .none .none (.int _ _) (by decide) (slicePick_rev _) (by k_extra "m size") ?_ | refine r_slice $(Lean.mkIdent `hA):ident (by k_extra "m pl") .none (.int _ _) .none (by decide) (by k_extra "m upto") (by k_extra "m size") ?_); clear $(Lean.mkIdent `hA):ident; intro $(Lean.mkIdent `l9):ident $(Lean.mkIdent `s9):ident $(Lean.mkIdent `hA):ident))
local macro_rules | `(tactic| k_extra "m to") => `(tactic| ((with_reducible rename At _ _ _ _ => $(Lean.mkIdent `hA):ident); exact At.to' $(Lean.mkIdent `hA):ident (by k_extra "m sub") (by k_extra "m facts")))
local macro_rules | `(tactic| walk_at "setItem ref int") => `(tactic| ((with_reducible rename At _ _ _ _ => $(Lean.mkIdent `hA):ident); refine' r_setL $(Lean.mkIdent `hA):ident ?rp ?ra ?rb ?rc ?_; (case rp => k_extra "m rp"); (case ra => k_extra "m size"); (case rb => k_extra "m size"); (case rc => k_extra "m len"); clear $(Lean.mkIdent `hA):ident; intro $(Lean.mkIdent `s9):ident $(Lean.mkIdent `hA):ident))
local macro_rules | `(tactic| k_extra "m len") => `(tactic| first | omega | (simp; done) | (simp; omega))
local macro_rules | `(tactic| k_extra "m idx") => `(tactic| first | assumption | (simp only [Int.zero_add, Int.mul_one]; assumption))
local macro_rules | `(tactic| k_extra "m ints") => `(tactic| first | with_reducible assumption | (with_reducible refine' ints_set ?a _ _ _; (case a => k_extra "m ints")) | with_reducible exact ints_rep _ _ _ | with_reducible exact .nil | (with_reducible refine' IntsAre.cons _ _ ?a; (case a => k_extra "m ints")) | (with_reducible refine' IntsAre.append ?a ?b; (case a => k_extra "m ints"); (case b => k_extra "m ints")))
local macro_rules | `(tactic| k_extra "m lenI") => `(tactic| first | omega | (simp only [List.length_set, List.length_replicate, List.length_cons, List.length_nil] <;> omega))
local macro_rules | `(tactic| walk_at "subscriptTail") => `(tactic| ((with_reducible rename At _ _ _ _ => $(Lean.mkIdent `hA):ident); (with_reducible show wpAny _ _ (subscriptTail _ _ (Value.ref _) (Value.int _ _)) _ _ _); (first | refine r_itemLI $(Lean.mkIdent `hA):ident (by k_extra "m pl") (by k_extra "m ints") (by k_extra "m lenI") (by k_extra "m lenI") (by k_extra "m size") ?_ rfl | refine r_itemTI $(Lean.mkIdent `hA):ident (by k_extra "m mem") (by k_extra "m ints") (by k_extra "m lenI") (by k_extra "m lenI") (by k_extra "m size") ?_ rfl); intro $(Lean.mkIdent `t9):ident))
local macro_rules | `(tactic| k_extra "m obj") => `(tactic| first | exact .fq | exact .opt | exact .pln)
local macro_rules | `(tactic| walk_at "setAttr ref") => `(tactic| ((with_reducible rename At _ _ _ _ => $(Lean.mkIdent `hA):ident); refine' r_setattr (K := ?K) ?W $(Lean.mkIdent `hA):ident ?hx ?hp ?h1 ?h2 ?h3 ?h4 ?h5 ?_; (case W => assumption); (case hx => k_extra "m mem"); (case hp => k_extra "m rp"); (case h1 => k_is); (case h2 => k_is); (case h3 => k_is); (case h4 => k_is); (case h5 => simp); clear $(Lean.mkIdent `hA):ident; intro $(Lean.mkIdent `s9):ident $(Lean.mkIdent `hA):ident))
local macro_rules | `(tactic| walk_at "getAttr ref") => `(tactic| ((with_reducible rename At _ _ _ _ => $(Lean.mkIdent `hA):ident); refine' r_attrR (K := ?K) ?W $(Lean.mkIdent `hA):ident ?hx ?hm ?h1 ?h2 ?h3 ?h4 ?hl ?hv ?_; (case W => assumption); (case hx => k_extra "m mem"); (case hm => k_extra "m mem"); (case hl => first | exact rfl | assumption); (case h1 => k_is); (case h2 => k_is); (case h3 => k_is); (case h4 => k_is); (case hv => exact rfl); clear $(Lean.mkIdent `hA):ident; intro $(Lean.mkIdent `s9):ident $(Lean.mkIdent `hA):ident))
local macro_rules | `(tactic| walk_at "exec Assign") => `(tactic| ((with_reducible refine plainObj_wpAny_Assign_Attribute ?_ ?hs); (case hs => with_unfolding_all rfl)))
local macro_rules | `(tactic| walk_at "eval ListComp") => `(tactic| ((with_reducible refine' r_ListComp ?hc ?hk ?hn ?hs ?_); (case hc => with_unfolding_all exact rfl); (case hk => with_unfolding_all exact rfl); (case hn => with_unfolding_all decide); (case hs => (intro _; with_unfolding_all exact rfl))))
local macro_rules | `(tactic| walk_at "exec Assign cons ListComp") => `(tactic| ((with_reducible refine' r_AssignListComp ?hw ?hc ?hk ?hn ?hs ?_); (case hw => with_unfolding_all exact rfl); (case hc => with_unfolding_all exact rfl); (case hk => with_unfolding_all exact rfl); (case hn => with_unfolding_all decide); (case hs => (intro _; with_unfolding_all exact rfl))))
local macro_rules | `(tactic| walk_at "call builtin:isinstance") => `(tactic| ((with_reducible rename At _ _ _ _ => $(Lean.mkIdent `hA):ident); refine' r_isi_int (K := ?K) ?W $(Lean.mkIdent `hA):ident ?e ?_; (case W => assumption); (case e => kit_is); clear $(Lean.mkIdent `hA):ident; intro $(Lean.mkIdent `s9):ident $(Lean.mkIdent `hA):ident))
local macro_rules | `(tactic| walk_at "call builtin:isinstance") => `(tactic| ((with_reducible rename At _ _ _ _ => $(Lean.mkIdent `hA):ident); refine' o_isi (K := ?K) (F := FQF _ _ _ _) ?W $(Lean.mkIdent `hA):ident ?hm ?ho ?e ?h1 ?h2 ?h3 ?h4 ?h5 ?h6 ?_; (case W => assumption); (case ho => k_extra "m obj"); (case hm => k_extra "m mem"); (case e => kit_is); (case h1 => k_is); (case h2 => k_is); (case h3 => k_is); (case h4 => k_is); (case h5 => k_is); (case h6 => k_is); clear $(Lean.mkIdent `hA):ident; intro $(Lean.mkIdent `s9):ident $(Lean.mkIdent `hA):ident))
local macro_rules | `(tactic| walk_at "call builtin:isinstance") => `(tactic| ((with_reducible rename At _ _ _ _ => $(Lean.mkIdent `hA):ident); refine' o_isiT (K := ?K) (F := FQF _ _ _ _) ?W $(Lean.mkIdent `hA):ident ?hm ?ho ?hc ?e ?h1 ?h2 ?h3 ?h4 ?h5 ?h6 ?_; (case W => assumption); (case ho => k_extra "m obj"); (case hm => k_extra "m mem"); (case hc => k_extra "m mem"); (case e => kit_is); (case h1 => k_is); (case h2 => k_is); (case h3 => k_is); (case h4 => k_is); (case h5 => k_is); (case h6 => k_is); clear $(Lean.mkIdent `hA):ident; intro $(Lean.mkIdent `s9):ident $(Lean.mkIdent `hA):ident))
local macro_rules | `(tactic| walk_at "getMethod ref") => `(tactic| ((with_reducible rename At _ _ _ _ => $(Lean.mkIdent `hA):ident); refine' o_meth (K := ?K) (F := FQF _ _ _ _) ?W $(Lean.mkIdent `hA):ident ?hm ?ho ?h1 ?h2 ?h3 ?h4 ?_; (case W => assumption); (case ho => k_extra "m obj"); (case hm => k_extra "m mem"); (case h1 => k_is); (case h2 => k_is); (case h3 => k_is); (case h4 => decide)))
local macro_rules | `(tactic| walk_at "call builtin:isinstance") => `(tactic| ((with_reducible rename At _ _ _ _ => $(Lean.mkIdent `hA):ident); refine' o_isi (K := ?K) (F := OptF _ _ _ _ _) ?W $(Lean.mkIdent `hA):ident ?hm ?ho ?e ?h1 ?h2 ?h3 ?h4 ?h5 ?h6 ?_; (case W => assumption); (case ho => k_extra "m obj"); (case hm => k_extra "m mem"); (case e => kit_is); (case h1 => k_is); (case h2 => k_is); (case h3 => k_is); (case h4 => k_is); (case h5 => k_is); (case h6 => k_is); clear $(Lean.mkIdent `hA):ident; intro $(Lean.mkIdent `s9):ident $(Lean.mkIdent `hA):ident))
local macro_rules | `(tactic| walk_at "call builtin:isinstance") => `(tactic| ((with_reducible rename At _ _ _ _ => $(Lean.mkIdent `hA):ident); refine' o_isiT (K := ?K) (F := OptF _ _ _ _ _) ?W $(Lean.mkIdent `hA):ident ?hm ?ho ?hc ?e ?h1 ?h2 ?h3 ?h4 ?h5 ?h6 ?_; (case W => assumption); (case ho => k_extra "m obj"); (case hm => k_extra "m mem"); (case hc => k_extra "m mem"); (case e => kit_is); (case h1 => k_is); (case h2 => k_is); (case h3 => k_is); (case h4 => k_is); (case h5 => k_is); (case h6 => k_is); clear $(Lean.mkIdent `hA):ident; intro $(Lean.mkIdent `s9):ident $(Lean.mkIdent `hA):ident))
local macro_rules | `(tactic| walk_at "getMethod ref") => `(tactic| ((with_reducible rename At _ _ _ _ => $(Lean.mkIdent `hA):ident); refine' o_meth (K := ?K) (F := OptF _ _ _ _ _) ?W $(Lean.mkIdent `hA):ident ?hm ?ho ?h1 ?h2 ?h3 ?h4 ?_; (case W => assumption); (case ho => k_extra "m obj"); (case hm => k_extra "m mem"); (case h1 => k_is); (case h2 => k_is); (case h3 => k_is); (case h4 => decide)))
local macro_rules | `(tactic| walk_at "call builtin:isinstance") => `(tactic| ((with_reducible rename At _ _ _ _ => $(Lean.mkIdent `hA):ident); refine' o_isi (K := ?K) (F := PlnF _ _ _ _ _ _) ?W $(Lean.mkIdent `hA):ident ?hm ?ho ?e ?h1 ?h2 ?h3 ?h4 ?h5 ?h6 ?_; (case W => assumption); (case ho => k_extra "m obj"); (case hm => k_extra "m mem"); (case e => kit_is); (case h1 => k_is); (case h2 => k_is); (case h3 => k_is); (case h4 => k_is); (case h5 => k_is); (case h6 => k_is); clear $(Lean.mkIdent `hA):ident; intro $(Lean.mkIdent `s9):ident $(Lean.mkIdent `hA):ident))
local macro_rules | `(tactic| walk_at "call builtin:isinstance") => `(tactic| ((with_reducible rename At _ _ _ _ => $(Lean.mkIdent `hA):ident); refine' o_isiT (K := ?K) (F := PlnF _ _ _ _ _ _) ?W $(Lean.mkIdent `hA):ident ?hm ?ho ?hc ?e ?h1 ?h2 ?h3 ?h4 ?h5 ?h6 ?_; (case W => assumption); (case ho => k_extra "m obj"); (case hm => k_extra "m mem"); (case hc => k_extra "m mem"); (case e => kit_is); (case h1 => k_is); (case h2 => k_is); (case h3 => k_is); (case h4 => k_is); (case h5 => k_is); (case h6 => k_is); clear $(Lean.mkIdent `hA):ident; intro $(Lean.mkIdent `s9):ident $(Lean.mkIdent `hA):ident))
local macro_rules | `(tactic| walk_at "getMethod ref") => `(tactic| ((with_reducible rename At _ _ _ _ => $(Lean.mkIdent `hA):ident); refine' o_meth (K := ?K) (F := PlnF _ _ _ _ _ _) ?W $(Lean.mkIdent `hA):ident ?hm ?ho ?h1 ?h2 ?h3 ?h4 ?_; (case W => assumption); (case ho => k_extra "m obj"); (case hm => k_extra "m mem"); (case h1 => k_is); (case h2 => k_is); (case h3 => k_is); (case h4 => decide)))
local macro_rules | `(tactic| walk_at "getAttr ref") => `(tactic| ((with_reducible rename At _ _ _ _ => $(Lean.mkIdent `hA):ident); refine' r_fqn (K := ?K) ?W $(Lean.mkIdent `hA):ident ?h1 ?h2 ?h3 ?h4 ?hm ?he ?_; (case W => assumption); (case he => exact rfl); (case hm => k_extra "m mem"); (case h1 => k_is); (case h2 => k_is); (case h3 => k_is); (case h4 => k_is); clear $(Lean.mkIdent `hA):ident; intro $(Lean.mkIdent `t9):ident $(Lean.mkIdent `s9):ident $(Lean.mkIdent `hA):ident))
local macro_rules | `(tactic| walk_at "getAttr ref") => `(tactic| ((with_reducible rename At _ _ _ _ => $(Lean.mkIdent `hA):ident); refine' r_fqp (K := ?K) ?W $(Lean.mkIdent `hA):ident ?h1 ?h2 ?h3 ?h4 ?hm ?he ?_; (case W => assumption); (case he => exact rfl); (case hm => k_extra "m mem"); (case h1 => k_is); (case h2 => k_is); (case h3 => k_is); (case h4 => k_is); clear $(Lean.mkIdent `hA):ident; intro $(Lean.mkIdent `t9):ident $(Lean.mkIdent `s9):ident $(Lean.mkIdent `hA):ident))
local macro_rules | `(tactic| walk_at "getAttr ref") => `(tactic| ((with_reducible rename At _ _ _ _ => $(Lean.mkIdent `hA):ident); refine' r_op (K := ?K) ?W $(Lean.mkIdent `hA):ident ?h1 ?h2 ?h3 ?h4 ?hm ?he ?_; (case W => assumption); (case he => exact rfl); (case hm => k_extra "m mem"); (case h1 => k_is); (case h2 => k_is); (case h3 => k_is); (case h4 => k_is); clear $(Lean.mkIdent `hA):ident; intro $(Lean.mkIdent `t9):ident $(Lean.mkIdent `s9):ident $(Lean.mkIdent `hA):ident))
local macro_rules | `(tactic| walk_at "getAttr ref") => `(tactic| ((with_reducible rename At _ _ _ _ => $(Lean.mkIdent `hA):ident); refine' r_od (K := ?K) ?W $(Lean.mkIdent `hA):ident ?h1 ?h2 ?h3 ?h4 ?hm ?he ?_; (case W => assumption); (case he => exact rfl); (case hm => k_extra "m mem"); (case h1 => k_is); (case h2 => k_is); (case h3 => k_is); (case h4 => k_is); clear $(Lean.mkIdent `hA):ident; intro $(Lean.mkIdent `t9):ident $(Lean.mkIdent `s9):ident $(Lean.mkIdent `hA):ident))
local macro_rules | `(tactic| walk_at "getAttr ref") => `(tactic| ((with_reducible rename At _ _ _ _ => $(Lean.mkIdent `hA):ident); refine' r_oc (K := ?K) ?W $(Lean.mkIdent `hA):ident ?h1 ?h2 ?h3 ?h4 ?hm ?he ?_; (case W => assumption); (case he => exact rfl); (case hm => k_extra "m mem"); (case h1 => k_is); (case h2 => k_is); (case h3 => k_is); (case h4 => k_is); clear $(Lean.mkIdent `hA):ident; intro $(Lean.mkIdent `y9):ident $(Lean.mkIdent `v9):ident $(Lean.mkIdent `s9):ident $(Lean.mkIdent `hi9):ident $(Lean.mkIdent `hA):ident))
local macro_rules | `(tactic| walk_at "getAttr ref") => `(tactic| ((with_reducible rename At _ _ _ _ => $(Lean.mkIdent `hA):ident); refine' r_om (K := ?K) ?W $(Lean.mkIdent `hA):ident ?h1 ?h2 ?h3 ?h4 ?hm ?he ?_; (case W => assumption); (case he => exact rfl); (case hm => k_extra "m mem"); (case h1 => k_is); (case h2 => k_is); (case h3 => k_is); (case h4 => k_is); clear $(Lean.mkIdent `hA):ident; intro $(Lean.mkIdent `y9):ident $(Lean.mkIdent `v9):ident $(Lean.mkIdent `s9):ident $(Lean.mkIdent `hi9):ident $(Lean.mkIdent `hA):ident))
local macro_rules | `(tactic| walk_at "getAttr ref") => `(tactic| ((with_reducible rename At _ _ _ _ => $(Lean.mkIdent `hA):ident); refine' r_ot (K := ?K) ?W $(Lean.mkIdent `hA):ident ?h1 ?h2 ?h3 ?h4 ?hm ?he ?_; (case W => assumption); (case he => exact rfl); (case hm => k_extra "m mem"); (case h1 => k_is); (case h2 => k_is); (case h3 => k_is); (case h4 => k_is); clear $(Lean.mkIdent `hA):ident; intro $(Lean.mkIdent `y9):ident $(Lean.mkIdent `v9):ident $(Lean.mkIdent `s9):ident $(Lean.mkIdent `hA):ident))
local macro_rules | `(tactic| walk_at "getAttr ref") => `(tactic| ((with_reducible rename At _ _ _ _ => $(Lean.mkIdent `hA):ident); refine' r_pp (K := ?K) ?W $(Lean.mkIdent `hA):ident ?h1 ?h2 ?h3 ?h4 ?hm ?he ?_; (case W => assumption); (case he => exact rfl); (case hm => k_extra "m mem"); (case h1 => k_is); (case h2 => k_is); (case h3 => k_is); (case h4 => k_is); clear $(Lean.mkIdent `hA):ident; intro $(Lean.mkIdent `t9):ident $(Lean.mkIdent `s9):ident $(Lean.mkIdent `hA):ident))
local macro_rules | `(tactic| walk_at "getAttr ref") => `(tactic| ((with_reducible rename At _ _ _ _ => $(Lean.mkIdent `hA):ident); refine' r_pd (K := ?K) ?W $(Lean.mkIdent `hA):ident ?h1 ?h2 ?h3 ?h4 ?hm ?he ?_; (case W => assumption); (case he => exact rfl); (case hm => k_extra "m mem"); (case h1 => k_is); (case h2 => k_is); (case h3 => k_is); (case h4 => k_is); clear $(Lean.mkIdent `hA):ident; intro $(Lean.mkIdent `t9):ident $(Lean.mkIdent `s9):ident $(Lean.mkIdent `hA):ident))
local macro_rules | `(tactic| walk_at "getAttr ref") => `(tactic| ((with_reducible rename At _ _ _ _ => $(Lean.mkIdent `hA):ident); refine' r_pc (K := ?K) ?W $(Lean.mkIdent `hA):ident ?h1 ?h2 ?h3 ?h4 ?hm ?he ?_; (case W => assumption); (case he => exact rfl); (case hm => k_extra "m mem"); (case h1 => k_is); (case h2 => k_is); (case h3 => k_is); (case h4 => k_is); clear $(Lean.mkIdent `hA):ident; intro $(Lean.mkIdent `y9):ident $(Lean.mkIdent `v9):ident $(Lean.mkIdent `s9):ident $(Lean.mkIdent `hi9):ident $(Lean.mkIdent `hA):ident))
local macro_rules | `(tactic| walk_at "getAttr ref") => `(tactic| ((with_reducible rename At _ _ _ _ => $(Lean.mkIdent `hA):ident); refine' r_pm (K := ?K) ?W $(Lean.mkIdent `hA):ident ?h1 ?h2 ?h3 ?h4 ?hm ?he ?_; (case W => assumption); (case he => exact rfl); (case hm => k_extra "m mem"); (case h1 => k_is); (case h2 => k_is); (case h3 => k_is); (case h4 => k_is); clear $(Lean.mkIdent `hA):ident; intro $(Lean.mkIdent `y9):ident $(Lean.mkIdent `v9):ident $(Lean.mkIdent `s9):ident $(Lean.mkIdent `hi9):ident $(Lean.mkIdent `hA):ident))
local macro_rules | `(tactic| k_extra "m ok") => `(tactic| first | exact Ok.mono $(Lean.mkIdent `hK9):ident (by decide) | exact Ok.mono (by assumption) (by decide))
local macro_rules | `(tactic| walk_at "callWith ref") => `(tactic| ((with_reducible rename At _ _ _ _ => $(Lean.mkIdent `hA):ident); (try dsimp only); (first | refine' callWith_K (K := ?K) ?k1 ?k2 ?_ | refine' callWith_K0 (K := ?K) ?k1 ?k2 ?_); (case k1 => exact At.kin (by assumption) $(Lean.mkIdent `hA):ident); (case k2 => k_is)))
local macro_rules | `(tactic| walk_at "callWith") => `(tactic| ((with_reducible rename At _ _ _ _ => $(Lean.mkIdent `hA):ident); (try dsimp only); (with_reducible show wpAny _ _ (callWith _ (Value.ref _) _ _ _) _ _ _); (first | refine' callWith_K (K := ?K) ?k1 ?k2 ?_ | refine' callWith_K0 (K := ?K) ?k1 ?k2 ?_); (case k1 => exact At.kin (by assumption) $(Lean.mkIdent `hA):ident); (case k2 => k_is)))
local macro_rules | `(tactic| walk_at "And") => `(tactic| ((with_reducible rename At _ _ _ _ => $(Lean.mkIdent `hA):ident); (with_reducible show Frag.In _ _ ∧ _); refine ⟨At.kin (by assumption) $(Lean.mkIdent `hA):ident, ?_⟩; try dsimp only [List.nil_append, List.cons_append]))
local macro_rules | `(tactic| k_extra "m seq") => `(tactic| first | exact .inl (by k_extra "m mem") | exact .inr (by k_extra "m mem") | exact IsSeq.up (by assumption) (by k_extra "m facts"))
local macro_rules | `(tactic| k_extra "m leneq") => `(tactic| first | assumption | omega | (simp; omega))
local macro_rules | `(tactic| walk_at "call type:zip") => `(tactic| ((with_reducible rename At _ _ _ _ => $(Lean.mkIdent `hA):ident); refine' r_zip $(Lean.mkIdent `hA):ident ?h1 ?h2 ?hl ?_; (case h1 => k_extra "m mem"); (case h2 => k_extra "m mem"); (case hl => k_extra "m leneq"); clear $(Lean.mkIdent `hA):ident; intro $(Lean.mkIdent `I9):ident $(Lean.mkIdent `St9):ident $(Lean.mkIdent `N9):ident $(Lean.mkIdent `s9):ident $(Lean.mkIdent `hN9):ident $(Lean.mkIdent `hA):ident))
local macro_rules | `(tactic| walk_at "call type:enumerate") => `(tactic| ((with_reducible rename At _ _ _ _ => $(Lean.mkIdent `hA):ident); refine' r_enumS $(Lean.mkIdent `hA):ident ?h1 ?_; (case h1 => k_extra "m seq"); clear $(Lean.mkIdent `hA):ident; intro $(Lean.mkIdent `I9):ident $(Lean.mkIdent `St9):ident $(Lean.mkIdent `N9):ident $(Lean.mkIdent `s9):ident $(Lean.mkIdent `hN9):ident $(Lean.mkIdent `hA):ident))
local macro_rules | `(tactic| walk_at "pyIter ref") => `(tactic| ((with_reducible rename At _ _ _ _ => $(Lean.mkIdent `hA):ident); refine' r_iterS $(Lean.mkIdent `hA):ident ?h1 ?_; (case h1 => exact IsSeq.up (by assumption) (by k_extra "m facts")); clear $(Lean.mkIdent `hA):ident; intro $(Lean.mkIdent `I9):ident $(Lean.mkIdent `St9):ident $(Lean.mkIdent `N9):ident $(Lean.mkIdent `s9):ident $(Lean.mkIdent `hN9):ident $(Lean.mkIdent `hA):ident))
local macro_rules | `(tactic| walk_at "pyIter ref") => `(tactic| ((with_reducible rename At _ _ _ _ => $(Lean.mkIdent `hA):ident); refine' r_iterN ($(Lean.mkIdent `hN9):ident _) $(Lean.mkIdent `hA):ident ?hh ?hm ?hr ?_; (case hh => k_extra "m hh"); (case hm => k_extra "m mem"); (case hr => k_extra "m mem")))
local macro_rules | `(tactic| walk_at "call builtin:len") => `(tactic| ((with_reducible rename At _ _ _ _ => $(Lean.mkIdent `hA):ident); refine r_lenS $(Lean.mkIdent `hA):ident (IsSeq.up (by assumption) (by k_extra "m facts")) (by k_extra "m size") ?_; clear $(Lean.mkIdent `hA):ident; intro $(Lean.mkIdent `t9):ident $(Lean.mkIdent `s9):ident $(Lean.mkIdent `hA):ident))
local macro_rules | `(tactic| walk_at "call type:tuple") => `(tactic| ((with_reducible rename At _ _ _ _ => $(Lean.mkIdent `hA):ident); (first | refine r_tupS $(Lean.mkIdent `hA):ident (by k_extra "m seq") (by k_extra "m size") ?_ | refine r_tupL $(Lean.mkIdent `hA):ident (by k_extra "m pl") (by k_extra "m size") ?_); clear $(Lean.mkIdent `hA):ident; intro $(Lean.mkIdent `y9):ident $(Lean.mkIdent `s9):ident $(Lean.mkIdent `hA):ident))
local macro_rules | `(tactic| walk_at "call type:list") => `(tactic| ((with_reducible rename At _ _ _ _ => $(Lean.mkIdent `hA):ident); (first | refine r_listT $(Lean.mkIdent `hA):ident (by k_extra "m mem") (by k_extra "m size") ?_ | refine r_listL $(Lean.mkIdent `hA):ident (by k_extra "m pl") (by k_extra "m size") ?_); clear $(Lean.mkIdent `hA):ident; intro $(Lean.mkIdent `l9):ident $(Lean.mkIdent `s9):ident $(Lean.mkIdent `hA):ident))
local macro_rules | `(tactic| walk_at "eval GeneratorExp") => `(tactic| ((with_reducible refine' r_GenExp ?hco ?hc ?hcell ?h0 ?hk ?hA1 ?hs ?_); (case hco => with_unfolding_all exact rfl); (case hc => with_unfolding_all exact rfl); (case hcell => with_unfolding_all decide); (case h0 => with_unfolding_all exact rfl); (case hk => with_unfolding_all exact rfl); (case hA1 => assumption); (case hs => (intro _; with_unfolding_all exact rfl))))
local macro_rules | `(tactic| walk_at "getMethod ref") => `(tactic| ((with_reducible rename At _ _ _ _ => $(Lean.mkIdent `hA):ident); refine' r_methR (K := ?K) ?W $(Lean.mkIdent `hA):ident ?hx ?hm ?h1 ?h2 ?h3 ?hl ?_; (case W => assumption); (case hx => k_extra "m mem"); (case hm => k_extra "m mem"); (case h1 => k_is); (case h2 => k_is); (case h3 => k_is); (case hl => exact rfl)))
local macro_rules | `(tactic| k_extra "m look") => `(tactic| repeat (first | exact if_pos rfl | refine (if_neg (by decide)).trans ?_))
local macro_rules | `(tactic| k_extra "m nolook") => `(tactic| (intros; repeat (first | rfl | (refine (if_neg (by assumption)).trans ?_))))
local macro_rules | `(tactic| walk_at "assign Tuple") => `(tactic| ((with_reducible rename At _ _ _ _ => $(Lean.mkIdent `hA):ident); (first | refine' r_asg2 ?hh $(Lean.mkIdent `hA):ident ?hm ?_ | refine' r_asg3 ?hh $(Lean.mkIdent `hA):ident ?hm ?_); (case hh => k_extra "m hh"); (case hm => k_extra "m mem"); clear $(Lean.mkIdent `hA):ident; intro $(Lean.mkIdent `s9):ident $(Lean.mkIdent `hA):ident))
local macro_rules | `(tactic| k_extra "m tests") => `(tactic| first | with_reducible refine wpAny_tests_nil ?_ | with_reducible refine wpAny_tests_one ?_ | (rw [if_pos rfl]))
local macro_rules | `(tactic| k_extra "wk") => `(tactic| repeat' (first | walk1 | k_extra "m tests"))
local macro_rules | `(tactic| k_extra "m lens") => `(tactic| first | omega | (have hi9L := IntsAre.length $(Lean.mkIdent `hi9):ident; omega) | (simp only [List.length_append, List.length_cons, List.length_nil, List.length_replicate, List.length_map] <;> omega))
local macro_rules | `(tactic| walk_at "subscriptTail") => `(tactic| ((with_reducible rename At _ _ _ _ => $(Lean.mkIdent `hA):ident); (with_reducible show wpAny _ _ (subscriptTail _ _ (Value.ref _) (Value.int _ _)) _ _ _); (first | refine r_itemTQ $(Lean.mkIdent `hA):ident (by k_extra "m mem") (by k_extra "m mem") (by k_extra "m lenI") (by k_extra "m lenI") (by k_extra "m size") ?_ rfl | refine r_itemLQ $(Lean.mkIdent `hA):ident (by k_extra "m pl") (by k_extra "m mem") (by k_extra "m lenI") (by k_extra "m lenI") (by k_extra "m size") ?_ rfl); clear $(Lean.mkIdent `hA):ident; intro $(Lean.mkIdent `x9):ident $(Lean.mkIdent `hA):ident))
local macro_rules | `(tactic| walk_at "getItem ref int") => `(tactic| ((with_reducible rename At _ _ _ _ => $(Lean.mkIdent `hA):ident); (first | (refine r_giLI $(Lean.mkIdent `hA):ident (by k_extra "m pl") (by k_extra "m ints") (by k_extra "m lenI") (by k_extra "m lenI") (by k_extra "m size") ?_; intro $(Lean.mkIdent `t9):ident) | (refine r_giLQ $(Lean.mkIdent `hA):ident (by k_extra "m pl") (by k_extra "m mem") (by k_extra "m lenI") (by k_extra "m lenI") (by k_extra "m size") ?_; clear $(Lean.mkIdent `hA):ident; intro $(Lean.mkIdent `x9):ident $(Lean.mkIdent `hA):ident))))
local macro_rules | `(tactic| walk_at "binaryOp Add ref ref") => `(tactic| ((with_reducible rename At _ _ _ _ => $(Lean.mkIdent `hA):ident); refine r_addL $(Lean.mkIdent `hA):ident (by k_extra "m pl") (by k_extra "m pl") (by k_extra "m size") ?_; clear $(Lean.mkIdent `hA):ident; intro $(Lean.mkIdent `l9):ident $(Lean.mkIdent `s9):ident $(Lean.mkIdent `hA):ident))
local macro_rules | `(tactic| k_extra "m factsD") => `(tactic| first | exact subf_refl | exact subf_nil | (refine subf_cons mem_hd ?_; k_extra "m facts") | (refine subf_drop ?_; k_extra "m factsD"))
local macro_rules | `(tactic| walk_at "getMethod ref") => `(tactic| ((with_reducible show wpAny _ _ (getMethod (Value.ref _) (Str.ofString "pop") _) _ _ _); refine r_popM (by k_extra "m pl") ?_))
local macro_rules | `(tactic| walk_at "callWith builtin:list.pop") => `(tactic| ((with_reducible rename At _ _ _ _ => $(Lean.mkIdent `hA):ident); with_unfolding_all refine' r_pop $(Lean.mkIdent `hA):ident ?rp ?rb ?_; (case rp => k_extra "m rp"); (case rb => k_extra "m size"); clear $(Lean.mkIdent `hA):ident; intro $(Lean.mkIdent `s9):ident $(Lean.mkIdent `hA):ident))
local macro_rules | `(tactic| walk_at "callWith") => `(tactic| ((with_reducible rename At _ _ _ _ => $(Lean.mkIdent `hA):ident); (try dsimp only); (with_reducible show wpAny _ _ (callWith _ (Value.builtin "list.pop") _ _ _) _ _ _); with_unfolding_all refine' r_pop $(Lean.mkIdent `hA):ident ?rp ?rb ?_; (case rp => k_extra "m rp"); (case rb => k_extra "m size"); clear $(Lean.mkIdent `hA):ident; intro $(Lean.mkIdent `s9):ident $(Lean.mkIdent `hA):ident))
section

variable {prog : Program} {w : World} {A : Around} {E : Value → Shared → Prop} {D : Dat} {Fs : List Fact} {R : List Res} {s : Shared} {Q : Value → Shared → Prop}
theorem kfill_S2 : PySem.Challenge.rw_bq0014_01 = PySem.Challenge.rw_bq0014_01 ∧ hd.heap_39 = hd.heap_39 := by
  k_fill
  exact ⟨rfl, rfl⟩

set_option maxHeartbeats 4000000 in
set_option maxRecDepth 100000 in
theorem s_FQ {k p : Int} {t1 t2 : Tok} (W : Wd (hd.heap_39 w.params) D) (hk : Ok A 10) (H : At D Fs R s) (hp : p ≠ 0)
    (h : ∀ x s', At D (FQF 335 x p (k.fmod p) :: Fs) R s' → Q (.ref x) s') : codeAny (model prog w) A (.call (.ref 335) ⟨[.int k t1, .int p t2], []⟩) (Ret Q) s := by
  refine' r_new W H ?h1 ?h2 ?h3 ?_
  case h1 => k_is
  case h2 => k_is
  case h3 => k_is
  clear H
  intro x dx s H
  refine' v_call [("field_modulus", .int p t2), ("val", .int k t1), ("self", .ref x)] ?W H hk.ty ?ho ?hcd ?hb ?hl ?hm ?_ ?c1 ?c2 ?c3 ?c4
  k_extra "m enter"
  clear H
  repeat' walk1
  refine h _ _ (At.to' (At.mkFQ hA (by k_extra "m mem") (by k_extra "m rm") ⟨_, if_pos rfl⟩ ⟨_, (if_neg (by decide)).trans (if_pos rfl)⟩ (fun z h1 h2 => (if_neg h1).trans (if_neg h2))) (by k_extra "m sub") (by k_extra "m facts"))

local macro_rules | `(tactic| walk_at "call ref") => `(tactic| ((with_reducible rename At _ _ _ _ => $(Lean.mkIdent `hA):ident); refine r_use ?_; refine' s_FQ ?W ?hk $(Lean.mkIdent `hA):ident ?hp ?_; (case W => assumption); (case hk => k_extra "m ok"); (case hp => assumption); clear $(Lean.mkIdent `hA):ident; intro $(Lean.mkIdent `x9):ident $(Lean.mkIdent `s9):ident $(Lean.mkIdent `hA):ident))

set_option maxHeartbeats 4000000 in
set_option maxRecDepth 100000 in
theorem s_FQ_made {x : Addr} {k p j : Int} {t1 : Tok} (W : Wd (hd.heap_39 w.params) D) (hk : Ok A 12) (H : At D Fs R s) (hm : FQF 335 x p j ∈ Fs) (hp : p ≠ 0)
    (h : ∀ x s', At D (FQF 335 x p (k.fmod p) :: Fs) R s' → Q (.ref x) s') : codeAny (model prog w) A (.call (.ref 318) ⟨[.ref x, .int k t1], []⟩) (Ret Q) s := by
  refine' v_call [("val", .int k t1), ("self", .ref x)] ?W H hk ?ho ?hcd ?hb ?hl ?hm ?_ ?c1 ?c2 ?c3 ?c4
  k_extra "m enter"
  clear H
  repeat' walk1
  exact h _ _ (At.to' hA (by k_extra "m sub") (by k_extra "m facts"))
local macro_rules | `(tactic| walk_at "call ref") => `(tactic| ((with_reducible rename At _ _ _ _ => $(Lean.mkIdent `hA):ident); refine r_use ?_; refine' s_FQ_made ?W ?hk $(Lean.mkIdent `hA):ident ?hm ?hp ?_; (case W => assumption); (case hk => k_extra "m ok"); (case hm => k_extra "m mem"); (case hp => assumption); clear $(Lean.mkIdent `hA):ident; intro $(Lean.mkIdent `x9):ident $(Lean.mkIdent `s9):ident $(Lean.mkIdent `hA):ident))

set_option maxHeartbeats 4000000 in
set_option maxRecDepth 100000 in
theorem s_FQ_add {x y : Addr} {k p j : Int} (W : Wd (hd.heap_39 w.params) D) (hk : Ok A 14) (H : At D Fs R s) (hm : FQF 335 x p j ∈ Fs) (hm2 : FQF 335 y p k ∈ Fs) (hp : p ≠ 0) 
    (h : ∀ x s', At D (FQF 335 x p (((j + k).fmod p).fmod p) :: Fs) R s' → Q (.ref x) s') : codeAny (model prog w) A (.call (.ref 213) ⟨[.ref x, .ref y], []⟩) (Ret Q) s := by
  refine' v_call [("other", .ref y), ("self", .ref x)] ?W H hk ?ho ?hcd ?hb ?hl ?hm ?_ ?c1 ?c2 ?c3 ?c4
  k_extra "m enter"
  clear H
  repeat' walk1
  exact h _ _ (At.to' hA (by k_extra "m sub") (by k_extra "m facts"))

set_option maxHeartbeats 4000000 in
set_option maxRecDepth 100000 in
theorem s_FQ_sub {x y : Addr} {k p j : Int} (W : Wd (hd.heap_39 w.params) D) (hk : Ok A 14) (H : At D Fs R s) (hm : FQF 335 x p j ∈ Fs) (hm2 : FQF 335 y p k ∈ Fs) (hp : p ≠ 0) 
    (h : ∀ x s', At D (FQF 335 x p (((j - k).fmod p).fmod p) :: Fs) R s' → Q (.ref x) s') : codeAny (model prog w) A (.call (.ref 248) ⟨[.ref x, .ref y], []⟩) (Ret Q) s := by
  refine' v_call [("other", .ref y), ("self", .ref x)] ?W H hk ?ho ?hcd ?hb ?hl ?hm ?_ ?c1 ?c2 ?c3 ?c4
  k_extra "m enter"
  clear H
  repeat' walk1
  exact h _ _ (At.to' hA (by k_extra "m sub") (by k_extra "m facts"))

set_option maxHeartbeats 4000000 in
set_option maxRecDepth 100000 in
theorem s_FQ_mul {x y : Addr} {k p j : Int} (W : Wd (hd.heap_39 w.params) D) (hk : Ok A 14) (H : At D Fs R s) (hm : FQF 335 x p j ∈ Fs) (hm2 : FQF 335 y p k ∈ Fs) (hp : p ≠ 0) (hj : IntMulOk j k)
    (h : ∀ x s', At D (FQF 335 x p (((j * k).fmod p).fmod p) :: Fs) R s' → Q (.ref x) s') : codeAny (model prog w) A (.call (.ref 220) ⟨[.ref x, .ref y], []⟩) (Ret Q) s := by
  refine' v_call [("other", .ref y), ("self", .ref x)] ?W H hk ?ho ?hcd ?hb ?hl ?hm ?_ ?c1 ?c2 ?c3 ?c4
  k_extra "m enter"
  clear H
  repeat' walk1
  exact h _ _ (At.to' hA (by k_extra "m sub") (by k_extra "m facts"))

set_option maxHeartbeats 4000000 in
set_option maxRecDepth 100000 in
theorem s_FQ_neg {x : Addr} {p j : Int} (W : Wd (hd.heap_39 w.params) D) (hk : Ok A 14) (H : At D Fs R s) (hm : FQF 335 x p j ∈ Fs) (hp : p ≠ 0)
    (h : ∀ x s', At D (FQF 335 x p ((-j).fmod p) :: Fs) R s' → Q (.ref x) s') : codeAny (model prog w) A (.call (.ref 290) ⟨[.ref x], []⟩) (Ret Q) s := by
  refine' v_call [("self", .ref x)] ?W H hk ?ho ?hcd ?hb ?hl ?hm ?_ ?c1 ?c2 ?c3 ?c4
  k_extra "m enter"
  clear H
  repeat' walk1
  exact h _ _ (At.to' hA (by k_extra "m sub") (by k_extra "m facts"))

theorem d_FQ_add {x y : Addr} {k p j : Int} (W : Wd (hd.heap_39 w.params) D) (hk : Ok A 14) (H : At D Fs R s) (hm : FQF 335 x p j ∈ Fs) (hm2 : FQF 335 y p k ∈ Fs) (hp : p ≠ 0) 
    (h : ∀ x s', At D (FQF 335 x p (((j + k).fmod p).fmod p) :: Fs) R s' → Q (.ref x) s') : wpAny (model prog w) A (binaryOp .Add (.ref x) (.ref y)) Q E s := by
  refine' o_bin W H hm .fq ?h1 ?h2 ?h3 hm2 .fq (r_use (s_FQ_add W hk H hm hm2 hp  fun z s' H' => h z s' H'))
  all_goals k_is
local macro_rules | `(tactic| walk_at "binaryOp Add ref ref") => `(tactic| ((with_reducible rename At _ _ _ _ => $(Lean.mkIdent `hA):ident); refine' d_FQ_add ?W ?hk $(Lean.mkIdent `hA):ident ?hm ?hm2 ?hp  ?_; (case W => assumption); (case hk => k_extra "m ok"); (case hm => k_extra "m mem"); (case hm2 => k_extra "m mem"); (case hp => assumption);  clear $(Lean.mkIdent `hA):ident; intro $(Lean.mkIdent `x9):ident $(Lean.mkIdent `s9):ident $(Lean.mkIdent `hA):ident))
theorem i_FQ_add {x y : Addr} {k p j : Int} (W : Wd (hd.heap_39 w.params) D) (hk : Ok A 14) (H : At D Fs R s) (hm : FQF 335 x p j ∈ Fs) (hm2 : FQF 335 y p k ∈ Fs) (hp : p ≠ 0)
    (h : ∀ x s', At D (FQF 335 x p (((j + k).fmod p).fmod p) :: Fs) R s' → Q (.ref x) s') : wpAny (model prog w) A (inplaceOp .Add (.ref x) (.ref y)) Q E s := by
  refine' o_inpl W H hm .fq ?h1 ?h2 ?h3 hm2 .fq ?h4 ?h0 ?h5 ?h6 (r_use (s_FQ_add W hk H hm hm2 hp fun z s' H' => h z s' H'))
  case h4 => k_is
  case h0 => rfl
  all_goals k_is
local macro_rules | `(tactic| walk_at "inplaceOp Add ref ref") => `(tactic| ((with_reducible rename At _ _ _ _ => $(Lean.mkIdent `hA):ident); refine' i_FQ_add ?W ?hk $(Lean.mkIdent `hA):ident ?hm ?hm2 ?hp ?_; (case W => assumption); (case hk => k_extra "m ok"); (case hm => k_extra "m mem"); (case hm2 => k_extra "m mem"); (case hp => assumption); clear $(Lean.mkIdent `hA):ident; intro $(Lean.mkIdent `x9):ident $(Lean.mkIdent `s9):ident $(Lean.mkIdent `hA):ident))

theorem d_FQ_sub {x y : Addr} {k p j : Int} (W : Wd (hd.heap_39 w.params) D) (hk : Ok A 14) (H : At D Fs R s) (hm : FQF 335 x p j ∈ Fs) (hm2 : FQF 335 y p k ∈ Fs) (hp : p ≠ 0) 
    (h : ∀ x s', At D (FQF 335 x p (((j - k).fmod p).fmod p) :: Fs) R s' → Q (.ref x) s') : wpAny (model prog w) A (binaryOp .Sub (.ref x) (.ref y)) Q E s := by
  refine' o_bin W H hm .fq ?h1 ?h2 ?h3 hm2 .fq (r_use (s_FQ_sub W hk H hm hm2 hp  fun z s' H' => h z s' H'))
  all_goals k_is
local macro_rules | `(tactic| walk_at "binaryOp Sub ref ref") => `(tactic| ((with_reducible rename At _ _ _ _ => $(Lean.mkIdent `hA):ident); refine' d_FQ_sub ?W ?hk $(Lean.mkIdent `hA):ident ?hm ?hm2 ?hp  ?_; (case W => assumption); (case hk => k_extra "m ok"); (case hm => k_extra "m mem"); (case hm2 => k_extra "m mem"); (case hp => assumption);  clear $(Lean.mkIdent `hA):ident; intro $(Lean.mkIdent `x9):ident $(Lean.mkIdent `s9):ident $(Lean.mkIdent `hA):ident))
theorem i_FQ_sub {x y : Addr} {k p j : Int} (W : Wd (hd.heap_39 w.params) D) (hk : Ok A 14) (H : At D Fs R s) (hm : FQF 335 x p j ∈ Fs) (hm2 : FQF 335 y p k ∈ Fs) (hp : p ≠ 0)
    (h : ∀ x s', At D (FQF 335 x p (((j - k).fmod p).fmod p) :: Fs) R s' → Q (.ref x) s') : wpAny (model prog w) A (inplaceOp .Sub (.ref x) (.ref y)) Q E s := by
  refine' o_inpl W H hm .fq ?h1 ?h2 ?h3 hm2 .fq ?h4 ?h0 ?h5 ?h6 (r_use (s_FQ_sub W hk H hm hm2 hp fun z s' H' => h z s' H'))
  case h4 => k_is
  case h0 => rfl
  all_goals k_is
local macro_rules | `(tactic| walk_at "inplaceOp Sub ref ref") => `(tactic| ((with_reducible rename At _ _ _ _ => $(Lean.mkIdent `hA):ident); refine' i_FQ_sub ?W ?hk $(Lean.mkIdent `hA):ident ?hm ?hm2 ?hp ?_; (case W => assumption); (case hk => k_extra "m ok"); (case hm => k_extra "m mem"); (case hm2 => k_extra "m mem"); (case hp => assumption); clear $(Lean.mkIdent `hA):ident; intro $(Lean.mkIdent `x9):ident $(Lean.mkIdent `s9):ident $(Lean.mkIdent `hA):ident))

theorem d_FQ_mul {x y : Addr} {k p j : Int} (W : Wd (hd.heap_39 w.params) D) (hk : Ok A 14) (H : At D Fs R s) (hm : FQF 335 x p j ∈ Fs) (hm2 : FQF 335 y p k ∈ Fs) (hp : p ≠ 0) (hj : IntMulOk j k)
    (h : ∀ x s', At D (FQF 335 x p (((j * k).fmod p).fmod p) :: Fs) R s' → Q (.ref x) s') : wpAny (model prog w) A (binaryOp .Mult (.ref x) (.ref y)) Q E s := by
  refine' o_bin W H hm .fq ?h1 ?h2 ?h3 hm2 .fq (r_use (s_FQ_mul W hk H hm hm2 hp hj fun z s' H' => h z s' H'))
  all_goals k_is
local macro_rules | `(tactic| walk_at "binaryOp Mult ref ref") => `(tactic| ((with_reducible rename At _ _ _ _ => $(Lean.mkIdent `hA):ident); refine' d_FQ_mul ?W ?hk $(Lean.mkIdent `hA):ident ?hm ?hm2 ?hp ?hj ?_; (case W => assumption); (case hk => k_extra "m ok"); (case hm => k_extra "m mem"); (case hm2 => k_extra "m mem"); (case hp => assumption); (case hj => k_extra "m mulok"); clear $(Lean.mkIdent `hA):ident; intro $(Lean.mkIdent `x9):ident $(Lean.mkIdent `s9):ident $(Lean.mkIdent `hA):ident))

theorem d_FQ_neg {x : Addr} {p j : Int} (W : Wd (hd.heap_39 w.params) D) (hk : Ok A 14) (H : At D Fs R s) (hm : FQF 335 x p j ∈ Fs) (hp : p ≠ 0)
    (h : ∀ x s', At D (FQF 335 x p ((-j).fmod p) :: Fs) R s' → Q (.ref x) s') : wpAny (model prog w) A (unaryOp .USub (.ref x)) Q E s := by
  refine' o_neg W H hm .fq ?h1 ?h2 (r_use (s_FQ_neg W hk H hm hp fun z s' H' => h z s' H'))
  all_goals k_is
local macro_rules | `(tactic| walk_at "unaryOp USub ref") => `(tactic| ((with_reducible rename At _ _ _ _ => $(Lean.mkIdent `hA):ident); refine' d_FQ_neg ?W ?hk $(Lean.mkIdent `hA):ident ?hm ?hp ?_; (case W => assumption); (case hk => k_extra "m ok"); (case hm => k_extra "m mem"); (case hp => assumption); clear $(Lean.mkIdent `hA):ident; intro $(Lean.mkIdent `x9):ident $(Lean.mkIdent `s9):ident $(Lean.mkIdent `hA):ident))

end

section
local macro_rules | `(tactic| walk_at "call ref") => `(tactic| ((with_reducible rename At _ _ _ _ => $(Lean.mkIdent `hA):ident); refine r_use ?_; refine' s_FQ ?W ?hk $(Lean.mkIdent `hA):ident ?hp ?_; (case W => assumption); (case hk => k_extra "m ok"); (case hp => assumption); clear $(Lean.mkIdent `hA):ident; intro $(Lean.mkIdent `x9):ident $(Lean.mkIdent `s9):ident $(Lean.mkIdent `hA):ident))
local macro_rules | `(tactic| walk_at "call ref") => `(tactic| ((with_reducible rename At _ _ _ _ => $(Lean.mkIdent `hA):ident); refine r_use ?_; refine' s_FQ_made ?W ?hk $(Lean.mkIdent `hA):ident ?hm ?hp ?_; (case W => assumption); (case hk => k_extra "m ok"); (case hm => k_extra "m mem"); (case hp => assumption); clear $(Lean.mkIdent `hA):ident; intro $(Lean.mkIdent `x9):ident $(Lean.mkIdent `s9):ident $(Lean.mkIdent `hA):ident))
local macro_rules | `(tactic| walk_at "binaryOp Add ref ref") => `(tactic| ((with_reducible rename At _ _ _ _ => $(Lean.mkIdent `hA):ident); refine' d_FQ_add ?W ?hk $(Lean.mkIdent `hA):ident ?hm ?hm2 ?hp  ?_; (case W => assumption); (case hk => k_extra "m ok"); (case hm => k_extra "m mem"); (case hm2 => k_extra "m mem"); (case hp => assumption);  clear $(Lean.mkIdent `hA):ident; intro $(Lean.mkIdent `x9):ident $(Lean.mkIdent `s9):ident $(Lean.mkIdent `hA):ident))
local macro_rules | `(tactic| walk_at "inplaceOp Add ref ref") => `(tactic| ((with_reducible rename At _ _ _ _ => $(Lean.mkIdent `hA):ident); refine' i_FQ_add ?W ?hk $(Lean.mkIdent `hA):ident ?hm ?hm2 ?hp ?_; (case W => assumption); (case hk => k_extra "m ok"); (case hm => k_extra "m mem"); (case hm2 => k_extra "m mem"); (case hp => assumption); clear $(Lean.mkIdent `hA):ident; intro $(Lean.mkIdent `x9):ident $(Lean.mkIdent `s9):ident $(Lean.mkIdent `hA):ident))
local macro_rules | `(tactic| walk_at "binaryOp Sub ref ref") => `(tactic| ((with_reducible rename At _ _ _ _ => $(Lean.mkIdent `hA):ident); refine' d_FQ_sub ?W ?hk $(Lean.mkIdent `hA):ident ?hm ?hm2 ?hp  ?_; (case W => assumption); (case hk => k_extra "m ok"); (case hm => k_extra "m mem"); (case hm2 => k_extra "m mem"); (case hp => assumption);  clear $(Lean.mkIdent `hA):ident; intro $(Lean.mkIdent `x9):ident $(Lean.mkIdent `s9):ident $(Lean.mkIdent `hA):ident))
local macro_rules | `(tactic| walk_at "inplaceOp Sub ref ref") => `(tactic| ((with_reducible rename At _ _ _ _ => $(Lean.mkIdent `hA):ident); refine' i_FQ_sub ?W ?hk $(Lean.mkIdent `hA):ident ?hm ?hm2 ?hp ?_; (case W => assumption); (case hk => k_extra "m ok"); (case hm => k_extra "m mem"); (case hm2 => k_extra "m mem"); (case hp => assumption); clear $(Lean.mkIdent `hA):ident; intro $(Lean.mkIdent `x9):ident $(Lean.mkIdent `s9):ident $(Lean.mkIdent `hA):ident))
local macro_rules | `(tactic| walk_at "binaryOp Mult ref ref") => `(tactic| ((with_reducible rename At _ _ _ _ => $(Lean.mkIdent `hA):ident); refine' d_FQ_mul ?W ?hk $(Lean.mkIdent `hA):ident ?hm ?hm2 ?hp ?hj ?_; (case W => assumption); (case hk => k_extra "m ok"); (case hm => k_extra "m mem"); (case hm2 => k_extra "m mem"); (case hp => assumption); (case hj => k_extra "m mulok"); clear $(Lean.mkIdent `hA):ident; intro $(Lean.mkIdent `x9):ident $(Lean.mkIdent `s9):ident $(Lean.mkIdent `hA):ident))
local macro_rules | `(tactic| walk_at "unaryOp USub ref") => `(tactic| ((with_reducible rename At _ _ _ _ => $(Lean.mkIdent `hA):ident); refine' d_FQ_neg ?W ?hk $(Lean.mkIdent `hA):ident ?hm ?hp ?_; (case W => assumption); (case hk => k_extra "m ok"); (case hm => k_extra "m mem"); (case hp => assumption); clear $(Lean.mkIdent `hA):ident; intro $(Lean.mkIdent `x9):ident $(Lean.mkIdent `s9):ident $(Lean.mkIdent `hA):ident))
variable {prog : Program} {w : World} {A : Around} {E : Value → Shared → Prop} {D : Dat} {Fs : List Fact} {R : List Res} {s : Shared} {Q : Value → Shared → Prop}
def WT : List Tab := [⟨51, 49, #[]⟩, ⟨352, 348, #[]⟩]
set_option maxHeartbeats 4000000 in
set_option maxRecDepth 100000 in
theorem s_FQq {a : Addr} {k p : Int} {t2 : Tok} (W : Wd (hd.heap_39 w.params) D) (hk : Ok A 10) (H : At D Fs R s) (hm : FQF 335 a p k ∈ Fs)
    (h : ∀ x s', At D (FQF 335 x p k :: Fs) R s' → Q (.ref x) s') : codeAny (model prog w) A (.call (.ref 335) ⟨[.ref a, .int p t2], []⟩) (Ret Q) s := by
  refine' r_new W H ?h1 ?h2 ?h3 ?_
  case h1 => k_is
  case h2 => k_is
  case h3 => k_is
  clear H
  intro x dx s H
  refine' v_call [("field_modulus", .int p t2), ("val", .ref a), ("self", .ref x)] ?W H hk.ty ?ho ?hcd ?hb ?hl ?hm ?_ ?c1 ?c2 ?c3 ?c4
  k_extra "m enter"
  clear H
  repeat' walk1
  refine h _ _ (At.to' (At.mkFQ hA (by k_extra "m mem") (by k_extra "m rm") ⟨_, if_pos rfl⟩ ⟨_, (if_neg (by decide)).trans (if_pos rfl)⟩ (fun z h1 h2 => (if_neg h1).trans (if_neg h2))) (by k_extra "m sub") (by k_extra "m facts"))
theorem s_FQs {v : Value} {n p : Int} {t2 : Tok} (W : Wd (hd.heap_39 w.params) D) (hk : Ok A 10) (H : At D Fs R s) (hp : p ≠ 0) (hm : SchF 335 p v n ∈ Fs)
    (h : ∀ x s', At D (FQF 335 x p n :: Fs) R s' → Q (.ref x) s') : codeAny (model prog w) A (.call (.ref 335) ⟨[v, .int p t2], []⟩) (Ret Q) s := by
  rcases (H.facts _ hm : Sch _ _ _ _ _) with ⟨k, t, rfl, rfl⟩ | ⟨a, rfl, q⟩
  · exact s_FQ W hk H hp h
  · have H1 : At D (FQF 335 a p n :: Fs) R s := ⟨H.os, H.gens, H.tab, H.cs, H.nodup, H.res, H.base, fun F hF => by
      rcases List.mem_cons.mp hF with rfl | hF
      · exact q
      · exact H.facts F hF⟩
    exact s_FQq W hk H1 (.head _) fun x s' H' => h x s' (H'.sub (by k_extra "m facts"))
local macro_rules | `(tactic| walk_at "call ref") => `(tactic| ((with_reducible rename At _ _ _ _ => $(Lean.mkIdent `hA):ident); refine r_use ?_; refine' s_FQs ?W ?hk $(Lean.mkIdent `hA):ident ?hp ?hm ?_; (case W => assumption); (case hk => k_extra "m ok"); (case hp => assumption); (case hm => k_extra "m mem"); clear $(Lean.mkIdent `hA):ident; intro $(Lean.mkIdent `x9):ident $(Lean.mkIdent `s9):ident $(Lean.mkIdent `hA):ident))
set_option maxHeartbeats 4000000 in
set_option maxRecDepth 100000 in
theorem s_P_corr0 {x dx : Addr} {v : Value} {n p : Int} {t2 : Tok} {m : Str → Option Value} {ns : List Str} (W : Wd (hd.heap_39 w.params) D) (hk : Ok A 12) (H : At D Fs R s) (hp : p ≠ 0) (hx : Cell x (instObj 449 dx) ∈ Fs) (hd : DRes dx m ns ∈ R) (hmp : m "field_modulus" = some (.int p t2)) (hm : SchF 335 p v n ∈ Fs)
    (h : ∀ x s', At D (FQF 335 x p n :: Fs) R s' → Q (.ref x) s') : codeAny (model prog w) A (.call (.ref 367) ⟨[.ref x, v], []⟩) (Ret Q) s := by
  refine' v_call [("val", v), ("self", .ref x)] ?W H hk ?ho ?hcd ?hb ?hl ?hm ?_ ?c1 ?c2 ?c3 ?c4
  k_extra "m enter"
  clear H
  repeat' walk1
  exact h _ _ (At.to' hA (by k_extra "m sub") (by k_extra "m facts"))
local macro_rules | `(tactic| walk_at "call ref") => `(tactic| ((with_reducible rename At _ _ _ _ => $(Lean.mkIdent `hA):ident); refine r_use ?_; refine' s_P_corr0 ?W ?hk $(Lean.mkIdent `hA):ident ?hp ?hx ?hd ?hmp ?hm ?_; (case W => assumption); (case hk => k_extra "m ok"); (case hp => assumption); (case hx => k_extra "m mem"); (case hd => k_extra "m mem"); (case hmp => exact rfl); (case hm => k_extra "m mem"); clear $(Lean.mkIdent `hA):ident; intro $(Lean.mkIdent `x9):ident $(Lean.mkIdent `s9):ident $(Lean.mkIdent `hA):ident))
set_option maxHeartbeats 4000000 in
set_option maxRecDepth 100000 in
theorem s_P {lc lm : Addr} {vs us : List Value} {ns ms : List Int} {p : Int} {t2 : Tok} (W : Wd (hd.heap_39 w.params) D) (T : ∀ t ∈ WT, t ∈ D.tabs) (hk : Ok A 20) (H : At D Fs R s) (hp : p ≠ 0) (h1 : IsSeq Fs lc vs) (h2 : ScsF 335 p vs ns ∈ Fs) (h3 : IsSeq Fs lm us) (h4 : IntsAre us ms) (h5 : vs.length = us.length) (h6 : us.length < 1000)
    (h : ∀ x s', At D (PlnF 335 449 x p ns ms :: Fs) R s' → Q (.ref x) s') : codeAny (model prog w) A (.call (.ref 449) ⟨[.ref lc, .ref lm, .int p t2], []⟩) (Ret Q) s := by
  refine' r_new W H ?h1 ?h2 ?h3 ?_
  case h1 => k_is
  case h2 => k_is
  case h3 => k_is
  have H0 := H
  clear H
  intro x dx s H
  clear H0
  refine' v_callc [("coeffs", .ref lc), ("modulus_coeffs", .ref lm), ("field_modulus", .int p t2)] (fun L => [(L + 1, .ref x)]) (fun L => []) ?W H hk.ty ?ho ?hcd ?hb ?hl ?hm ?hcm ?hum ?hnd ?hud ?_ ?c2 ?c3 ?c4
  k_extra "m enterc"
  clear H
  repeat' walk1
  · exact absurd h5 (by omega)
  have W2 : ∀ m, Wd (hd.heap_39 w.params) (D.withNg m) := fun m => W.ng
  refine' r_GenK (t := ⟨352, 348, #[]⟩) W hA (T _ (by simp [WT])) rfl rfl ?_
  have hNN := hN9 false
  clear hA hN9
  intro a g C code s hge hA hgen
  repeat' walk1
  have W3 := W2 (g + 1)
  replace hA := hA.to (.cons (.vars .nil) .head (Sub.refl _))
  refine' r_tupgen (k := 13) (G := fun i acc Gs => acc.length = i ∧ i ≤ vs.length ∧ Gs = (if i = 0 then [] else [FQsF 335 p acc (ns.take i)])) W3 hK9 ?g1 (Nat.le_refl _) (hNN _) ?g2 rfl ?g3 hA ⟨rfl, Nat.zero_le _, rfl⟩ hgen ?g4 ?_
  case g1 => k_extra "m mem"
  case g2 => k_extra "m mem"
  case g3 => (rintro i ys Gs ⟨e, e2, _⟩; omega)
  case g4 =>
    clear hA hgen
    intro S A' i acc Gs v F s hA' hi hG hV H
    obtain ⟨hl, hle, rfl⟩ := hG
    obtain ⟨hv, rfl⟩ := hV
    obtain ⟨n, hn, hA⟩ := (H.fqStart hl).pick (by k_extra "m mem") hv
    clear H
    repeat' walk1
    exact ⟨_, _, ⟨by simp [hl], hi, rfl⟩, hA.fqNext (by k_extra "m mem") (by k_extra "m mem") hn (by k_extra "m sub") (by k_extra "m facts")⟩
  clear hA hgen
  rintro tC acc Gs s ⟨hl, _, rfl⟩ H
  have hA := H.fqEnd hl (H.len2 (vs := vs) (p := p) (C := 335) (.tail _ (List.mem_append_right _ (by k_extra "m mem")))) (Nat.le_succ_of_le hge)
  clear H
  repeat' walk1
  refine h _ _ (At.to' (At.mkPln hA (by k_extra "m mem") (by k_extra "m rm") (tC := tC) (vs := acc) (tM := y9) (us := us) (by k_extra "m mem") (by k_extra "m mem") (by k_extra "m mem") h4 ⟨_, by k_extra "m look"⟩ (by k_extra "m look") (by k_extra "m look") ⟨_, by rw [← h4.length]; k_extra "m look"⟩ (by k_extra "m nolook")) (by k_extra "m sub") (by k_extra "m facts"))
local macro_rules | `(tactic| walk_at "call ref") => `(tactic| ((with_reducible rename At _ _ _ _ => $(Lean.mkIdent `hA):ident); refine r_use ?_; refine' s_P ?W ?T ?hk $(Lean.mkIdent `hA):ident ?hp ?h1 ?h2 ?h3 ?h4 ?h5 ?h6 ?_; (case W => assumption); (case T => assumption); (case hk => k_extra "m ok"); (case hp => assumption); (case h2 => k_extra "m mem"); (case h1 => k_extra "m seq"); (case h4 => assumption); (case h3 => k_extra "m seq"); (case h5 => k_extra "m lens"); (case h6 => k_extra "m lens"); clear $(Lean.mkIdent `hA):ident; intro $(Lean.mkIdent `x9):ident $(Lean.mkIdent `s9):ident $(Lean.mkIdent `hA):ident))

end

section
local macro_rules | `(tactic| walk_at "call ref") => `(tactic| ((with_reducible rename At _ _ _ _ => $(Lean.mkIdent `hA):ident); refine r_use ?_; refine' s_FQ ?W ?hk $(Lean.mkIdent `hA):ident ?hp ?_; (case W => assumption); (case hk => k_extra "m ok"); (case hp => assumption); clear $(Lean.mkIdent `hA):ident; intro $(Lean.mkIdent `x9):ident $(Lean.mkIdent `s9):ident $(Lean.mkIdent `hA):ident))
local macro_rules | `(tactic| walk_at "call ref") => `(tactic| ((with_reducible rename At _ _ _ _ => $(Lean.mkIdent `hA):ident); refine r_use ?_; refine' s_FQ_made ?W ?hk $(Lean.mkIdent `hA):ident ?hm ?hp ?_; (case W => assumption); (case hk => k_extra "m ok"); (case hm => k_extra "m mem"); (case hp => assumption); clear $(Lean.mkIdent `hA):ident; intro $(Lean.mkIdent `x9):ident $(Lean.mkIdent `s9):ident $(Lean.mkIdent `hA):ident))
local macro_rules | `(tactic| walk_at "binaryOp Add ref ref") => `(tactic| ((with_reducible rename At _ _ _ _ => $(Lean.mkIdent `hA):ident); refine' d_FQ_add ?W ?hk $(Lean.mkIdent `hA):ident ?hm ?hm2 ?hp  ?_; (case W => assumption); (case hk => k_extra "m ok"); (case hm => k_extra "m mem"); (case hm2 => k_extra "m mem"); (case hp => assumption);  clear $(Lean.mkIdent `hA):ident; intro $(Lean.mkIdent `x9):ident $(Lean.mkIdent `s9):ident $(Lean.mkIdent `hA):ident))
local macro_rules | `(tactic| walk_at "inplaceOp Add ref ref") => `(tactic| ((with_reducible rename At _ _ _ _ => $(Lean.mkIdent `hA):ident); refine' i_FQ_add ?W ?hk $(Lean.mkIdent `hA):ident ?hm ?hm2 ?hp ?_; (case W => assumption); (case hk => k_extra "m ok"); (case hm => k_extra "m mem"); (case hm2 => k_extra "m mem"); (case hp => assumption); clear $(Lean.mkIdent `hA):ident; intro $(Lean.mkIdent `x9):ident $(Lean.mkIdent `s9):ident $(Lean.mkIdent `hA):ident))
local macro_rules | `(tactic| walk_at "binaryOp Sub ref ref") => `(tactic| ((with_reducible rename At _ _ _ _ => $(Lean.mkIdent `hA):ident); refine' d_FQ_sub ?W ?hk $(Lean.mkIdent `hA):ident ?hm ?hm2 ?hp  ?_; (case W => assumption); (case hk => k_extra "m ok"); (case hm => k_extra "m mem"); (case hm2 => k_extra "m mem"); (case hp => assumption);  clear $(Lean.mkIdent `hA):ident; intro $(Lean.mkIdent `x9):ident $(Lean.mkIdent `s9):ident $(Lean.mkIdent `hA):ident))
local macro_rules | `(tactic| walk_at "inplaceOp Sub ref ref") => `(tactic| ((with_reducible rename At _ _ _ _ => $(Lean.mkIdent `hA):ident); refine' i_FQ_sub ?W ?hk $(Lean.mkIdent `hA):ident ?hm ?hm2 ?hp ?_; (case W => assumption); (case hk => k_extra "m ok"); (case hm => k_extra "m mem"); (case hm2 => k_extra "m mem"); (case hp => assumption); clear $(Lean.mkIdent `hA):ident; intro $(Lean.mkIdent `x9):ident $(Lean.mkIdent `s9):ident $(Lean.mkIdent `hA):ident))
local macro_rules | `(tactic| walk_at "binaryOp Mult ref ref") => `(tactic| ((with_reducible rename At _ _ _ _ => $(Lean.mkIdent `hA):ident); refine' d_FQ_mul ?W ?hk $(Lean.mkIdent `hA):ident ?hm ?hm2 ?hp ?hj ?_; (case W => assumption); (case hk => k_extra "m ok"); (case hm => k_extra "m mem"); (case hm2 => k_extra "m mem"); (case hp => assumption); (case hj => k_extra "m mulok"); clear $(Lean.mkIdent `hA):ident; intro $(Lean.mkIdent `x9):ident $(Lean.mkIdent `s9):ident $(Lean.mkIdent `hA):ident))
local macro_rules | `(tactic| walk_at "unaryOp USub ref") => `(tactic| ((with_reducible rename At _ _ _ _ => $(Lean.mkIdent `hA):ident); refine' d_FQ_neg ?W ?hk $(Lean.mkIdent `hA):ident ?hm ?hp ?_; (case W => assumption); (case hk => k_extra "m ok"); (case hm => k_extra "m mem"); (case hp => assumption); clear $(Lean.mkIdent `hA):ident; intro $(Lean.mkIdent `x9):ident $(Lean.mkIdent `s9):ident $(Lean.mkIdent `hA):ident))
local macro_rules | `(tactic| walk_at "call ref") => `(tactic| ((with_reducible rename At _ _ _ _ => $(Lean.mkIdent `hA):ident); refine r_use ?_; refine' s_FQs ?W ?hk $(Lean.mkIdent `hA):ident ?hp ?hm ?_; (case W => assumption); (case hk => k_extra "m ok"); (case hp => assumption); (case hm => k_extra "m mem"); clear $(Lean.mkIdent `hA):ident; intro $(Lean.mkIdent `x9):ident $(Lean.mkIdent `s9):ident $(Lean.mkIdent `hA):ident))
local macro_rules | `(tactic| walk_at "call ref") => `(tactic| ((with_reducible rename At _ _ _ _ => $(Lean.mkIdent `hA):ident); refine r_use ?_; refine' s_P_corr0 ?W ?hk $(Lean.mkIdent `hA):ident ?hp ?hx ?hd ?hmp ?hm ?_; (case W => assumption); (case hk => k_extra "m ok"); (case hp => assumption); (case hx => k_extra "m mem"); (case hd => k_extra "m mem"); (case hmp => exact rfl); (case hm => k_extra "m mem"); clear $(Lean.mkIdent `hA):ident; intro $(Lean.mkIdent `x9):ident $(Lean.mkIdent `s9):ident $(Lean.mkIdent `hA):ident))
local macro_rules | `(tactic| walk_at "call ref") => `(tactic| ((with_reducible rename At _ _ _ _ => $(Lean.mkIdent `hA):ident); refine r_use ?_; refine' s_P ?W ?T ?hk $(Lean.mkIdent `hA):ident ?hp ?h1 ?h2 ?h3 ?h4 ?h5 ?h6 ?_; (case W => assumption); (case T => assumption); (case hk => k_extra "m ok"); (case hp => assumption); (case h2 => k_extra "m mem"); (case h1 => k_extra "m seq"); (case h4 => assumption); (case h3 => k_extra "m seq"); (case h5 => k_extra "m lens"); (case h6 => k_extra "m lens"); clear $(Lean.mkIdent `hA):ident; intro $(Lean.mkIdent `x9):ident $(Lean.mkIdent `s9):ident $(Lean.mkIdent `hA):ident))
variable {prog : Program} {w : World} {A : Around} {E : Value → Shared → Prop} {D : Dat} {Fs : List Fact} {R : List Res} {s : Shared} {Q : Value → Shared → Prop}

set_option maxHeartbeats 4000000 in
set_option maxRecDepth 100000 in
theorem s_P_made {x lc : Addr} {vs : List Value} {ns ns0 ms : List Int} {p : Int} (W : Wd (hd.heap_39 w.params) D) (T : ∀ t ∈ WT, t ∈ D.tabs) (hk : Ok A 22) (H : At D Fs R s) (hp : p ≠ 0) (hm : PlnF 335 449 x p ns0 ms ∈ Fs) (h1 : IsSeq Fs lc vs) (h2 : ScsF 335 p vs ns ∈ Fs) (h5 : vs.length = ms.length) (h6 : ms.length < 1000)
    (h : ∀ x s', At D (PlnF 335 449 x p ns ms :: Fs) R s' → Q (.ref x) s') : codeAny (model prog w) A (.call (.ref 360) ⟨[.ref x, .ref lc], []⟩) (Ret Q) s := by
  refine' v_call [("coeffs", .ref lc), ("self", .ref x)] ?W H hk ?ho ?hcd ?hb ?hl ?hm ?_ ?c1 ?c2 ?c3 ?c4
  k_extra "m enter"
  clear H
  repeat' walk1
  exact h _ _ (At.to' hA (by k_extra "m sub") (by k_extra "m facts"))
local macro_rules | `(tactic| walk_at "call ref") => `(tactic| ((with_reducible rename At _ _ _ _ => $(Lean.mkIdent `hA):ident); refine r_use ?_; refine' s_P_made ?W ?T ?hk $(Lean.mkIdent `hA):ident ?hp ?hm ?h1 ?h2 ?h5 ?h6 ?_; (case W => assumption); (case T => assumption); (case hk => k_extra "m ok"); (case hp => assumption); (case hm => k_extra "m mem"); (case h2 => k_extra "m mem"); (case h1 => k_extra "m seq"); (case h5 => k_extra "m lens"); (case h6 => k_extra "m lens"); clear $(Lean.mkIdent `hA):ident; intro $(Lean.mkIdent `x9):ident $(Lean.mkIdent `s9):ident $(Lean.mkIdent `hA):ident))
def plnZip (f : Int → Int → Int) (p : Int) (xs ys : List Int) : List Int := List.zipWith (fun a b => ((f a b).fmod p).fmod p) xs ys
theorem plnZip_length (f : Int → Int → Int) (p : Int) (xs ys : List Int) : (plnZip f p xs ys).length = min xs.length ys.length := by simp [plnZip]

set_option maxHeartbeats 4000000 in
set_option maxRecDepth 100000 in
theorem s_P_add {x y : Addr} {ns ks ms : List Int} {p : Int} (W : Wd (hd.heap_39 w.params) D) (T : ∀ t ∈ WT, t ∈ D.tabs) (hk : Ok A 24) (H : At D Fs R s) (hp : p ≠ 0) (hm : PlnF 335 449 x p ns ms ∈ Fs) (hm2 : PlnF 335 449 y p ks ms ∈ Fs) (h5 : ns.length = ms.length) (h7 : ks.length = ms.length) (h6 : ms.length < 1000)
    (h : ∀ x s', At D (PlnF 335 449 x p (plnZip (· + ·) p ns ks) ms :: Fs) R s' → Q (.ref x) s') : codeAny (model prog w) A (.call (.ref 372) ⟨[.ref x, .ref y], []⟩) (Ret Q) s := by
  refine' v_call [("other", .ref y), ("self", .ref x)] ?W H hk ?ho ?hcd ?hb ?hl ?hm ?_ ?c1 ?c2 ?c3 ?c4
  k_extra "m enter"
  clear H
  k_extra "wk"
  rename_i _ y1 v1 _ e1 _
  have hlen := plnZip_length (· + ·) p ns ks
  refine' r_mapK (fqG 335 p (plnZip (· + ·) p ns ks)) (hN9 _) ⟨_, _, _, rfl⟩ hK9.handled hA ?g1 (by decide) rfl fqG.zero (fun _ _ _ q => q.len (by omega)) ?step ?done
  case g1 => k_extra "m mem"
  case step =>
    intro C acc i ys Gs v F s hi hG hV H
    obtain ⟨T, a, b, rfl, ha, hb, rfl⟩ := hV
    obtain ⟨a', na, rfl, hna, H2⟩ := (hG.start H).pickQ (vs := v1) (by k_extra "m mem") ha
    obtain ⟨b', nb, rfl, hnb, hA⟩ := H2.pickQ (vs := v9) (by k_extra "m mem") hb
    clear H H2
    k_extra "wk"
    exact ⟨(hG.next hA (by k_extra "m mem") (by k_extra "m mem") (zipWith_get hna hnb) (by k_extra "m sub") (by k_extra "m facts")).elim fun F' q => ⟨F', _, q.1, q.2⟩⟩
  case done =>
    clear hA
    intro C acc ys Gs s hG _ s H
    have H1 := hG.done H (by omega)
    have hA := At.scs (At.fzL H1 .head) (by k_extra "m mem")
    have hle := hA.len2 (vs := ys) (by k_extra "m mem")
    clear H H1
    k_extra "wk"
    exact h _ _ (At.to' hA (by k_extra "m sub") (by k_extra "m facts"))

set_option maxHeartbeats 4000000 in
set_option maxRecDepth 100000 in
theorem s_P_sub {x y : Addr} {ns ks ms : List Int} {p : Int} (W : Wd (hd.heap_39 w.params) D) (T : ∀ t ∈ WT, t ∈ D.tabs) (hk : Ok A 24) (H : At D Fs R s) (hp : p ≠ 0) (hm : PlnF 335 449 x p ns ms ∈ Fs) (hm2 : PlnF 335 449 y p ks ms ∈ Fs) (h5 : ns.length = ms.length) (h7 : ks.length = ms.length) (h6 : ms.length < 1000)
    (h : ∀ x s', At D (PlnF 335 449 x p (plnZip (· - ·) p ns ks) ms :: Fs) R s' → Q (.ref x) s') : codeAny (model prog w) A (.call (.ref 377) ⟨[.ref x, .ref y], []⟩) (Ret Q) s := by
  refine' v_call [("other", .ref y), ("self", .ref x)] ?W H hk ?ho ?hcd ?hb ?hl ?hm ?_ ?c1 ?c2 ?c3 ?c4
  k_extra "m enter"
  clear H
  k_extra "wk"
  rename_i _ y1 v1 _ e1 _
  have hlen := plnZip_length (· - ·) p ns ks
  refine' r_mapK (fqG 335 p (plnZip (· - ·) p ns ks)) (hN9 _) ⟨_, _, _, rfl⟩ hK9.handled hA ?g1 (by decide) rfl fqG.zero (fun _ _ _ q => q.len (by omega)) ?step ?done
  case g1 => k_extra "m mem"
  case step =>
    intro C acc i ys Gs v F s hi hG hV H
    obtain ⟨T, a, b, rfl, ha, hb, rfl⟩ := hV
    obtain ⟨a', na, rfl, hna, H2⟩ := (hG.start H).pickQ (vs := v1) (by k_extra "m mem") ha
    obtain ⟨b', nb, rfl, hnb, hA⟩ := H2.pickQ (vs := v9) (by k_extra "m mem") hb
    clear H H2
    k_extra "wk"
    exact ⟨(hG.next hA (by k_extra "m mem") (by k_extra "m mem") (zipWith_get hna hnb) (by k_extra "m sub") (by k_extra "m facts")).elim fun F' q => ⟨F', _, q.1, q.2⟩⟩
  case done =>
    clear hA
    intro C acc ys Gs s hG _ s H
    have H1 := hG.done H (by omega)
    have hA := At.scs (At.fzL H1 .head) (by k_extra "m mem")
    have hle := hA.len2 (vs := ys) (by k_extra "m mem")
    clear H H1
    k_extra "wk"
    exact h _ _ (At.to' hA (by k_extra "m sub") (by k_extra "m facts"))

end

section
local macro_rules | `(tactic| walk_at "call ref") => `(tactic| ((with_reducible rename At _ _ _ _ => $(Lean.mkIdent `hA):ident); refine r_use ?_; refine' s_FQ ?W ?hk $(Lean.mkIdent `hA):ident ?hp ?_; (case W => assumption); (case hk => k_extra "m ok"); (case hp => assumption); clear $(Lean.mkIdent `hA):ident; intro $(Lean.mkIdent `x9):ident $(Lean.mkIdent `s9):ident $(Lean.mkIdent `hA):ident))
local macro_rules | `(tactic| walk_at "call ref") => `(tactic| ((with_reducible rename At _ _ _ _ => $(Lean.mkIdent `hA):ident); refine r_use ?_; refine' s_FQ_made ?W ?hk $(Lean.mkIdent `hA):ident ?hm ?hp ?_; (case W => assumption); (case hk => k_extra "m ok"); (case hm => k_extra "m mem"); (case hp => assumption); clear $(Lean.mkIdent `hA):ident; intro $(Lean.mkIdent `x9):ident $(Lean.mkIdent `s9):ident $(Lean.mkIdent `hA):ident))
local macro_rules | `(tactic| walk_at "binaryOp Add ref ref") => `(tactic| ((with_reducible rename At _ _ _ _ => $(Lean.mkIdent `hA):ident); refine' d_FQ_add ?W ?hk $(Lean.mkIdent `hA):ident ?hm ?hm2 ?hp  ?_; (case W => assumption); (case hk => k_extra "m ok"); (case hm => k_extra "m mem"); (case hm2 => k_extra "m mem"); (case hp => assumption);  clear $(Lean.mkIdent `hA):ident; intro $(Lean.mkIdent `x9):ident $(Lean.mkIdent `s9):ident $(Lean.mkIdent `hA):ident))
local macro_rules | `(tactic| walk_at "inplaceOp Add ref ref") => `(tactic| ((with_reducible rename At _ _ _ _ => $(Lean.mkIdent `hA):ident); refine' i_FQ_add ?W ?hk $(Lean.mkIdent `hA):ident ?hm ?hm2 ?hp ?_; (case W => assumption); (case hk => k_extra "m ok"); (case hm => k_extra "m mem"); (case hm2 => k_extra "m mem"); (case hp => assumption); clear $(Lean.mkIdent `hA):ident; intro $(Lean.mkIdent `x9):ident $(Lean.mkIdent `s9):ident $(Lean.mkIdent `hA):ident))
local macro_rules | `(tactic| walk_at "binaryOp Sub ref ref") => `(tactic| ((with_reducible rename At _ _ _ _ => $(Lean.mkIdent `hA):ident); refine' d_FQ_sub ?W ?hk $(Lean.mkIdent `hA):ident ?hm ?hm2 ?hp  ?_; (case W => assumption); (case hk => k_extra "m ok"); (case hm => k_extra "m mem"); (case hm2 => k_extra "m mem"); (case hp => assumption);  clear $(Lean.mkIdent `hA):ident; intro $(Lean.mkIdent `x9):ident $(Lean.mkIdent `s9):ident $(Lean.mkIdent `hA):ident))
local macro_rules | `(tactic| walk_at "inplaceOp Sub ref ref") => `(tactic| ((with_reducible rename At _ _ _ _ => $(Lean.mkIdent `hA):ident); refine' i_FQ_sub ?W ?hk $(Lean.mkIdent `hA):ident ?hm ?hm2 ?hp ?_; (case W => assumption); (case hk => k_extra "m ok"); (case hm => k_extra "m mem"); (case hm2 => k_extra "m mem"); (case hp => assumption); clear $(Lean.mkIdent `hA):ident; intro $(Lean.mkIdent `x9):ident $(Lean.mkIdent `s9):ident $(Lean.mkIdent `hA):ident))
local macro_rules | `(tactic| walk_at "binaryOp Mult ref ref") => `(tactic| ((with_reducible rename At _ _ _ _ => $(Lean.mkIdent `hA):ident); refine' d_FQ_mul ?W ?hk $(Lean.mkIdent `hA):ident ?hm ?hm2 ?hp ?hj ?_; (case W => assumption); (case hk => k_extra "m ok"); (case hm => k_extra "m mem"); (case hm2 => k_extra "m mem"); (case hp => assumption); (case hj => k_extra "m mulok"); clear $(Lean.mkIdent `hA):ident; intro $(Lean.mkIdent `x9):ident $(Lean.mkIdent `s9):ident $(Lean.mkIdent `hA):ident))
local macro_rules | `(tactic| walk_at "unaryOp USub ref") => `(tactic| ((with_reducible rename At _ _ _ _ => $(Lean.mkIdent `hA):ident); refine' d_FQ_neg ?W ?hk $(Lean.mkIdent `hA):ident ?hm ?hp ?_; (case W => assumption); (case hk => k_extra "m ok"); (case hm => k_extra "m mem"); (case hp => assumption); clear $(Lean.mkIdent `hA):ident; intro $(Lean.mkIdent `x9):ident $(Lean.mkIdent `s9):ident $(Lean.mkIdent `hA):ident))
local macro_rules | `(tactic| walk_at "call ref") => `(tactic| ((with_reducible rename At _ _ _ _ => $(Lean.mkIdent `hA):ident); refine r_use ?_; refine' s_FQs ?W ?hk $(Lean.mkIdent `hA):ident ?hp ?hm ?_; (case W => assumption); (case hk => k_extra "m ok"); (case hp => assumption); (case hm => k_extra "m mem"); clear $(Lean.mkIdent `hA):ident; intro $(Lean.mkIdent `x9):ident $(Lean.mkIdent `s9):ident $(Lean.mkIdent `hA):ident))
local macro_rules | `(tactic| walk_at "call ref") => `(tactic| ((with_reducible rename At _ _ _ _ => $(Lean.mkIdent `hA):ident); refine r_use ?_; refine' s_P_corr0 ?W ?hk $(Lean.mkIdent `hA):ident ?hp ?hx ?hd ?hmp ?hm ?_; (case W => assumption); (case hk => k_extra "m ok"); (case hp => assumption); (case hx => k_extra "m mem"); (case hd => k_extra "m mem"); (case hmp => exact rfl); (case hm => k_extra "m mem"); clear $(Lean.mkIdent `hA):ident; intro $(Lean.mkIdent `x9):ident $(Lean.mkIdent `s9):ident $(Lean.mkIdent `hA):ident))
local macro_rules | `(tactic| walk_at "call ref") => `(tactic| ((with_reducible rename At _ _ _ _ => $(Lean.mkIdent `hA):ident); refine r_use ?_; refine' s_P ?W ?T ?hk $(Lean.mkIdent `hA):ident ?hp ?h1 ?h2 ?h3 ?h4 ?h5 ?h6 ?_; (case W => assumption); (case T => assumption); (case hk => k_extra "m ok"); (case hp => assumption); (case h2 => k_extra "m mem"); (case h1 => k_extra "m seq"); (case h4 => assumption); (case h3 => k_extra "m seq"); (case h5 => k_extra "m lens"); (case h6 => k_extra "m lens"); clear $(Lean.mkIdent `hA):ident; intro $(Lean.mkIdent `x9):ident $(Lean.mkIdent `s9):ident $(Lean.mkIdent `hA):ident))
local macro_rules | `(tactic| walk_at "call ref") => `(tactic| ((with_reducible rename At _ _ _ _ => $(Lean.mkIdent `hA):ident); refine r_use ?_; refine' s_P_made ?W ?T ?hk $(Lean.mkIdent `hA):ident ?hp ?hm ?h1 ?h2 ?h5 ?h6 ?_; (case W => assumption); (case T => assumption); (case hk => k_extra "m ok"); (case hp => assumption); (case hm => k_extra "m mem"); (case h2 => k_extra "m mem"); (case h1 => k_extra "m seq"); (case h5 => k_extra "m lens"); (case h6 => k_extra "m lens"); clear $(Lean.mkIdent `hA):ident; intro $(Lean.mkIdent `x9):ident $(Lean.mkIdent `s9):ident $(Lean.mkIdent `hA):ident))
variable {prog : Program} {w : World} {A : Around} {E : Value → Shared → Prop} {D : Dat} {Fs : List Fact} {R : List Res} {s : Shared} {Q : Value → Shared → Prop}

set_option maxHeartbeats 4000000 in
set_option maxRecDepth 100000 in
theorem s_P_corr {x : Addr} {k p : Int} {t1 : Tok} {ns ms : List Int} (W : Wd (hd.heap_39 w.params) D) (hk : Ok A 12) (H : At D Fs R s) (hp : p ≠ 0) (hm : PlnF 335 449 x p ns ms ∈ Fs)
    (h : ∀ x s', At D (FQF 335 x p (k.fmod p) :: Fs) R s' → Q (.ref x) s') : codeAny (model prog w) A (.call (.ref 367) ⟨[.ref x, .int k t1], []⟩) (Ret Q) s := by
  refine' v_call [("val", .int k t1), ("self", .ref x)] ?W H hk ?ho ?hcd ?hb ?hl ?hm ?_ ?c1 ?c2 ?c3 ?c4
  k_extra "m enter"
  clear H
  repeat' walk1
  exact h _ _ (At.to' hA (by k_extra "m sub") (by k_extra "m facts"))
local macro_rules | `(tactic| walk_at "call ref") => `(tactic| ((with_reducible rename At _ _ _ _ => $(Lean.mkIdent `hA):ident); refine r_use ?_; refine' s_P_corr ?W ?hk $(Lean.mkIdent `hA):ident ?hp ?hm ?_; (case W => assumption); (case hk => k_extra "m ok"); (case hp => assumption); (case hm => k_extra "m mem"); clear $(Lean.mkIdent `hA):ident; intro $(Lean.mkIdent `x9):ident $(Lean.mkIdent `s9):ident $(Lean.mkIdent `hA):ident))
def plnNeg (p : Int) (xs : List Int) : List Int := xs.map fun a => (-a).fmod p
set_option maxHeartbeats 4000000 in
set_option maxRecDepth 100000 in
theorem s_P_neg {x : Addr} {ns ms : List Int} {p : Int} (W : Wd (hd.heap_39 w.params) D) (T : ∀ t ∈ WT, t ∈ D.tabs) (hk : Ok A 24) (H : At D Fs R s) (hp : p ≠ 0) (hm : PlnF 335 449 x p ns ms ∈ Fs) (h5 : ns.length = ms.length) (h6 : ms.length < 1000)
    (h : ∀ x s', At D (PlnF 335 449 x p (plnNeg p ns) ms :: Fs) R s' → Q (.ref x) s') : codeAny (model prog w) A (.call (.ref 432) ⟨[.ref x], []⟩) (Ret Q) s := by
  refine' v_call [("self", .ref x)] ?W H hk ?ho ?hcd ?hb ?hl ?hm ?_ ?c1 ?c2 ?c3 ?c4
  k_extra "m enter"
  clear H
  k_extra "wk"
  have hlen : (plnNeg p ns).length = ns.length := by simp [plnNeg]
  refine' r_mapK (fqG 335 p (plnNeg p ns)) (hN9 false _) ⟨_, _, rfl⟩ hK9.handled hA ?g1 ?g0 ?g2 fqG.zero (fun _ _ _ q => q.len (by omega)) ?step ?done
  case g0 => decide
  case g2 => rfl
  case g1 => k_extra "m mem"
  case step =>
    intro C acc i ys Gs v F s hi hG hV H
    obtain ⟨hv, rfl⟩ := hV
    obtain ⟨a', na, rfl, hna, hA⟩ := (hG.start H).pickQ (vs := v9) (by k_extra "m mem") hv
    clear H
    k_extra "wk"
    exact ⟨(hG.next hA (by k_extra "m mem") (by k_extra "m mem") (by simp [plnNeg, hna]) (by k_extra "m sub") (by k_extra "m facts")).elim fun F' q => ⟨F', _, q.1, q.2⟩⟩
  case done =>
    clear hA
    intro C acc ys Gs s hG _ s H
    have H1 := hG.done H (by omega)
    have hA := At.scs (At.fzL H1 .head) (by k_extra "m mem")
    have hle := hA.len2 (vs := ys) (by k_extra "m mem")
    clear H H1
    k_extra "wk"
    exact h _ _ (At.to' hA (by k_extra "m sub") (by k_extra "m facts"))
abbrev plnOne (p : Int) (d : Nat) : List Int := ([1] ++ List.replicate (d - 1) (0 : Int)).map fun (k : Int) => k.fmod p
set_option maxHeartbeats 4000000 in
set_option maxRecDepth 100000 in
theorem s_P_one {x : Addr} {ns ms : List Int} {p : Int} (W : Wd (hd.heap_39 w.params) D) (T : ∀ t ∈ WT, t ∈ D.tabs) (hk : Ok A 24) (H : At D Fs R s) (hp : p ≠ 0) (hm : PlnF 335 449 x p ns ms ∈ Fs) (h5 : 0 < ms.length) (h6 : ms.length < 1000)
    (h : ∀ x s', At D (PlnF 335 449 x p (plnOne p ms.length) ms :: Fs) R s' → Q (.ref x) s') : codeAny (model prog w) A (.call (.ref 439) ⟨[.ref x], []⟩) (Ret Q) s := by
  refine' v_call [("self", .ref x)] ?W H hk ?ho ?hcd ?hb ?hl ?hm ?_ ?c1 ?c2 ?c3 ?c4
  k_extra "m enter"
  clear H
  k_extra "wk"
  have eN : ((ms.length : Int) - 1).toNat = ms.length - 1 := by omega
  rw [eN] at hA
  have H1 := hA.listScs (C := 335) (p := p) (ks := [1] ++ List.replicate (ms.length - 1) 0) .head (by k_extra "m ints")
  clear hA
  have hA := H1
  clear H1
  k_extra "wk"
  exact h _ _ (At.to' hA (by k_extra "m sub") (by k_extra "m factsD"))
abbrev plnZero (p : Int) (d : Nat) : List Int := (List.replicate d (0 : Int)).map fun (k : Int) => k.fmod p
set_option maxHeartbeats 4000000 in
set_option maxRecDepth 100000 in
theorem s_P_zero {x : Addr} {ns ms : List Int} {p : Int} (W : Wd (hd.heap_39 w.params) D) (T : ∀ t ∈ WT, t ∈ D.tabs) (hk : Ok A 24) (H : At D Fs R s) (hp : p ≠ 0) (hm : PlnF 335 449 x p ns ms ∈ Fs) (h5 : 0 < ms.length) (h6 : ms.length < 1000)
    (h : ∀ x s', At D (PlnF 335 449 x p (plnZero p ms.length) ms :: Fs) R s' → Q (.ref x) s') : codeAny (model prog w) A (.call (.ref 446) ⟨[.ref x], []⟩) (Ret Q) s := by
  refine' v_call [("self", .ref x)] ?W H hk ?ho ?hcd ?hb ?hl ?hm ?_ ?c1 ?c2 ?c3 ?c4
  k_extra "m enter"
  clear H
  k_extra "wk"
  have eN : ((ms.length : Int)).toNat = ms.length := by omega
  rw [eN] at hA
  have H1 := hA.listScs (C := 335) (p := p) (ks := List.replicate ms.length 0) .head (by k_extra "m ints")
  clear hA
  have hA := H1
  clear H1
  k_extra "wk"
  exact h _ _ (At.to' hA (by k_extra "m sub") (by k_extra "m factsD"))

end

section
local macro_rules | `(tactic| walk_at "call ref") => `(tactic| ((with_reducible rename At _ _ _ _ => $(Lean.mkIdent `hA):ident); refine r_use ?_; refine' s_FQ ?W ?hk $(Lean.mkIdent `hA):ident ?hp ?_; (case W => assumption); (case hk => k_extra "m ok"); (case hp => assumption); clear $(Lean.mkIdent `hA):ident; intro $(Lean.mkIdent `x9):ident $(Lean.mkIdent `s9):ident $(Lean.mkIdent `hA):ident))
local macro_rules | `(tactic| walk_at "call ref") => `(tactic| ((with_reducible rename At _ _ _ _ => $(Lean.mkIdent `hA):ident); refine r_use ?_; refine' s_FQ_made ?W ?hk $(Lean.mkIdent `hA):ident ?hm ?hp ?_; (case W => assumption); (case hk => k_extra "m ok"); (case hm => k_extra "m mem"); (case hp => assumption); clear $(Lean.mkIdent `hA):ident; intro $(Lean.mkIdent `x9):ident $(Lean.mkIdent `s9):ident $(Lean.mkIdent `hA):ident))
local macro_rules | `(tactic| walk_at "binaryOp Add ref ref") => `(tactic| ((with_reducible rename At _ _ _ _ => $(Lean.mkIdent `hA):ident); refine' d_FQ_add ?W ?hk $(Lean.mkIdent `hA):ident ?hm ?hm2 ?hp  ?_; (case W => assumption); (case hk => k_extra "m ok"); (case hm => k_extra "m mem"); (case hm2 => k_extra "m mem"); (case hp => assumption);  clear $(Lean.mkIdent `hA):ident; intro $(Lean.mkIdent `x9):ident $(Lean.mkIdent `s9):ident $(Lean.mkIdent `hA):ident))
local macro_rules | `(tactic| walk_at "inplaceOp Add ref ref") => `(tactic| ((with_reducible rename At _ _ _ _ => $(Lean.mkIdent `hA):ident); refine' i_FQ_add ?W ?hk $(Lean.mkIdent `hA):ident ?hm ?hm2 ?hp ?_; (case W => assumption); (case hk => k_extra "m ok"); (case hm => k_extra "m mem"); (case hm2 => k_extra "m mem"); (case hp => assumption); clear $(Lean.mkIdent `hA):ident; intro $(Lean.mkIdent `x9):ident $(Lean.mkIdent `s9):ident $(Lean.mkIdent `hA):ident))
local macro_rules | `(tactic| walk_at "binaryOp Sub ref ref") => `(tactic| ((with_reducible rename At _ _ _ _ => $(Lean.mkIdent `hA):ident); refine' d_FQ_sub ?W ?hk $(Lean.mkIdent `hA):ident ?hm ?hm2 ?hp  ?_; (case W => assumption); (case hk => k_extra "m ok"); (case hm => k_extra "m mem"); (case hm2 => k_extra "m mem"); (case hp => assumption);  clear $(Lean.mkIdent `hA):ident; intro $(Lean.mkIdent `x9):ident $(Lean.mkIdent `s9):ident $(Lean.mkIdent `hA):ident))
local macro_rules | `(tactic| walk_at "inplaceOp Sub ref ref") => `(tactic| ((with_reducible rename At _ _ _ _ => $(Lean.mkIdent `hA):ident); refine' i_FQ_sub ?W ?hk $(Lean.mkIdent `hA):ident ?hm ?hm2 ?hp ?_; (case W => assumption); (case hk => k_extra "m ok"); (case hm => k_extra "m mem"); (case hm2 => k_extra "m mem"); (case hp => assumption); clear $(Lean.mkIdent `hA):ident; intro $(Lean.mkIdent `x9):ident $(Lean.mkIdent `s9):ident $(Lean.mkIdent `hA):ident))
local macro_rules | `(tactic| walk_at "binaryOp Mult ref ref") => `(tactic| ((with_reducible rename At _ _ _ _ => $(Lean.mkIdent `hA):ident); refine' d_FQ_mul ?W ?hk $(Lean.mkIdent `hA):ident ?hm ?hm2 ?hp ?hj ?_; (case W => assumption); (case hk => k_extra "m ok"); (case hm => k_extra "m mem"); (case hm2 => k_extra "m mem"); (case hp => assumption); (case hj => k_extra "m mulok"); clear $(Lean.mkIdent `hA):ident; intro $(Lean.mkIdent `x9):ident $(Lean.mkIdent `s9):ident $(Lean.mkIdent `hA):ident))
local macro_rules | `(tactic| walk_at "unaryOp USub ref") => `(tactic| ((with_reducible rename At _ _ _ _ => $(Lean.mkIdent `hA):ident); refine' d_FQ_neg ?W ?hk $(Lean.mkIdent `hA):ident ?hm ?hp ?_; (case W => assumption); (case hk => k_extra "m ok"); (case hm => k_extra "m mem"); (case hp => assumption); clear $(Lean.mkIdent `hA):ident; intro $(Lean.mkIdent `x9):ident $(Lean.mkIdent `s9):ident $(Lean.mkIdent `hA):ident))
local macro_rules | `(tactic| walk_at "call ref") => `(tactic| ((with_reducible rename At _ _ _ _ => $(Lean.mkIdent `hA):ident); refine r_use ?_; refine' s_FQs ?W ?hk $(Lean.mkIdent `hA):ident ?hp ?hm ?_; (case W => assumption); (case hk => k_extra "m ok"); (case hp => assumption); (case hm => k_extra "m mem"); clear $(Lean.mkIdent `hA):ident; intro $(Lean.mkIdent `x9):ident $(Lean.mkIdent `s9):ident $(Lean.mkIdent `hA):ident))
local macro_rules | `(tactic| walk_at "call ref") => `(tactic| ((with_reducible rename At _ _ _ _ => $(Lean.mkIdent `hA):ident); refine r_use ?_; refine' s_P_corr0 ?W ?hk $(Lean.mkIdent `hA):ident ?hp ?hx ?hd ?hmp ?hm ?_; (case W => assumption); (case hk => k_extra "m ok"); (case hp => assumption); (case hx => k_extra "m mem"); (case hd => k_extra "m mem"); (case hmp => exact rfl); (case hm => k_extra "m mem"); clear $(Lean.mkIdent `hA):ident; intro $(Lean.mkIdent `x9):ident $(Lean.mkIdent `s9):ident $(Lean.mkIdent `hA):ident))
local macro_rules | `(tactic| walk_at "call ref") => `(tactic| ((with_reducible rename At _ _ _ _ => $(Lean.mkIdent `hA):ident); refine r_use ?_; refine' s_P ?W ?T ?hk $(Lean.mkIdent `hA):ident ?hp ?h1 ?h2 ?h3 ?h4 ?h5 ?h6 ?_; (case W => assumption); (case T => assumption); (case hk => k_extra "m ok"); (case hp => assumption); (case h2 => k_extra "m mem"); (case h1 => k_extra "m seq"); (case h4 => assumption); (case h3 => k_extra "m seq"); (case h5 => k_extra "m lens"); (case h6 => k_extra "m lens"); clear $(Lean.mkIdent `hA):ident; intro $(Lean.mkIdent `x9):ident $(Lean.mkIdent `s9):ident $(Lean.mkIdent `hA):ident))
local macro_rules | `(tactic| walk_at "call ref") => `(tactic| ((with_reducible rename At _ _ _ _ => $(Lean.mkIdent `hA):ident); refine r_use ?_; refine' s_P_made ?W ?T ?hk $(Lean.mkIdent `hA):ident ?hp ?hm ?h1 ?h2 ?h5 ?h6 ?_; (case W => assumption); (case T => assumption); (case hk => k_extra "m ok"); (case hp => assumption); (case hm => k_extra "m mem"); (case h2 => k_extra "m mem"); (case h1 => k_extra "m seq"); (case h5 => k_extra "m lens"); (case h6 => k_extra "m lens"); clear $(Lean.mkIdent `hA):ident; intro $(Lean.mkIdent `x9):ident $(Lean.mkIdent `s9):ident $(Lean.mkIdent `hA):ident))
local macro_rules | `(tactic| walk_at "call ref") => `(tactic| ((with_reducible rename At _ _ _ _ => $(Lean.mkIdent `hA):ident); refine r_use ?_; refine' s_P_corr ?W ?hk $(Lean.mkIdent `hA):ident ?hp ?hm ?_; (case W => assumption); (case hk => k_extra "m ok"); (case hp => assumption); (case hm => k_extra "m mem"); clear $(Lean.mkIdent `hA):ident; intro $(Lean.mkIdent `x9):ident $(Lean.mkIdent `s9):ident $(Lean.mkIdent `hA):ident))
variable {prog : Program} {w : World} {A : Around} {E : Value → Shared → Prop} {D : Dat} {Fs : List Fact} {R : List Res} {s : Shared} {Q : Value → Shared → Prop}

abbrev rr (p x : Int) : Int := (x.fmod p).fmod p
/-- b[k] += v, b[k] -= v, all mod p -/
def addAt (p : Int) (b : List Int) (k : Nat) (v : Int) : List Int := b.set k (rr p (b.getD k 0 + v))
def subAt (p : Int) (b : List Int) (k : Nat) (v : Int) : List Int := b.set k (rr p (b.getD k 0 - v))
def convJ (p : Int) (xs ys : List Int) (i : Nat) (b : List Int) (j : Nat) : List Int := addAt p b (i + j) (rr p (xs.getD i 0 * ys.getD j 0))
def convI (p : Int) (xs ys : List Int) (d : Nat) (b : List Int) (i : Nat) : List Int := (List.range d).foldl (convJ p xs ys i) b
def conv (p : Int) (xs ys : List Int) (d i : Nat) : List Int := (List.range i).foldl (convI p xs ys d) (List.replicate (2 * d - 1) ((0 : Int).fmod p))
theorem foldl_range_succ {α : Type} (f : α → Nat → α) (b : α) (i : Nat) : (List.range (i + 1)).foldl f b = f ((List.range i).foldl f b) i := by rw [List.range_succ, List.foldl_append]; rfl
theorem addAt_length (p : Int) (b : List Int) (k : Nat) (v : Int) : (addAt p b k v).length = b.length := by simp [addAt]
theorem subAt_length (p : Int) (b : List Int) (k : Nat) (v : Int) : (subAt p b k v).length = b.length := by simp [subAt]
theorem foldl_len (f : List Int → Nat → List Int) (hf : ∀ b k, (f b k).length = b.length) (l : List Nat) (b : List Int) : (l.foldl f b).length = b.length := by
  induction l generalizing b with
  | nil => rfl
  | cons a l ih => rw [List.foldl_cons, ih, hf]
theorem convI_length (p : Int) (xs ys : List Int) (d : Nat) (b : List Int) (i : Nat) : (convI p xs ys d b i).length = b.length := foldl_len _ (fun b k => addAt_length ..) _ _
theorem conv_length (p : Int) (xs ys : List Int) (d i : Nat) : (conv p xs ys d i).length = 2 * d - 1 := by unfold conv; rw [foldl_len _ (fun b k => convI_length ..)]; simp
/-- one turn of the reduction: the top coefficient goes -/
def redI (p : Int) (ms : List Int) (e : Nat) (top : Int) (b : List Int) (i : Nat) : List Int := subAt p b (e + i) (rr p (top * ((ms.getD i 0).fmod p)))
def redTop (p : Int) (ms : List Int) (b : List Int) : List Int := (List.range ms.length).foldl (redI p ms (b.length - 1 - ms.length) (b.getD (b.length - 1) 0)) b.dropLast
def redN (p : Int) (ms : List Int) : Nat → List Int → List Int
  | 0, b => b
  | n + 1, b => redN p ms n (redTop p ms b)
theorem redTop_length (p : Int) (ms b : List Int) : (redTop p ms b).length = b.length - 1 := by unfold redTop; rw [foldl_len _ (fun b k => by unfold redI; exact subAt_length ..)]; simp
def plnMul (p : Int) (xs ys ms : List Int) : List Int := redN p ms (ms.length - 1) (conv p xs ys ms.length ms.length)
theorem rr_bd {x p : Int} (h0 : 0 < p) (h1 : p < 2 ^ 60) : -(2 ^ 60) < rr p x ∧ rr p x < 2 ^ 60 := fmod_bd h0 h1

set_option maxHeartbeats 4000000 in
set_option maxRecDepth 100000 in
theorem s_P_mul {x y : Addr} {ns ks ms : List Int} {p : Int} (W : Wd (hd.heap_39 w.params) D) (T : ∀ t ∈ WT, t ∈ D.tabs) (hk : Ok A 24) (H : At D Fs R s) (hp0 : 0 < p) (hp1 : p < 2 ^ 60) (hm : PlnF 335 449 x p ns ms ∈ Fs) (hm2 : PlnF 335 449 y p ks ms ∈ Fs) (h5 : ns.length = ms.length) (h7 : ks.length = ms.length) (h6 : ms.length < 1000) (h8 : 0 < ms.length) (hb : Bd ks)
    (h : ∀ x s', At D (PlnF 335 449 x p (plnMul p ns ks ms) ms :: Fs) R s' → Q (.ref x) s') : codeAny (model prog w) A (.call (.ref 382) ⟨[.ref x, .ref y], []⟩) (Ret Q) s := by
  have hp : p ≠ 0 := by omega
  refine' v_callc [] (fun L => [(L + 2, .ref y), (L + 1, .ref x)]) (fun L => []) ?W H hk ?ho ?hcd ?hb ?hl ?hm ?hcm ?hum ?hnd ?hud ?_ ?c2 ?c3 ?c4
  k_extra "m enterc"
  clear H
  k_extra "wk"
  have hn : ((ms.length : Int) * 2 - 1 - 0).toNat = 2 * ms.length - 1 := by omega
  rw [hn] at hA hN9
  have hlen : (List.replicate (2 * ms.length - 1) ((0 : Int).fmod p)).length = 2 * ms.length - 1 := by simp
  refine' r_mapK (fqG 335 p (List.replicate (2 * ms.length - 1) ((0 : Int).fmod p))) (hN9 false _) ⟨_, _, rfl⟩ hK9.handled hA ?g1 ?g0 ?g2 fqG.zero (fun _ _ _ q => q.len (by omega)) ?step ?done
  case g0 => decide
  case g2 => rfl
  case g1 => k_extra "m mem"
  case step =>
    intro C acc i ys Gs v F s hi hG hV H
    obtain ⟨⟨t, rfl⟩, rfl⟩ := hV
    have hA := hG.start H
    clear H
    k_extra "wk"
    exact ⟨(hG.next hA (by k_extra "m mem") (by k_extra "m mem") (by simp [hi]) (by k_extra "m sub") (by k_extra "m facts")).elim fun F' q => ⟨F', _, q.1, q.2⟩⟩
  case done =>
    clear hA
    intro C acc ys Gs s hG H
    have hA := hG.done H hlen
    clear H
    k_extra "wk"
    change At D _ _ _ at hA
    refine ⟨_, _, _, _, hA, by k_extra "m rm", fun s H => ?_⟩
    clear hA
    have hA : At D _ _ s := H
    clear H hN9
    k_extra "wk"
    have hd : ((ms.length : Int) - 0).toNat = ms.length := by omega
    rw [hd] at hA hN9
    refine r_for (fun i s => ∃ vs, At D (FQsF 335 p vs (conv p ns ks ms.length i) :: Tru :: CellF (L9 + 2) (Value.ref y) :: CellF (L9 + 1) (Value.ref x) :: Fs) (RItR I9 0 1 ms.length i :: Lst acc vs :: Vars L9 [("b", .ref acc)] :: R) s)
      (hN9 false D.ng) ⟨_, _, rfl⟩ hK9.handled ⟨ys, ?_⟩ ?_ ?_
    · have e0 : List.replicate (2 * ms.length - 1) ((0 : Int).fmod p) = conv p ns ks ms.length 0 := rfl
      rw [e0] at hA
      exact hA.to' (by k_extra "m sub") (by k_extra "m facts")
    · clear hA
      obtain ⟨I1, rfl⟩ : ∃ I1, I1 = I9 := ⟨_, rfl⟩
      rintro i s hi ⟨vs, H⟩
      refine ⟨_, _, _, H, .tail _ (.head _), .head, ?_⟩
      rintro v F s ⟨⟨t1, rfl⟩, rfl⟩ hA
      clear H
      simp only [Int.zero_add, Int.mul_one]
      k_extra "wk"
      rw [hd] at hA hN9
      have hcl := conv_length p ns ks ms.length i
      refine r_for (fun j s => ∃ vs, At D (FQsF 335 p vs ((List.range j).foldl (convJ p ns ks i) (conv p ns ks ms.length i)) :: Tru :: CellF (L9 + 2) (Value.ref y) :: CellF (L9 + 1) (Value.ref x) :: Fs) (RItR I9 0 1 ms.length j :: RItR I1 0 1 ms.length (i + 1) :: Lst acc vs :: Vars L9 [("b", .ref acc), ("i", .int i t1)] :: R) s)
        (hN9 false D.ng) ⟨_, _, rfl⟩ hK9.handled ⟨vs, ?_⟩ ?_ ?_
      · have e0 : conv p ns ks ms.length i = (List.range 0).foldl (convJ p ns ks i) (conv p ns ks ms.length i) := rfl
        rw [e0] at hA
        exact hA.to' (by k_extra "m sub") (by k_extra "m facts")
      · clear hA
        rintro j s hj ⟨vs, H⟩
        refine ⟨_, _, _, H, .tail _ (.head _), .head, ?_⟩
        rintro v F s ⟨⟨t2, rfl⟩, rfl⟩ hA
        clear H
        simp only [Int.zero_add, Int.mul_one]
        have hl : ((List.range j).foldl (convJ p ns ks i) (conv p ns ks ms.length i)).length = 2 * ms.length - 1 := by rw [foldl_len _ (fun b k => by unfold convJ; exact addAt_length ..)]; exact hcl
        have hvl := hA.fqLen (vs := vs) (by k_extra "m mem")
        have hmj := mulOk_right (a := ns.getD (i : Int).toNat 0) (hb.getD (j : Int).toNat)
        k_extra "wk"
        have e1 : ((i : Int) + (j : Int)).toNat = i + j := by omega
        have e2 : ((i : Int)).toNat = i := by omega
        have e3 : ((j : Int)).toNat = j := by omega
        rw [e1, e2, e3] at hA
        rw [foldl_range_succ]
        exact ⟨_, (hA.fqSet (vs := vs) (j := i + j) (by k_extra "m mem") mem_hd).to' (by k_extra "m sub") (by k_extra "m factsD")⟩
      · clear hA
        rintro s ⟨vs, H⟩
        refine ⟨_, _, _, H, .tail _ (.head _), .head, fun s hA => ?_⟩
        clear H
        show wpAny _ _ _ _ _ _
        k_extra "wk"
        have e4 : conv p ns ks ms.length (i + 1) = (List.range ms.length).foldl (convJ p ns ks i) (conv p ns ks ms.length i) := by unfold conv; rw [foldl_range_succ]; rfl
        rw [e4]
        exact ⟨_, hA.to' (by k_extra "m sub") (by k_extra "m facts")⟩
    · clear hA
      rintro s ⟨vs, H⟩
      refine ⟨_, _, _, H, .tail _ (.head _), .head, fun s hA => ?_⟩
      clear H
      show wpAny _ _ _ _ _ _
      k_extra "wk"
      change At D _ _ _ at hA
      refine r_while (fun k s => ∃ vs b, b.length = ms.length + k ∧ k ≤ ms.length ∧ redN p ms k b = plnMul p ns ks ms ∧ At D (FQsF 335 p vs b :: Tru :: CellF (L9 + 2) (Value.ref y) :: CellF (L9 + 1) (Value.ref x) :: Fs) (Lst acc vs :: Vars L9 [("b", .ref acc)] :: R) s) ?_ (ms.length - 1) ⟨vs, conv p ns ks ms.length ms.length, by rw [conv_length]; omega, by omega, rfl, hA.to' (by k_extra "m sub") (by k_extra "m facts")⟩
      clear hA
      rintro k s ⟨vs, b, hbl, hkl, hbe, hA⟩
      have hvl := hA.fqLen (vs := vs) (by k_extra "m mem")
      cases k with
      | zero =>
        k_extra "wk"
        · exact absurd hvl (by omega)
        have e0 : b = plnMul p ns ks ms := hbe
        rw [e0] at hA hbl
        have H1 := At.scs (At.fzL hA .head) (by k_extra "m mem")
        clear hA
        have hA := H1
        clear H1
        have hle := hA.len2 (vs := vs) (by k_extra "m mem")
        show wpAny _ _ _ _ _ _
        k_extra "wk"
        exact h _ _ (At.to' hA (by k_extra "m sub") (by k_extra "m facts"))
      | succ k =>
        obtain ⟨vs', yv, rfl⟩ : ∃ vs' yv, vs = vs' ++ [yv] := by
          rcases List.eq_nil_or_concat vs with rfl | ⟨a, b, e⟩
          · simp at hvl; omega
          · exact ⟨a, b, by simpa using e⟩
        obtain ⟨b', n, a, rfl, rfl, H2⟩ := hA.fqSnocInv (vs := vs') (by k_extra "m mem")
        clear hA
        have hA := H2
        clear H2
        have hl' : vs'.length = ms.length + k := by simp at hvl hbl; omega
        k_extra "wk"
        rotate_left
        · exact absurd hvl (by omega)
        refine r_unpk hK9.handled hA (.head _) ?_ ?_
        · rfl
        clear hA
        intro s hA
        with_unfolding_all refine r_aio2 ?_
        k_extra "wk"
        have he : ((vs' ++ [Value.ref a]).length : Int) - ms.length - 1 = k := by simp; omega
        rw [he] at hA
        have hd2 : ((ms.length : Int) - 0).toNat = ms.length := by omega
        rw [hd2] at hA hN9
        have hb' : b'.length = ms.length + k := by simp at hbl; omega
        have hmp := fun j => mulOk_right (a := n) (fmod_bd (x := ms.getD j 0) hp0 hp1)
        refine r_for (fun j s => ∃ vs2 t, At D (FQsF 335 p vs2 ((List.range j).foldl (redI p ms k n) b') :: FQF 335 a p n :: Tru :: CellF (L9 + 2) (Value.ref y) :: CellF (L9 + 1) (Value.ref x) :: Fs) (RItR I9 0 1 ms.length j :: Lst acc vs2 :: Vars L9 [("b", .ref acc), ("top", .ref a), ("exp", .int k t)] :: R) s)
          (hN9 false D.ng) ⟨_, _, rfl⟩ hK9.handled ?_ ?_ ?_
        · have e0 : b' = (List.range 0).foldl (redI p ms k n) b' := rfl
          rw [e0] at hA
          exact ⟨vs', _, hA.to' (by k_extra "m sub") (by k_extra "m facts")⟩
        · clear hA
          rintro j s hj ⟨vs2, t, H⟩
          refine ⟨_, _, _, H, .tail _ (.tail _ (.head _)), .head, ?_⟩
          rintro v F s ⟨⟨t2, rfl⟩, rfl⟩ hA
          clear H
          simp only [Int.zero_add, Int.mul_one]
          have hl : ((List.range j).foldl (redI p ms k n) b').length = ms.length + k := by rw [foldl_len _ (fun b k => by unfold redI; exact subAt_length ..)]; exact hb'
          have hvl2 := hA.fqLen (vs := vs2) (by k_extra "m mem")
          have hmj := hmp (j : Int).toNat
          k_extra "wk"
          have e1 : ((k : Int) + (j : Int)).toNat = k + j := by omega
          have e3 : ((j : Int)).toNat = j := by omega
          rw [e1, e3] at hA
          rw [foldl_range_succ]
          exact ⟨_, _, (hA.fqSet (vs := vs2) (j := k + j) (by k_extra "m mem") mem_hd).to' (by k_extra "m sub") (by k_extra "m factsD")⟩
        · clear hA
          rintro s ⟨vs2, t, H⟩
          refine ⟨_, _, _, H, .tail _ (.tail _ (.head _)), .head, fun s hA => ?_⟩
          clear H
          show wpAny _ _ _ _ _ _
          k_extra "wk"
          have eT : redTop p ms (b' ++ [n]) = (List.range ms.length).foldl (redI p ms k n) b' := by
            unfold redTop
            have q1 : (b' ++ [n]).length - 1 - ms.length = k := by simp; omega
            have q2 : (b' ++ [n]).getD ((b' ++ [n]).length - 1) 0 = n := by simp
            have q3 : (b' ++ [n]).dropLast = b' := by simp
            rw [q1, q2, q3]
          rw [← eT] at hA
          exact ⟨k, Nat.lt_succ_self _, _, _, by rw [redTop_length]; omega, by omega, hbe, hA.to' (by k_extra "m sub") (by k_extra "m facts")⟩

end

section
local macro_rules | `(tactic| walk_at "call ref") => `(tactic| ((with_reducible rename At _ _ _ _ => $(Lean.mkIdent `hA):ident); refine r_use ?_; refine' s_FQ ?W ?hk $(Lean.mkIdent `hA):ident ?hp ?_; (case W => assumption); (case hk => k_extra "m ok"); (case hp => assumption); clear $(Lean.mkIdent `hA):ident; intro $(Lean.mkIdent `x9):ident $(Lean.mkIdent `s9):ident $(Lean.mkIdent `hA):ident))
local macro_rules | `(tactic| walk_at "call ref") => `(tactic| ((with_reducible rename At _ _ _ _ => $(Lean.mkIdent `hA):ident); refine r_use ?_; refine' s_FQ_made ?W ?hk $(Lean.mkIdent `hA):ident ?hm ?hp ?_; (case W => assumption); (case hk => k_extra "m ok"); (case hm => k_extra "m mem"); (case hp => assumption); clear $(Lean.mkIdent `hA):ident; intro $(Lean.mkIdent `x9):ident $(Lean.mkIdent `s9):ident $(Lean.mkIdent `hA):ident))
local macro_rules | `(tactic| walk_at "binaryOp Add ref ref") => `(tactic| ((with_reducible rename At _ _ _ _ => $(Lean.mkIdent `hA):ident); refine' d_FQ_add ?W ?hk $(Lean.mkIdent `hA):ident ?hm ?hm2 ?hp  ?_; (case W => assumption); (case hk => k_extra "m ok"); (case hm => k_extra "m mem"); (case hm2 => k_extra "m mem"); (case hp => assumption);  clear $(Lean.mkIdent `hA):ident; intro $(Lean.mkIdent `x9):ident $(Lean.mkIdent `s9):ident $(Lean.mkIdent `hA):ident))
local macro_rules | `(tactic| walk_at "inplaceOp Add ref ref") => `(tactic| ((with_reducible rename At _ _ _ _ => $(Lean.mkIdent `hA):ident); refine' i_FQ_add ?W ?hk $(Lean.mkIdent `hA):ident ?hm ?hm2 ?hp ?_; (case W => assumption); (case hk => k_extra "m ok"); (case hm => k_extra "m mem"); (case hm2 => k_extra "m mem"); (case hp => assumption); clear $(Lean.mkIdent `hA):ident; intro $(Lean.mkIdent `x9):ident $(Lean.mkIdent `s9):ident $(Lean.mkIdent `hA):ident))
local macro_rules | `(tactic| walk_at "binaryOp Sub ref ref") => `(tactic| ((with_reducible rename At _ _ _ _ => $(Lean.mkIdent `hA):ident); refine' d_FQ_sub ?W ?hk $(Lean.mkIdent `hA):ident ?hm ?hm2 ?hp  ?_; (case W => assumption); (case hk => k_extra "m ok"); (case hm => k_extra "m mem"); (case hm2 => k_extra "m mem"); (case hp => assumption);  clear $(Lean.mkIdent `hA):ident; intro $(Lean.mkIdent `x9):ident $(Lean.mkIdent `s9):ident $(Lean.mkIdent `hA):ident))
local macro_rules | `(tactic| walk_at "inplaceOp Sub ref ref") => `(tactic| ((with_reducible rename At _ _ _ _ => $(Lean.mkIdent `hA):ident); refine' i_FQ_sub ?W ?hk $(Lean.mkIdent `hA):ident ?hm ?hm2 ?hp ?_; (case W => assumption); (case hk => k_extra "m ok"); (case hm => k_extra "m mem"); (case hm2 => k_extra "m mem"); (case hp => assumption); clear $(Lean.mkIdent `hA):ident; intro $(Lean.mkIdent `x9):ident $(Lean.mkIdent `s9):ident $(Lean.mkIdent `hA):ident))
local macro_rules | `(tactic| walk_at "binaryOp Mult ref ref") => `(tactic| ((with_reducible rename At _ _ _ _ => $(Lean.mkIdent `hA):ident); refine' d_FQ_mul ?W ?hk $(Lean.mkIdent `hA):ident ?hm ?hm2 ?hp ?hj ?_; (case W => assumption); (case hk => k_extra "m ok"); (case hm => k_extra "m mem"); (case hm2 => k_extra "m mem"); (case hp => assumption); (case hj => k_extra "m mulok"); clear $(Lean.mkIdent `hA):ident; intro $(Lean.mkIdent `x9):ident $(Lean.mkIdent `s9):ident $(Lean.mkIdent `hA):ident))
local macro_rules | `(tactic| walk_at "unaryOp USub ref") => `(tactic| ((with_reducible rename At _ _ _ _ => $(Lean.mkIdent `hA):ident); refine' d_FQ_neg ?W ?hk $(Lean.mkIdent `hA):ident ?hm ?hp ?_; (case W => assumption); (case hk => k_extra "m ok"); (case hm => k_extra "m mem"); (case hp => assumption); clear $(Lean.mkIdent `hA):ident; intro $(Lean.mkIdent `x9):ident $(Lean.mkIdent `s9):ident $(Lean.mkIdent `hA):ident))
local macro_rules | `(tactic| walk_at "call ref") => `(tactic| ((with_reducible rename At _ _ _ _ => $(Lean.mkIdent `hA):ident); refine r_use ?_; refine' s_FQs ?W ?hk $(Lean.mkIdent `hA):ident ?hp ?hm ?_; (case W => assumption); (case hk => k_extra "m ok"); (case hp => assumption); (case hm => k_extra "m mem"); clear $(Lean.mkIdent `hA):ident; intro $(Lean.mkIdent `x9):ident $(Lean.mkIdent `s9):ident $(Lean.mkIdent `hA):ident))
local macro_rules | `(tactic| walk_at "call ref") => `(tactic| ((with_reducible rename At _ _ _ _ => $(Lean.mkIdent `hA):ident); refine r_use ?_; refine' s_P_corr0 ?W ?hk $(Lean.mkIdent `hA):ident ?hp ?hx ?hd ?hmp ?hm ?_; (case W => assumption); (case hk => k_extra "m ok"); (case hp => assumption); (case hx => k_extra "m mem"); (case hd => k_extra "m mem"); (case hmp => exact rfl); (case hm => k_extra "m mem"); clear $(Lean.mkIdent `hA):ident; intro $(Lean.mkIdent `x9):ident $(Lean.mkIdent `s9):ident $(Lean.mkIdent `hA):ident))
local macro_rules | `(tactic| walk_at "call ref") => `(tactic| ((with_reducible rename At _ _ _ _ => $(Lean.mkIdent `hA):ident); refine r_use ?_; refine' s_P ?W ?T ?hk $(Lean.mkIdent `hA):ident ?hp ?h1 ?h2 ?h3 ?h4 ?h5 ?h6 ?_; (case W => assumption); (case T => assumption); (case hk => k_extra "m ok"); (case hp => assumption); (case h2 => k_extra "m mem"); (case h1 => k_extra "m seq"); (case h4 => assumption); (case h3 => k_extra "m seq"); (case h5 => k_extra "m lens"); (case h6 => k_extra "m lens"); clear $(Lean.mkIdent `hA):ident; intro $(Lean.mkIdent `x9):ident $(Lean.mkIdent `s9):ident $(Lean.mkIdent `hA):ident))
local macro_rules | `(tactic| walk_at "call ref") => `(tactic| ((with_reducible rename At _ _ _ _ => $(Lean.mkIdent `hA):ident); refine r_use ?_; refine' s_P_made ?W ?T ?hk $(Lean.mkIdent `hA):ident ?hp ?hm ?h1 ?h2 ?h5 ?h6 ?_; (case W => assumption); (case T => assumption); (case hk => k_extra "m ok"); (case hp => assumption); (case hm => k_extra "m mem"); (case h2 => k_extra "m mem"); (case h1 => k_extra "m seq"); (case h5 => k_extra "m lens"); (case h6 => k_extra "m lens"); clear $(Lean.mkIdent `hA):ident; intro $(Lean.mkIdent `x9):ident $(Lean.mkIdent `s9):ident $(Lean.mkIdent `hA):ident))
local macro_rules | `(tactic| walk_at "call ref") => `(tactic| ((with_reducible rename At _ _ _ _ => $(Lean.mkIdent `hA):ident); refine r_use ?_; refine' s_P_corr ?W ?hk $(Lean.mkIdent `hA):ident ?hp ?hm ?_; (case W => assumption); (case hk => k_extra "m ok"); (case hp => assumption); (case hm => k_extra "m mem"); clear $(Lean.mkIdent `hA):ident; intro $(Lean.mkIdent `x9):ident $(Lean.mkIdent `s9):ident $(Lean.mkIdent `hA):ident))
variable {prog : Program} {w : World} {A : Around} {E : Value → Shared → Prop} {D : Dat} {Fs : List Fact} {R : List Res} {s : Shared} {Q : Value → Shared → Prop}
/-- reduced mod p -/
def InR (p : Int) (l : List Int) : Prop := ∀ x ∈ l, 0 ≤ x ∧ x < p
theorem InR.bd {p : Int} {l : List Int} (h : InR p l) (hp : p < 2 ^ 60) : Bd l := fun x hx => by have := h x hx; omega
theorem InR.set {p : Int} {l : List Int} (h : InR p l) (k : Nat) {v : Int} (hv : 0 ≤ v ∧ v < p) : InR p (l.set k v) := fun x hx => by
  rcases List.mem_or_eq_of_mem_set hx with q | q
  · exact h x q
  · exact q ▸ hv
theorem rr_in {p x : Int} (h0 : 0 < p) : 0 ≤ rr p x ∧ rr p x < p := ⟨Int.fmod_nonneg_of_pos _ h0, Int.fmod_lt_of_pos _ h0⟩
theorem fmod_in {p x : Int} (h0 : 0 < p) : 0 ≤ x.fmod p ∧ x.fmod p < p := ⟨Int.fmod_nonneg_of_pos _ h0, Int.fmod_lt_of_pos _ h0⟩
theorem foldl_in {p : Int} (f : List Int → Nat → List Int) (hf : ∀ b k, InR p b → InR p (f b k)) (l : List Nat) (b : List Int) (h : InR p b) : InR p (l.foldl f b) := by
  induction l generalizing b with
  | nil => exact h
  | cons a l ih => exact ih _ (hf _ _ h)
theorem conv_in {p : Int} (h0 : 0 < p) (xs ys : List Int) (d i : Nat) : InR p (conv p xs ys d i) := by
  unfold conv
  refine foldl_in _ (fun b k hb => ?_) _ _ (fun x hx => ?_)
  · unfold convI
    exact foldl_in _ (fun b k hb => by unfold convJ addAt; exact hb.set _ (rr_in h0)) _ _ hb
  · rw [(List.mem_replicate.mp hx).2]; exact fmod_in h0
theorem redTop_in {p : Int} (h0 : 0 < p) (ms b : List Int) (hb : InR p b) : InR p (redTop p ms b) := by
  unfold redTop
  exact foldl_in _ (fun b k hb => by unfold redI subAt; exact hb.set _ (rr_in h0)) _ _ fun x hx => hb x ((List.dropLast_sublist b).subset hx)
theorem redN_in {p : Int} (h0 : 0 < p) (ms : List Int) (n : Nat) (b : List Int) (hb : InR p b) : InR p (redN p ms n b) := by
  induction n generalizing b with
  | zero => exact hb
  | succ n ih => exact ih _ (redTop_in h0 ms b hb)
theorem redN_length (p : Int) (ms : List Int) (n : Nat) (b : List Int) : (redN p ms n b).length = b.length - n := by
  induction n generalizing b with
  | zero => rfl
  | succ n ih => show (redN p ms n (redTop p ms b)).length = _; rw [ih, redTop_length]; omega
theorem plnMul_in {p : Int} (h0 : 0 < p) (xs ys ms : List Int) : InR p (plnMul p xs ys ms) := redN_in h0 ms _ _ (conv_in h0 xs ys ms.length ms.length)
theorem plnMul_length (p : Int) (xs ys ms : List Int) (h : 0 < ms.length) : (plnMul p xs ys ms).length = ms.length := by unfold plnMul; rw [redN_length, conv_length]; omega
def plnPow (p : Int) (ms : List Int) : Nat → List Int → List Int
  | 0, _ => plnOne p ms.length
  | 1, xs => xs
  | n + 2, xs => if (n + 2) % 2 = 0 then plnPow p ms ((n + 2) / 2) (plnMul p xs xs ms) else plnMul p (plnPow p ms ((n + 2) / 2) (plnMul p xs xs ms)) xs ms
termination_by n => n
decreasing_by all_goals omega

theorem d_P_mul {x y : Addr} {ns ks ms : List Int} {p : Int} (W : Wd (hd.heap_39 w.params) D) (T : ∀ t ∈ WT, t ∈ D.tabs) (hk : Ok A 24) (H : At D Fs R s) (hp0 : 0 < p) (hp1 : p < 2 ^ 60) (hm : PlnF 335 449 x p ns ms ∈ Fs) (hm2 : PlnF 335 449 y p ks ms ∈ Fs) (h5 : ns.length = ms.length) (h7 : ks.length = ms.length) (h6 : ms.length < 1000) (h8 : 0 < ms.length) (hb : Bd ks)
    (h : ∀ x s', At D (PlnF 335 449 x p (plnMul p ns ks ms) ms :: Fs) R s' → Q (.ref x) s') : wpAny (model prog w) A (binaryOp .Mult (.ref x) (.ref y)) Q E s := by
  refine' o_bin W H hm .pln ?h1 ?h2 ?h3 hm2 .pln (r_use (s_P_mul W T hk H hp0 hp1 hm hm2 h5 h7 h6 h8 hb fun z s' H' => h z s' H'))
  all_goals k_is
theorem d_P_add {x y : Addr} {ns ks ms : List Int} {p : Int} (W : Wd (hd.heap_39 w.params) D) (T : ∀ t ∈ WT, t ∈ D.tabs) (hk : Ok A 24) (H : At D Fs R s) (hp : p ≠ 0) (hm : PlnF 335 449 x p ns ms ∈ Fs) (hm2 : PlnF 335 449 y p ks ms ∈ Fs) (h5 : ns.length = ms.length) (h7 : ks.length = ms.length) (h6 : ms.length < 1000)
    (h : ∀ x s', At D (PlnF 335 449 x p (plnZip (· + ·) p ns ks) ms :: Fs) R s' → Q (.ref x) s') : wpAny (model prog w) A (binaryOp .Add (.ref x) (.ref y)) Q E s := by
  refine' o_bin W H hm .pln ?h1 ?h2 ?h3 hm2 .pln (r_use (s_P_add W T hk H hp hm hm2 h5 h7 h6 fun z s' H' => h z s' H'))
  all_goals k_is
theorem d_P_sub {x y : Addr} {ns ks ms : List Int} {p : Int} (W : Wd (hd.heap_39 w.params) D) (T : ∀ t ∈ WT, t ∈ D.tabs) (hk : Ok A 24) (H : At D Fs R s) (hp : p ≠ 0) (hm : PlnF 335 449 x p ns ms ∈ Fs) (hm2 : PlnF 335 449 y p ks ms ∈ Fs) (h5 : ns.length = ms.length) (h7 : ks.length = ms.length) (h6 : ms.length < 1000)
    (h : ∀ x s', At D (PlnF 335 449 x p (plnZip (· - ·) p ns ks) ms :: Fs) R s' → Q (.ref x) s') : wpAny (model prog w) A (binaryOp .Sub (.ref x) (.ref y)) Q E s := by
  refine' o_bin W H hm .pln ?h1 ?h2 ?h3 hm2 .pln (r_use (s_P_sub W T hk H hp hm hm2 h5 h7 h6 fun z s' H' => h z s' H'))
  all_goals k_is
theorem d_P_neg {x : Addr} {ns ms : List Int} {p : Int} (W : Wd (hd.heap_39 w.params) D) (T : ∀ t ∈ WT, t ∈ D.tabs) (hk : Ok A 24) (H : At D Fs R s) (hp : p ≠ 0) (hm : PlnF 335 449 x p ns ms ∈ Fs) (h5 : ns.length = ms.length) (h6 : ms.length < 1000)
    (h : ∀ x s', At D (PlnF 335 449 x p (plnNeg p ns) ms :: Fs) R s' → Q (.ref x) s') : wpAny (model prog w) A (unaryOp .USub (.ref x)) Q E s := by
  refine' o_neg W H hm .pln ?h1 ?h2 (r_use (s_P_neg W T hk H hp hm h5 h6 fun z s' H' => h z s' H'))
  all_goals k_is
local macro_rules | `(tactic| walk_at "binaryOp Mult ref ref") => `(tactic| ((with_reducible rename At _ _ _ _ => $(Lean.mkIdent `hA):ident); refine' d_P_mul ?W ?T ?hk $(Lean.mkIdent `hA):ident ?hp0 ?hp1 ?hm ?hm2 ?h5 ?h7 ?h6 ?h8 ?hb ?_; (case W => assumption); (case T => assumption); (case hk => k_extra "m ok"); (case hp0 => assumption); (case hp1 => assumption); (case hm => k_extra "m mem"); (case hm2 => k_extra "m mem"); (case h5 => k_extra "m lens"); (case h7 => k_extra "m lens"); (case h6 => assumption); (case h8 => assumption); (case hb => assumption); clear $(Lean.mkIdent `hA):ident; intro $(Lean.mkIdent `x9):ident $(Lean.mkIdent `s9):ident $(Lean.mkIdent `hA):ident))

end

section
local macro_rules | `(tactic| walk_at "call ref") => `(tactic| ((with_reducible rename At _ _ _ _ => $(Lean.mkIdent `hA):ident); refine r_use ?_; refine' s_FQ ?W ?hk $(Lean.mkIdent `hA):ident ?hp ?_; (case W => assumption); (case hk => k_extra "m ok"); (case hp => assumption); clear $(Lean.mkIdent `hA):ident; intro $(Lean.mkIdent `x9):ident $(Lean.mkIdent `s9):ident $(Lean.mkIdent `hA):ident))
local macro_rules | `(tactic| walk_at "call ref") => `(tactic| ((with_reducible rename At _ _ _ _ => $(Lean.mkIdent `hA):ident); refine r_use ?_; refine' s_FQ_made ?W ?hk $(Lean.mkIdent `hA):ident ?hm ?hp ?_; (case W => assumption); (case hk => k_extra "m ok"); (case hm => k_extra "m mem"); (case hp => assumption); clear $(Lean.mkIdent `hA):ident; intro $(Lean.mkIdent `x9):ident $(Lean.mkIdent `s9):ident $(Lean.mkIdent `hA):ident))
local macro_rules | `(tactic| walk_at "binaryOp Add ref ref") => `(tactic| ((with_reducible rename At _ _ _ _ => $(Lean.mkIdent `hA):ident); refine' d_FQ_add ?W ?hk $(Lean.mkIdent `hA):ident ?hm ?hm2 ?hp  ?_; (case W => assumption); (case hk => k_extra "m ok"); (case hm => k_extra "m mem"); (case hm2 => k_extra "m mem"); (case hp => assumption);  clear $(Lean.mkIdent `hA):ident; intro $(Lean.mkIdent `x9):ident $(Lean.mkIdent `s9):ident $(Lean.mkIdent `hA):ident))
local macro_rules | `(tactic| walk_at "inplaceOp Add ref ref") => `(tactic| ((with_reducible rename At _ _ _ _ => $(Lean.mkIdent `hA):ident); refine' i_FQ_add ?W ?hk $(Lean.mkIdent `hA):ident ?hm ?hm2 ?hp ?_; (case W => assumption); (case hk => k_extra "m ok"); (case hm => k_extra "m mem"); (case hm2 => k_extra "m mem"); (case hp => assumption); clear $(Lean.mkIdent `hA):ident; intro $(Lean.mkIdent `x9):ident $(Lean.mkIdent `s9):ident $(Lean.mkIdent `hA):ident))
local macro_rules | `(tactic| walk_at "binaryOp Sub ref ref") => `(tactic| ((with_reducible rename At _ _ _ _ => $(Lean.mkIdent `hA):ident); refine' d_FQ_sub ?W ?hk $(Lean.mkIdent `hA):ident ?hm ?hm2 ?hp  ?_; (case W => assumption); (case hk => k_extra "m ok"); (case hm => k_extra "m mem"); (case hm2 => k_extra "m mem"); (case hp => assumption);  clear $(Lean.mkIdent `hA):ident; intro $(Lean.mkIdent `x9):ident $(Lean.mkIdent `s9):ident $(Lean.mkIdent `hA):ident))
local macro_rules | `(tactic| walk_at "inplaceOp Sub ref ref") => `(tactic| ((with_reducible rename At _ _ _ _ => $(Lean.mkIdent `hA):ident); refine' i_FQ_sub ?W ?hk $(Lean.mkIdent `hA):ident ?hm ?hm2 ?hp ?_; (case W => assumption); (case hk => k_extra "m ok"); (case hm => k_extra "m mem"); (case hm2 => k_extra "m mem"); (case hp => assumption); clear $(Lean.mkIdent `hA):ident; intro $(Lean.mkIdent `x9):ident $(Lean.mkIdent `s9):ident $(Lean.mkIdent `hA):ident))
local macro_rules | `(tactic| walk_at "binaryOp Mult ref ref") => `(tactic| ((with_reducible rename At _ _ _ _ => $(Lean.mkIdent `hA):ident); refine' d_FQ_mul ?W ?hk $(Lean.mkIdent `hA):ident ?hm ?hm2 ?hp ?hj ?_; (case W => assumption); (case hk => k_extra "m ok"); (case hm => k_extra "m mem"); (case hm2 => k_extra "m mem"); (case hp => assumption); (case hj => k_extra "m mulok"); clear $(Lean.mkIdent `hA):ident; intro $(Lean.mkIdent `x9):ident $(Lean.mkIdent `s9):ident $(Lean.mkIdent `hA):ident))
local macro_rules | `(tactic| walk_at "unaryOp USub ref") => `(tactic| ((with_reducible rename At _ _ _ _ => $(Lean.mkIdent `hA):ident); refine' d_FQ_neg ?W ?hk $(Lean.mkIdent `hA):ident ?hm ?hp ?_; (case W => assumption); (case hk => k_extra "m ok"); (case hm => k_extra "m mem"); (case hp => assumption); clear $(Lean.mkIdent `hA):ident; intro $(Lean.mkIdent `x9):ident $(Lean.mkIdent `s9):ident $(Lean.mkIdent `hA):ident))
local macro_rules | `(tactic| walk_at "call ref") => `(tactic| ((with_reducible rename At _ _ _ _ => $(Lean.mkIdent `hA):ident); refine r_use ?_; refine' s_FQs ?W ?hk $(Lean.mkIdent `hA):ident ?hp ?hm ?_; (case W => assumption); (case hk => k_extra "m ok"); (case hp => assumption); (case hm => k_extra "m mem"); clear $(Lean.mkIdent `hA):ident; intro $(Lean.mkIdent `x9):ident $(Lean.mkIdent `s9):ident $(Lean.mkIdent `hA):ident))
local macro_rules | `(tactic| walk_at "call ref") => `(tactic| ((with_reducible rename At _ _ _ _ => $(Lean.mkIdent `hA):ident); refine r_use ?_; refine' s_P_corr0 ?W ?hk $(Lean.mkIdent `hA):ident ?hp ?hx ?hd ?hmp ?hm ?_; (case W => assumption); (case hk => k_extra "m ok"); (case hp => assumption); (case hx => k_extra "m mem"); (case hd => k_extra "m mem"); (case hmp => exact rfl); (case hm => k_extra "m mem"); clear $(Lean.mkIdent `hA):ident; intro $(Lean.mkIdent `x9):ident $(Lean.mkIdent `s9):ident $(Lean.mkIdent `hA):ident))
local macro_rules | `(tactic| walk_at "call ref") => `(tactic| ((with_reducible rename At _ _ _ _ => $(Lean.mkIdent `hA):ident); refine r_use ?_; refine' s_P ?W ?T ?hk $(Lean.mkIdent `hA):ident ?hp ?h1 ?h2 ?h3 ?h4 ?h5 ?h6 ?_; (case W => assumption); (case T => assumption); (case hk => k_extra "m ok"); (case hp => assumption); (case h2 => k_extra "m mem"); (case h1 => k_extra "m seq"); (case h4 => assumption); (case h3 => k_extra "m seq"); (case h5 => k_extra "m lens"); (case h6 => k_extra "m lens"); clear $(Lean.mkIdent `hA):ident; intro $(Lean.mkIdent `x9):ident $(Lean.mkIdent `s9):ident $(Lean.mkIdent `hA):ident))
local macro_rules | `(tactic| walk_at "call ref") => `(tactic| ((with_reducible rename At _ _ _ _ => $(Lean.mkIdent `hA):ident); refine r_use ?_; refine' s_P_made ?W ?T ?hk $(Lean.mkIdent `hA):ident ?hp ?hm ?h1 ?h2 ?h5 ?h6 ?_; (case W => assumption); (case T => assumption); (case hk => k_extra "m ok"); (case hp => assumption); (case hm => k_extra "m mem"); (case h2 => k_extra "m mem"); (case h1 => k_extra "m seq"); (case h5 => k_extra "m lens"); (case h6 => k_extra "m lens"); clear $(Lean.mkIdent `hA):ident; intro $(Lean.mkIdent `x9):ident $(Lean.mkIdent `s9):ident $(Lean.mkIdent `hA):ident))
local macro_rules | `(tactic| walk_at "call ref") => `(tactic| ((with_reducible rename At _ _ _ _ => $(Lean.mkIdent `hA):ident); refine r_use ?_; refine' s_P_corr ?W ?hk $(Lean.mkIdent `hA):ident ?hp ?hm ?_; (case W => assumption); (case hk => k_extra "m ok"); (case hp => assumption); (case hm => k_extra "m mem"); clear $(Lean.mkIdent `hA):ident; intro $(Lean.mkIdent `x9):ident $(Lean.mkIdent `s9):ident $(Lean.mkIdent `hA):ident))
local macro_rules | `(tactic| walk_at "binaryOp Mult ref ref") => `(tactic| ((with_reducible rename At _ _ _ _ => $(Lean.mkIdent `hA):ident); refine' d_P_mul ?W ?T ?hk $(Lean.mkIdent `hA):ident ?hp0 ?hp1 ?hm ?hm2 ?h5 ?h7 ?h6 ?h8 ?hb ?_; (case W => assumption); (case T => assumption); (case hk => k_extra "m ok"); (case hp0 => assumption); (case hp1 => assumption); (case hm => k_extra "m mem"); (case hm2 => k_extra "m mem"); (case h5 => k_extra "m lens"); (case h7 => k_extra "m lens"); (case h6 => assumption); (case h8 => assumption); (case hb => assumption); clear $(Lean.mkIdent `hA):ident; intro $(Lean.mkIdent `x9):ident $(Lean.mkIdent `s9):ident $(Lean.mkIdent `hA):ident))
variable {prog : Program} {w : World} {A : Around} {E : Value → Shared → Prop} {D : Dat} {Fs : List Fact} {R : List Res} {s : Shared} {Q : Value → Shared → Prop}
local macro_rules | `(tactic| walk_at "binaryOp FloorDiv int int") => `(tactic| ((with_reducible rename At _ _ _ _ => $(Lean.mkIdent `hA):ident); refine r_fdiv $(Lean.mkIdent `hA):ident (by omega) (by exact PyProof.noPylong_small (by omega)) ?_; clear $(Lean.mkIdent `hA):ident; intro $(Lean.mkIdent `t9):ident $(Lean.mkIdent `s9):ident $(Lean.mkIdent `hA):ident))
theorem plnPow_length (p : Int) (ms : List Int) (h8 : 0 < ms.length) (n : Nat) : ∀ (xs : List Int), xs.length = ms.length → (plnPow p ms n xs).length = ms.length := by
  induction n using Nat.strongRecOn with
  | ind n ih =>
    intro xs hx
    match n, ih with
    | 0, _ => rw [plnPow]; simp [plnOne]; omega
    | 1, _ => rw [plnPow]; exact hx
    | k + 2, ih =>
      rw [plnPow]
      split
      · exact ih _ (by omega) _ (plnMul_length _ _ _ _ h8)
      · exact plnMul_length _ _ _ _ h8
set_option maxHeartbeats 4000000 in
set_option maxRecDepth 100000 in
theorem s_P_pow (n : Nat) : ∀ {A : Around} {Fs : List Fact} {R : List Res} {s : Shared} {Q : Value → Shared → Prop} {x : Addr} {t1 : Tok} {ns ms : List Int} {p : Int} (_ : Wd (hd.heap_39 w.params) D) (_ : ∀ t ∈ WT, t ∈ D.tabs) (_ : Ok A (30 + 2 * n)) (_ : n < 64) (_ : At D Fs R s) (_ : 0 < p) (_ : p < 2 ^ 60) (_ : PlnF 335 449 x p ns ms ∈ Fs) (_ : ns.length = ms.length) (_ : ms.length < 1000) (_ : 0 < ms.length) (_ : Bd ns)
    (_ : ∀ x s', At D (PlnF 335 449 x p (plnPow p ms n ns) ms :: Fs) R s' → Q (.ref x) s'), codeAny (model prog w) A (.call (.ref 401) ⟨[.ref x, .int n t1], []⟩) (Ret Q) s := by
  induction n using Nat.strongRecOn with
  | ind n ih =>
    intro A Fs R s Q x t1 ns ms p W T hk hn H hp0 hp1 hm h5 h6 h8 hb h
    have hp : p ≠ 0 := by omega
    refine' v_call [("other", .int n t1), ("self", .ref x)] ?W H (n := 29 + 2 * n) (hk.mono (by omega)) ?ho ?hcd ?hb ?hl ?hm ?_ ?c1 ?c2 ?c3 ?c4
    k_extra "m enter"
    clear H
    have hK8 : Ok (A.deeper (envOf _ _ L9 401 _)) 29 := hK9.mono (by omega)
    k_extra "wk"
    · have n0 : n = 0 := by omega
      subst n0
      have eN : ((ms.length : Int) - 1).toNat = ms.length - 1 := by omega
      rw [eN] at hA
      have H1 := hA.listScs (C := 335) (p := p) (ks := [1] ++ List.replicate (ms.length - 1) 0) .head (by k_extra "m ints")
      clear hA
      have hA := H1
      clear H1
      k_extra "wk"
      refine h _ _ ?_
      rw [plnPow]
      exact At.to' hA (by k_extra "m sub") (by k_extra "m facts")
    · have n1 : n = 1 := by omega
      subst n1
      have H1 := hA.scs (vs := v9) (by k_extra "m mem")
      clear hA
      have hA := H1
      clear H1
      have e9 : v9.length = ms.length := by omega
      refine r_use (s_P_made W T (hK8.mono (by omega)) hA hp (by k_extra "m mem") (by k_extra "m seq") (by k_extra "m mem") e9 h6 ?_)
      clear hA
      intro x9 s9 hA
      refine h _ _ ?_
      rw [plnPow]
      exact At.to' hA (by k_extra "m sub") (by k_extra "m facts")
    all_goals
      have e2 : ((n : Int)).fdiv 2 = ((n / 2 : Nat) : Int) := by rw [Int.fdiv_eq_ediv_of_nonneg _ (by decide)]; omega
      have e3 : ((n : Int)).fmod 2 = ((n % 2 : Nat) : Int) := by rw [Int.fmod_eq_emod_of_nonneg _ (by decide)]; omega
      rw [e2]
      obtain ⟨k, rfl⟩ : ∃ k, n = k + 2 := ⟨n - 2, by omega⟩
      refine' o_binT W hA (F := PlnF 335 449 x9 p (plnMul p ns ns ms) ms) (.head _) .pln ?q1 ?q2 ?q3 (T := "int") rfl ?q4 (.inl rfl) ?q5 ?q6 ?q7 (r_use (ih ((k + 2) / 2) (by omega) W T (hK9.mono (by omega)) (by omega) hA hp0 hp1 (.head _) (plnMul_length _ _ _ _ h8) h6 h8 (InR.bd (plnMul_in hp0 ns ns ms) hp1) ?_))
      case q1 => k_is
      case q2 => k_is
      case q3 => k_is
      case q4 => k_is
      case q5 => k_is
      case q6 => k_is
      case q7 => k_is
      clear hA
      intro x9 s9 hA
    · refine h _ _ ?_
      rw [plnPow, if_pos (by omega)]
      exact At.to' hA (by k_extra "m sub") (by k_extra "m facts")
    · show wpAny _ _ _ _ _ _
      have e8 : (plnPow p ms ((k + 2) / 2) (plnMul p ns ns ms)).length = ms.length := plnPow_length _ _ h8 _ _ (plnMul_length _ _ _ _ h8)
      k_extra "wk"
      refine d_P_mul W T (hK9.mono (by omega)) hA hp0 hp1 (by k_extra "m mem") (by k_extra "m mem") e8 h5 h6 h8 hb ?_
      clear hA
      intro x9 s9 hA
      refine h _ _ ?_
      rw [plnPow, if_neg (by omega)]
      exact At.to' hA (by k_extra "m sub") (by k_extra "m facts")

end

section
local macro_rules | `(tactic| walk_at "call ref") => `(tactic| ((with_reducible rename At _ _ _ _ => $(Lean.mkIdent `hA):ident); refine r_use ?_; refine' s_FQ ?W ?hk $(Lean.mkIdent `hA):ident ?hp ?_; (case W => assumption); (case hk => k_extra "m ok"); (case hp => assumption); clear $(Lean.mkIdent `hA):ident; intro $(Lean.mkIdent `x9):ident $(Lean.mkIdent `s9):ident $(Lean.mkIdent `hA):ident))
local macro_rules | `(tactic| walk_at "call ref") => `(tactic| ((with_reducible rename At _ _ _ _ => $(Lean.mkIdent `hA):ident); refine r_use ?_; refine' s_FQ_made ?W ?hk $(Lean.mkIdent `hA):ident ?hm ?hp ?_; (case W => assumption); (case hk => k_extra "m ok"); (case hm => k_extra "m mem"); (case hp => assumption); clear $(Lean.mkIdent `hA):ident; intro $(Lean.mkIdent `x9):ident $(Lean.mkIdent `s9):ident $(Lean.mkIdent `hA):ident))
local macro_rules | `(tactic| walk_at "binaryOp Add ref ref") => `(tactic| ((with_reducible rename At _ _ _ _ => $(Lean.mkIdent `hA):ident); refine' d_FQ_add ?W ?hk $(Lean.mkIdent `hA):ident ?hm ?hm2 ?hp  ?_; (case W => assumption); (case hk => k_extra "m ok"); (case hm => k_extra "m mem"); (case hm2 => k_extra "m mem"); (case hp => assumption);  clear $(Lean.mkIdent `hA):ident; intro $(Lean.mkIdent `x9):ident $(Lean.mkIdent `s9):ident $(Lean.mkIdent `hA):ident))
local macro_rules | `(tactic| walk_at "inplaceOp Add ref ref") => `(tactic| ((with_reducible rename At _ _ _ _ => $(Lean.mkIdent `hA):ident); refine' i_FQ_add ?W ?hk $(Lean.mkIdent `hA):ident ?hm ?hm2 ?hp ?_; (case W => assumption); (case hk => k_extra "m ok"); (case hm => k_extra "m mem"); (case hm2 => k_extra "m mem"); (case hp => assumption); clear $(Lean.mkIdent `hA):ident; intro $(Lean.mkIdent `x9):ident $(Lean.mkIdent `s9):ident $(Lean.mkIdent `hA):ident))
local macro_rules | `(tactic| walk_at "binaryOp Sub ref ref") => `(tactic| ((with_reducible rename At _ _ _ _ => $(Lean.mkIdent `hA):ident); refine' d_FQ_sub ?W ?hk $(Lean.mkIdent `hA):ident ?hm ?hm2 ?hp  ?_; (case W => assumption); (case hk => k_extra "m ok"); (case hm => k_extra "m mem"); (case hm2 => k_extra "m mem"); (case hp => assumption);  clear $(Lean.mkIdent `hA):ident; intro $(Lean.mkIdent `x9):ident $(Lean.mkIdent `s9):ident $(Lean.mkIdent `hA):ident))
local macro_rules | `(tactic| walk_at "inplaceOp Sub ref ref") => `(tactic| ((with_reducible rename At _ _ _ _ => $(Lean.mkIdent `hA):ident); refine' i_FQ_sub ?W ?hk $(Lean.mkIdent `hA):ident ?hm ?hm2 ?hp ?_; (case W => assumption); (case hk => k_extra "m ok"); (case hm => k_extra "m mem"); (case hm2 => k_extra "m mem"); (case hp => assumption); clear $(Lean.mkIdent `hA):ident; intro $(Lean.mkIdent `x9):ident $(Lean.mkIdent `s9):ident $(Lean.mkIdent `hA):ident))
local macro_rules | `(tactic| walk_at "binaryOp Mult ref ref") => `(tactic| ((with_reducible rename At _ _ _ _ => $(Lean.mkIdent `hA):ident); refine' d_FQ_mul ?W ?hk $(Lean.mkIdent `hA):ident ?hm ?hm2 ?hp ?hj ?_; (case W => assumption); (case hk => k_extra "m ok"); (case hm => k_extra "m mem"); (case hm2 => k_extra "m mem"); (case hp => assumption); (case hj => k_extra "m mulok"); clear $(Lean.mkIdent `hA):ident; intro $(Lean.mkIdent `x9):ident $(Lean.mkIdent `s9):ident $(Lean.mkIdent `hA):ident))
local macro_rules | `(tactic| walk_at "unaryOp USub ref") => `(tactic| ((with_reducible rename At _ _ _ _ => $(Lean.mkIdent `hA):ident); refine' d_FQ_neg ?W ?hk $(Lean.mkIdent `hA):ident ?hm ?hp ?_; (case W => assumption); (case hk => k_extra "m ok"); (case hm => k_extra "m mem"); (case hp => assumption); clear $(Lean.mkIdent `hA):ident; intro $(Lean.mkIdent `x9):ident $(Lean.mkIdent `s9):ident $(Lean.mkIdent `hA):ident))
local macro_rules | `(tactic| walk_at "call ref") => `(tactic| ((with_reducible rename At _ _ _ _ => $(Lean.mkIdent `hA):ident); refine r_use ?_; refine' s_FQs ?W ?hk $(Lean.mkIdent `hA):ident ?hp ?hm ?_; (case W => assumption); (case hk => k_extra "m ok"); (case hp => assumption); (case hm => k_extra "m mem"); clear $(Lean.mkIdent `hA):ident; intro $(Lean.mkIdent `x9):ident $(Lean.mkIdent `s9):ident $(Lean.mkIdent `hA):ident))
local macro_rules | `(tactic| walk_at "call ref") => `(tactic| ((with_reducible rename At _ _ _ _ => $(Lean.mkIdent `hA):ident); refine r_use ?_; refine' s_P_corr0 ?W ?hk $(Lean.mkIdent `hA):ident ?hp ?hx ?hd ?hmp ?hm ?_; (case W => assumption); (case hk => k_extra "m ok"); (case hp => assumption); (case hx => k_extra "m mem"); (case hd => k_extra "m mem"); (case hmp => exact rfl); (case hm => k_extra "m mem"); clear $(Lean.mkIdent `hA):ident; intro $(Lean.mkIdent `x9):ident $(Lean.mkIdent `s9):ident $(Lean.mkIdent `hA):ident))
local macro_rules | `(tactic| walk_at "call ref") => `(tactic| ((with_reducible rename At _ _ _ _ => $(Lean.mkIdent `hA):ident); refine r_use ?_; refine' s_P ?W ?T ?hk $(Lean.mkIdent `hA):ident ?hp ?h1 ?h2 ?h3 ?h4 ?h5 ?h6 ?_; (case W => assumption); (case T => assumption); (case hk => k_extra "m ok"); (case hp => assumption); (case h2 => k_extra "m mem"); (case h1 => k_extra "m seq"); (case h4 => assumption); (case h3 => k_extra "m seq"); (case h5 => k_extra "m lens"); (case h6 => k_extra "m lens"); clear $(Lean.mkIdent `hA):ident; intro $(Lean.mkIdent `x9):ident $(Lean.mkIdent `s9):ident $(Lean.mkIdent `hA):ident))
variable {prog : Program} {w : World} {A : Around} {E : Value → Shared → Prop} {D : Dat} {Fs : List Fact} {R : List Res} {s : Shared} {Q : Value → Shared → Prop}
set_option maxHeartbeats 4000000 in
set_option maxRecDepth 100000 in
theorem s_O {lc lm : Addr} {vs us : List Value} {ns ms : List Int} {p : Int} {t2 : Tok} (W : Wd (hd.heap_39 w.params) D) (T : ∀ t ∈ WT, t ∈ D.tabs) (hk : Ok A 20) (H : At D Fs R s) (hp : p ≠ 0) (h1 : ListF lc vs ∈ Fs) (h2 : IntsAre vs ns) (h3 : IsSeq Fs lm us) (h4 : IntsAre us ms) (h5 : vs.length = us.length) (h6 : us.length < 1000) (h8 : 0 < us.length)
    (h : ∀ x s', At D (OptF 161 x p (ns.map fun k => k.fmod p) ms :: Fs) R s' → Q (.ref x) s') : codeAny (model prog w) A (.call (.ref 161) ⟨[.ref lc, .ref lm, .int p t2], []⟩) (Ret Q) s := by
  refine' r_new W H ?h1 ?h2 ?h3 ?_
  case h1 => k_is
  case h2 => k_is
  case h3 => k_is
  have H0 := H
  clear H
  intro x dx s H
  clear H0
  refine' v_callc [("coeffs", .ref lc), ("modulus_coeffs", .ref lm), ("field_modulus", .int p t2)] (fun L => [(L + 1, .ref x)]) (fun L => []) ?W H hk.ty ?ho ?hcd ?hb ?hl ?hm ?hcm ?hum ?hnd ?hud ?_ ?c2 ?c3 ?c4
  k_extra "m enterc"
  clear H
  repeat' walk1
  refine' r_mapK (prG ms) (hN9 D.ng) ⟨_, _, _, rfl⟩ hK9.handled hA ?g1 (by decide) rfl prG.zero (fun _ _ _ q => q.len (by rw [← h4.length]; omega)) ?step ?done
  case g1 => k_extra "m mem"
  case step =>
    clear hA
    intro C acc i ys Gs v F s hi hG hV H
    obtain ⟨T', vals, rfl, ⟨t, c', hx, rfl⟩, rfl⟩ := hV
    obtain ⟨c, tc, rfl, hc⟩ := h4.at i c' (by simpa using hx)
    have H1 : At D (TupF T' [.int i t, .int c tc] :: (Gs ++ _)) _ s := H
    have hA := hG.fact H1 (fun F hF => .tail _ (List.mem_append_left _ hF))
    clear H H1
    k_extra "wk"
    · refine' hG.holdT hc (by assumption) hA ?u1 ?u2 ?u3
      case u1 => k_extra "m mem"
      case u2 => k_extra "m mem"
      case u3 => (intro F hF; repeat (first | exact List.mem_append_right _ hF | refine List.mem_cons_of_mem _ ?_))
    · rename_i c0
      subst c0
      refine' hG.holdS hc hA ?u1 ?u3
      case u1 => k_extra "m mem"
      case u3 => (intro F hF; repeat (first | exact List.mem_append_right _ hF | refine List.mem_cons_of_mem _ ?_))
  case done =>
    clear hA
    intro C acc ys Gs s hG _ s H
    have hA := hG.done H h4.length.symm
    clear H
    have e7 := h2.length
    have e6 : 0 < ns.length := by omega
    k_extra "wk"
    · exact absurd h5 (by omega)
    have W2 : ∀ m, Wd (hd.heap_39 w.params) (D.withNg m) := fun m => W.ng
    refine' r_GenK (t := ⟨51, 49, #[]⟩) W hA (T _ (by simp [WT])) rfl rfl ?_
    have hNN := hN9 false
    clear hA hN9
    intro a g C code s hge hA hgen
    k_extra "wk"
    have W3 := W2 (g + 1)
    replace hA := hA.to (.cons (.vars .nil) .head (Sub.refl _))
    have el : (ns.map fun k => k.fmod p).length = vs.length := by simp; omega
    refine' r_tupgen (k := 13) (G := inG (ns.map fun k => k.fmod p)) W3 hK9 ?g1 (Nat.le_refl _) (hNN _) ?g2 rfl ?g3 hA inG.zero hgen ?g4 ?_
    case g1 => k_extra "m mem"
    case g2 => k_extra "m mem"
    case g3 => exact fun _ _ _ q => q.len (by omega)
    case g4 =>
      clear hA hgen
      intro S A' i acc Gs v F s hA' hi hG hV H
      have hG' := hG
      obtain ⟨_, _, rfl⟩ := hG'
      obtain ⟨hv, rfl⟩ := hV
      obtain ⟨n, t, rfl, hn⟩ := h2.at i v hv
      have hA := H
      clear H
      rw [List.nil_append] at hA
      k_extra "wk"
      exact hG.hold (by rw [List.getElem?_map, hn]; rfl) hA (by k_extra "m facts")
    clear hA hgen
    rintro tC acc2 Gs2 s hG2 H
    have hi2 := hG2.done (by omega)
    obtain ⟨_, _, rfl⟩ := hG2
    have hA := (H.ofNg (D := D) (Nat.le_succ_of_le hge)).nil1 rfl
    clear H
    k_extra "wk"
    have hB := At.fzL hA .head
    refine h _ _ (At.to' (At.mkOpt hB (by k_extra "m mem") (by k_extra "m rm") (tC := tC) (vs := acc2) (tM := y9) (us := us) (lw := acc) (ws := ys) (by k_extra "m mem") hi2 (by k_extra "m mem") h4 (by k_extra "m mem") (by k_extra "m mem") ⟨_, by k_extra "m look"⟩ (by k_extra "m look") (by k_extra "m look") ⟨_, by rw [← h4.length]; k_extra "m look"⟩ (by k_extra "m look") (by k_extra "m nolook")) (by k_extra "m sub") (by k_extra "m facts"))
local macro_rules | `(tactic| walk_at "call ref") => `(tactic| ((with_reducible rename At _ _ _ _ => $(Lean.mkIdent `hA):ident); refine r_use ?_; refine' s_O ?W ?T ?hk $(Lean.mkIdent `hA):ident ?hp ?h1 ?h2 ?h3 ?h4 ?h5 ?h6 ?h8 ?_; (case W => assumption); (case T => assumption); (case hk => k_extra "m ok"); (case hp => assumption); (case h1 => k_extra "m mem"); (case h2 => k_extra "m ints"); (case h4 => assumption); (case h3 => k_extra "m seq"); (case h5 => k_extra "m lens"); (case h6 => k_extra "m lens"); (case h8 => k_extra "m lens"); clear $(Lean.mkIdent `hA):ident; intro $(Lean.mkIdent `x9):ident $(Lean.mkIdent `s9):ident $(Lean.mkIdent `hA):ident))

end

section
local macro_rules | `(tactic| walk_at "call ref") => `(tactic| ((with_reducible rename At _ _ _ _ => $(Lean.mkIdent `hA):ident); refine r_use ?_; refine' s_FQ ?W ?hk $(Lean.mkIdent `hA):ident ?hp ?_; (case W => assumption); (case hk => k_extra "m ok"); (case hp => assumption); clear $(Lean.mkIdent `hA):ident; intro $(Lean.mkIdent `x9):ident $(Lean.mkIdent `s9):ident $(Lean.mkIdent `hA):ident))
local macro_rules | `(tactic| walk_at "call ref") => `(tactic| ((with_reducible rename At _ _ _ _ => $(Lean.mkIdent `hA):ident); refine r_use ?_; refine' s_FQ_made ?W ?hk $(Lean.mkIdent `hA):ident ?hm ?hp ?_; (case W => assumption); (case hk => k_extra "m ok"); (case hm => k_extra "m mem"); (case hp => assumption); clear $(Lean.mkIdent `hA):ident; intro $(Lean.mkIdent `x9):ident $(Lean.mkIdent `s9):ident $(Lean.mkIdent `hA):ident))
local macro_rules | `(tactic| walk_at "binaryOp Add ref ref") => `(tactic| ((with_reducible rename At _ _ _ _ => $(Lean.mkIdent `hA):ident); refine' d_FQ_add ?W ?hk $(Lean.mkIdent `hA):ident ?hm ?hm2 ?hp  ?_; (case W => assumption); (case hk => k_extra "m ok"); (case hm => k_extra "m mem"); (case hm2 => k_extra "m mem"); (case hp => assumption);  clear $(Lean.mkIdent `hA):ident; intro $(Lean.mkIdent `x9):ident $(Lean.mkIdent `s9):ident $(Lean.mkIdent `hA):ident))
local macro_rules | `(tactic| walk_at "inplaceOp Add ref ref") => `(tactic| ((with_reducible rename At _ _ _ _ => $(Lean.mkIdent `hA):ident); refine' i_FQ_add ?W ?hk $(Lean.mkIdent `hA):ident ?hm ?hm2 ?hp ?_; (case W => assumption); (case hk => k_extra "m ok"); (case hm => k_extra "m mem"); (case hm2 => k_extra "m mem"); (case hp => assumption); clear $(Lean.mkIdent `hA):ident; intro $(Lean.mkIdent `x9):ident $(Lean.mkIdent `s9):ident $(Lean.mkIdent `hA):ident))
local macro_rules | `(tactic| walk_at "binaryOp Sub ref ref") => `(tactic| ((with_reducible rename At _ _ _ _ => $(Lean.mkIdent `hA):ident); refine' d_FQ_sub ?W ?hk $(Lean.mkIdent `hA):ident ?hm ?hm2 ?hp  ?_; (case W => assumption); (case hk => k_extra "m ok"); (case hm => k_extra "m mem"); (case hm2 => k_extra "m mem"); (case hp => assumption);  clear $(Lean.mkIdent `hA):ident; intro $(Lean.mkIdent `x9):ident $(Lean.mkIdent `s9):ident $(Lean.mkIdent `hA):ident))
local macro_rules | `(tactic| walk_at "inplaceOp Sub ref ref") => `(tactic| ((with_reducible rename At _ _ _ _ => $(Lean.mkIdent `hA):ident); refine' i_FQ_sub ?W ?hk $(Lean.mkIdent `hA):ident ?hm ?hm2 ?hp ?_; (case W => assumption); (case hk => k_extra "m ok"); (case hm => k_extra "m mem"); (case hm2 => k_extra "m mem"); (case hp => assumption); clear $(Lean.mkIdent `hA):ident; intro $(Lean.mkIdent `x9):ident $(Lean.mkIdent `s9):ident $(Lean.mkIdent `hA):ident))
local macro_rules | `(tactic| walk_at "binaryOp Mult ref ref") => `(tactic| ((with_reducible rename At _ _ _ _ => $(Lean.mkIdent `hA):ident); refine' d_FQ_mul ?W ?hk $(Lean.mkIdent `hA):ident ?hm ?hm2 ?hp ?hj ?_; (case W => assumption); (case hk => k_extra "m ok"); (case hm => k_extra "m mem"); (case hm2 => k_extra "m mem"); (case hp => assumption); (case hj => k_extra "m mulok"); clear $(Lean.mkIdent `hA):ident; intro $(Lean.mkIdent `x9):ident $(Lean.mkIdent `s9):ident $(Lean.mkIdent `hA):ident))
local macro_rules | `(tactic| walk_at "unaryOp USub ref") => `(tactic| ((with_reducible rename At _ _ _ _ => $(Lean.mkIdent `hA):ident); refine' d_FQ_neg ?W ?hk $(Lean.mkIdent `hA):ident ?hm ?hp ?_; (case W => assumption); (case hk => k_extra "m ok"); (case hm => k_extra "m mem"); (case hp => assumption); clear $(Lean.mkIdent `hA):ident; intro $(Lean.mkIdent `x9):ident $(Lean.mkIdent `s9):ident $(Lean.mkIdent `hA):ident))
local macro_rules | `(tactic| walk_at "call ref") => `(tactic| ((with_reducible rename At _ _ _ _ => $(Lean.mkIdent `hA):ident); refine r_use ?_; refine' s_FQs ?W ?hk $(Lean.mkIdent `hA):ident ?hp ?hm ?_; (case W => assumption); (case hk => k_extra "m ok"); (case hp => assumption); (case hm => k_extra "m mem"); clear $(Lean.mkIdent `hA):ident; intro $(Lean.mkIdent `x9):ident $(Lean.mkIdent `s9):ident $(Lean.mkIdent `hA):ident))
local macro_rules | `(tactic| walk_at "call ref") => `(tactic| ((with_reducible rename At _ _ _ _ => $(Lean.mkIdent `hA):ident); refine r_use ?_; refine' s_P_corr0 ?W ?hk $(Lean.mkIdent `hA):ident ?hp ?hx ?hd ?hmp ?hm ?_; (case W => assumption); (case hk => k_extra "m ok"); (case hp => assumption); (case hx => k_extra "m mem"); (case hd => k_extra "m mem"); (case hmp => exact rfl); (case hm => k_extra "m mem"); clear $(Lean.mkIdent `hA):ident; intro $(Lean.mkIdent `x9):ident $(Lean.mkIdent `s9):ident $(Lean.mkIdent `hA):ident))
local macro_rules | `(tactic| walk_at "call ref") => `(tactic| ((with_reducible rename At _ _ _ _ => $(Lean.mkIdent `hA):ident); refine r_use ?_; refine' s_P ?W ?T ?hk $(Lean.mkIdent `hA):ident ?hp ?h1 ?h2 ?h3 ?h4 ?h5 ?h6 ?_; (case W => assumption); (case T => assumption); (case hk => k_extra "m ok"); (case hp => assumption); (case h2 => k_extra "m mem"); (case h1 => k_extra "m seq"); (case h4 => assumption); (case h3 => k_extra "m seq"); (case h5 => k_extra "m lens"); (case h6 => k_extra "m lens"); clear $(Lean.mkIdent `hA):ident; intro $(Lean.mkIdent `x9):ident $(Lean.mkIdent `s9):ident $(Lean.mkIdent `hA):ident))
local macro_rules | `(tactic| walk_at "call ref") => `(tactic| ((with_reducible rename At _ _ _ _ => $(Lean.mkIdent `hA):ident); refine r_use ?_; refine' s_O ?W ?T ?hk $(Lean.mkIdent `hA):ident ?hp ?h1 ?h2 ?h3 ?h4 ?h5 ?h6 ?h8 ?_; (case W => assumption); (case T => assumption); (case hk => k_extra "m ok"); (case hp => assumption); (case h1 => k_extra "m mem"); (case h2 => k_extra "m ints"); (case h4 => assumption); (case h3 => k_extra "m seq"); (case h5 => k_extra "m lens"); (case h6 => k_extra "m lens"); (case h8 => k_extra "m lens"); clear $(Lean.mkIdent `hA):ident; intro $(Lean.mkIdent `x9):ident $(Lean.mkIdent `s9):ident $(Lean.mkIdent `hA):ident))
variable {prog : Program} {w : World} {A : Around} {E : Value → Shared → Prop} {D : Dat} {Fs : List Fact} {R : List Res} {s : Shared} {Q : Value → Shared → Prop}
set_option maxHeartbeats 4000000 in
set_option maxRecDepth 100000 in
theorem s_F {lc lm : Addr} {vs us : List Value} {ns ms : List Int} {p : Int} {t2 : Tok} (W : Wd (hd.heap_39 w.params) D) (T : ∀ t ∈ WT, t ∈ D.tabs) (hk : Ok A 20) (H : At D Fs R s) (hp : p ≠ 0) (h1 : ListF lc vs ∈ Fs) (h2 : IntsAre vs ns) (h3 : IsSeq Fs lm us) (h4 : IntsAre us ms) (h5 : vs.length = us.length) (h6 : us.length < 1000) (h8 : 0 < us.length)
    (h : ∀ x s', At D (OptF 190 x p (ns.map fun k => k.fmod p) ms :: Fs) R s' → Q (.ref x) s') : codeAny (model prog w) A (.call (.ref 190) ⟨[.ref lc, .ref lm, .int p t2], []⟩) (Ret Q) s := by
  refine' r_new W H ?h1 ?h2 ?h3 ?_
  case h1 => k_is
  case h2 => k_is
  case h3 => k_is
  have H0 := H
  clear H
  intro x dx s H
  clear H0
  refine' v_callc [("coeffs", .ref lc), ("modulus_coeffs", .ref lm), ("field_modulus", .int p t2)] (fun L => [(L + 1, .ref x)]) (fun L => []) ?W H hk.ty ?ho ?hcd ?hb ?hl ?hm ?hcm ?hum ?hnd ?hud ?_ ?c2 ?c3 ?c4
  k_extra "m enterc"
  clear H
  repeat' walk1
  refine' r_mapK (prG ms) (hN9 D.ng) ⟨_, _, _, rfl⟩ hK9.handled hA ?g1 (by decide) rfl prG.zero (fun _ _ _ q => q.len (by rw [← h4.length]; omega)) ?step ?done
  case g1 => k_extra "m mem"
  case step =>
    clear hA
    intro C acc i ys Gs v F s hi hG hV H
    obtain ⟨T', vals, rfl, ⟨t, c', hx, rfl⟩, rfl⟩ := hV
    obtain ⟨c, tc, rfl, hc⟩ := h4.at i c' (by simpa using hx)
    have H1 : At D (TupF T' [.int i t, .int c tc] :: (Gs ++ _)) _ s := H
    have hA := hG.fact H1 (fun F hF => .tail _ (List.mem_append_left _ hF))
    clear H H1
    k_extra "wk"
    · refine' hG.holdT hc (by assumption) hA ?u1 ?u2 ?u3
      case u1 => k_extra "m mem"
      case u2 => k_extra "m mem"
      case u3 => (intro F hF; repeat (first | exact List.mem_append_right _ hF | refine List.mem_cons_of_mem _ ?_))
    · rename_i c0
      subst c0
      refine' hG.holdS hc hA ?u1 ?u3
      case u1 => k_extra "m mem"
      case u3 => (intro F hF; repeat (first | exact List.mem_append_right _ hF | refine List.mem_cons_of_mem _ ?_))
  case done =>
    clear hA
    intro C acc ys Gs s hG _ s H
    have hA := hG.done H h4.length.symm
    clear H
    have e7 := h2.length
    have e6 : 0 < ns.length := by omega
    k_extra "wk"
    · exact absurd h5 (by omega)
    have W2 : ∀ m, Wd (hd.heap_39 w.params) (D.withNg m) := fun m => W.ng
    refine' r_GenK (t := ⟨51, 49, #[]⟩) W hA (T _ (by simp [WT])) rfl rfl ?_
    have hNN := hN9 false
    clear hA hN9
    intro a g C code s hge hA hgen
    k_extra "wk"
    have W3 := W2 (g + 1)
    replace hA := hA.to (.cons (.vars .nil) .head (Sub.refl _))
    have el : (ns.map fun k => k.fmod p).length = vs.length := by simp; omega
    refine' r_tupgen (k := 13) (G := inG (ns.map fun k => k.fmod p)) W3 hK9 ?g1 (Nat.le_refl _) (hNN _) ?g2 rfl ?g3 hA inG.zero hgen ?g4 ?_
    case g1 => k_extra "m mem"
    case g2 => k_extra "m mem"
    case g3 => exact fun _ _ _ q => q.len (by omega)
    case g4 =>
      clear hA hgen
      intro S A' i acc Gs v F s hA' hi hG hV H
      have hG' := hG
      obtain ⟨_, _, rfl⟩ := hG'
      obtain ⟨hv, rfl⟩ := hV
      obtain ⟨n, t, rfl, hn⟩ := h2.at i v hv
      have hA := H
      clear H
      rw [List.nil_append] at hA
      k_extra "wk"
      exact hG.hold (by rw [List.getElem?_map, hn]; rfl) hA (by k_extra "m facts")
    clear hA hgen
    rintro tC acc2 Gs2 s hG2 H
    have hi2 := hG2.done (by omega)
    obtain ⟨_, _, rfl⟩ := hG2
    have hA := (H.ofNg (D := D) (Nat.le_succ_of_le hge)).nil1 rfl
    clear H
    k_extra "wk"
    have hB := At.fzL hA .head
    refine h _ _ (At.to' (At.mkOpt hB (by k_extra "m mem") (by k_extra "m rm") (tC := tC) (vs := acc2) (tM := y9) (us := us) (lw := acc) (ws := ys) (by k_extra "m mem") hi2 (by k_extra "m mem") h4 (by k_extra "m mem") (by k_extra "m mem") ⟨_, by k_extra "m look"⟩ (by k_extra "m look") (by k_extra "m look") ⟨_, by rw [← h4.length]; k_extra "m look"⟩ (by k_extra "m look") (by k_extra "m nolook")) (by k_extra "m sub") (by k_extra "m facts"))
local macro_rules | `(tactic| walk_at "call ref") => `(tactic| ((with_reducible rename At _ _ _ _ => $(Lean.mkIdent `hA):ident); refine r_use ?_; refine' s_F ?W ?T ?hk $(Lean.mkIdent `hA):ident ?hp ?h1 ?h2 ?h3 ?h4 ?h5 ?h6 ?h8 ?_; (case W => assumption); (case T => assumption); (case hk => k_extra "m ok"); (case hp => assumption); (case h1 => k_extra "m mem"); (case h2 => k_extra "m ints"); (case h4 => assumption); (case h3 => k_extra "m seq"); (case h5 => k_extra "m lens"); (case h6 => k_extra "m lens"); (case h8 => k_extra "m lens"); clear $(Lean.mkIdent `hA):ident; intro $(Lean.mkIdent `x9):ident $(Lean.mkIdent `s9):ident $(Lean.mkIdent `hA):ident))

end

section
local macro_rules | `(tactic| walk_at "call ref") => `(tactic| ((with_reducible rename At _ _ _ _ => $(Lean.mkIdent `hA):ident); refine r_use ?_; refine' s_FQ ?W ?hk $(Lean.mkIdent `hA):ident ?hp ?_; (case W => assumption); (case hk => k_extra "m ok"); (case hp => assumption); clear $(Lean.mkIdent `hA):ident; intro $(Lean.mkIdent `x9):ident $(Lean.mkIdent `s9):ident $(Lean.mkIdent `hA):ident))
local macro_rules | `(tactic| walk_at "call ref") => `(tactic| ((with_reducible rename At _ _ _ _ => $(Lean.mkIdent `hA):ident); refine r_use ?_; refine' s_FQ_made ?W ?hk $(Lean.mkIdent `hA):ident ?hm ?hp ?_; (case W => assumption); (case hk => k_extra "m ok"); (case hm => k_extra "m mem"); (case hp => assumption); clear $(Lean.mkIdent `hA):ident; intro $(Lean.mkIdent `x9):ident $(Lean.mkIdent `s9):ident $(Lean.mkIdent `hA):ident))
local macro_rules | `(tactic| walk_at "binaryOp Add ref ref") => `(tactic| ((with_reducible rename At _ _ _ _ => $(Lean.mkIdent `hA):ident); refine' d_FQ_add ?W ?hk $(Lean.mkIdent `hA):ident ?hm ?hm2 ?hp  ?_; (case W => assumption); (case hk => k_extra "m ok"); (case hm => k_extra "m mem"); (case hm2 => k_extra "m mem"); (case hp => assumption);  clear $(Lean.mkIdent `hA):ident; intro $(Lean.mkIdent `x9):ident $(Lean.mkIdent `s9):ident $(Lean.mkIdent `hA):ident))
local macro_rules | `(tactic| walk_at "inplaceOp Add ref ref") => `(tactic| ((with_reducible rename At _ _ _ _ => $(Lean.mkIdent `hA):ident); refine' i_FQ_add ?W ?hk $(Lean.mkIdent `hA):ident ?hm ?hm2 ?hp ?_; (case W => assumption); (case hk => k_extra "m ok"); (case hm => k_extra "m mem"); (case hm2 => k_extra "m mem"); (case hp => assumption); clear $(Lean.mkIdent `hA):ident; intro $(Lean.mkIdent `x9):ident $(Lean.mkIdent `s9):ident $(Lean.mkIdent `hA):ident))
local macro_rules | `(tactic| walk_at "binaryOp Sub ref ref") => `(tactic| ((with_reducible rename At _ _ _ _ => $(Lean.mkIdent `hA):ident); refine' d_FQ_sub ?W ?hk $(Lean.mkIdent `hA):ident ?hm ?hm2 ?hp  ?_; (case W => assumption); (case hk => k_extra "m ok"); (case hm => k_extra "m mem"); (case hm2 => k_extra "m mem"); (case hp => assumption);  clear $(Lean.mkIdent `hA):ident; intro $(Lean.mkIdent `x9):ident $(Lean.mkIdent `s9):ident $(Lean.mkIdent `hA):ident))
local macro_rules | `(tactic| walk_at "inplaceOp Sub ref ref") => `(tactic| ((with_reducible rename At _ _ _ _ => $(Lean.mkIdent `hA):ident); refine' i_FQ_sub ?W ?hk $(Lean.mkIdent `hA):ident ?hm ?hm2 ?hp ?_; (case W => assumption); (case hk => k_extra "m ok"); (case hm => k_extra "m mem"); (case hm2 => k_extra "m mem"); (case hp => assumption); clear $(Lean.mkIdent `hA):ident; intro $(Lean.mkIdent `x9):ident $(Lean.mkIdent `s9):ident $(Lean.mkIdent `hA):ident))
local macro_rules | `(tactic| walk_at "binaryOp Mult ref ref") => `(tactic| ((with_reducible rename At _ _ _ _ => $(Lean.mkIdent `hA):ident); refine' d_FQ_mul ?W ?hk $(Lean.mkIdent `hA):ident ?hm ?hm2 ?hp ?hj ?_; (case W => assumption); (case hk => k_extra "m ok"); (case hm => k_extra "m mem"); (case hm2 => k_extra "m mem"); (case hp => assumption); (case hj => k_extra "m mulok"); clear $(Lean.mkIdent `hA):ident; intro $(Lean.mkIdent `x9):ident $(Lean.mkIdent `s9):ident $(Lean.mkIdent `hA):ident))
local macro_rules | `(tactic| walk_at "unaryOp USub ref") => `(tactic| ((with_reducible rename At _ _ _ _ => $(Lean.mkIdent `hA):ident); refine' d_FQ_neg ?W ?hk $(Lean.mkIdent `hA):ident ?hm ?hp ?_; (case W => assumption); (case hk => k_extra "m ok"); (case hm => k_extra "m mem"); (case hp => assumption); clear $(Lean.mkIdent `hA):ident; intro $(Lean.mkIdent `x9):ident $(Lean.mkIdent `s9):ident $(Lean.mkIdent `hA):ident))
local macro_rules | `(tactic| walk_at "call ref") => `(tactic| ((with_reducible rename At _ _ _ _ => $(Lean.mkIdent `hA):ident); refine r_use ?_; refine' s_FQs ?W ?hk $(Lean.mkIdent `hA):ident ?hp ?hm ?_; (case W => assumption); (case hk => k_extra "m ok"); (case hp => assumption); (case hm => k_extra "m mem"); clear $(Lean.mkIdent `hA):ident; intro $(Lean.mkIdent `x9):ident $(Lean.mkIdent `s9):ident $(Lean.mkIdent `hA):ident))
local macro_rules | `(tactic| walk_at "call ref") => `(tactic| ((with_reducible rename At _ _ _ _ => $(Lean.mkIdent `hA):ident); refine r_use ?_; refine' s_P_corr0 ?W ?hk $(Lean.mkIdent `hA):ident ?hp ?hx ?hd ?hmp ?hm ?_; (case W => assumption); (case hk => k_extra "m ok"); (case hp => assumption); (case hx => k_extra "m mem"); (case hd => k_extra "m mem"); (case hmp => exact rfl); (case hm => k_extra "m mem"); clear $(Lean.mkIdent `hA):ident; intro $(Lean.mkIdent `x9):ident $(Lean.mkIdent `s9):ident $(Lean.mkIdent `hA):ident))
local macro_rules | `(tactic| walk_at "call ref") => `(tactic| ((with_reducible rename At _ _ _ _ => $(Lean.mkIdent `hA):ident); refine r_use ?_; refine' s_P ?W ?T ?hk $(Lean.mkIdent `hA):ident ?hp ?h1 ?h2 ?h3 ?h4 ?h5 ?h6 ?_; (case W => assumption); (case T => assumption); (case hk => k_extra "m ok"); (case hp => assumption); (case h2 => k_extra "m mem"); (case h1 => k_extra "m seq"); (case h4 => assumption); (case h3 => k_extra "m seq"); (case h5 => k_extra "m lens"); (case h6 => k_extra "m lens"); clear $(Lean.mkIdent `hA):ident; intro $(Lean.mkIdent `x9):ident $(Lean.mkIdent `s9):ident $(Lean.mkIdent `hA):ident))
local macro_rules | `(tactic| walk_at "call ref") => `(tactic| ((with_reducible rename At _ _ _ _ => $(Lean.mkIdent `hA):ident); refine r_use ?_; refine' s_P_made ?W ?T ?hk $(Lean.mkIdent `hA):ident ?hp ?hm ?h1 ?h2 ?h5 ?h6 ?_; (case W => assumption); (case T => assumption); (case hk => k_extra "m ok"); (case hp => assumption); (case hm => k_extra "m mem"); (case h2 => k_extra "m mem"); (case h1 => k_extra "m seq"); (case h5 => k_extra "m lens"); (case h6 => k_extra "m lens"); clear $(Lean.mkIdent `hA):ident; intro $(Lean.mkIdent `x9):ident $(Lean.mkIdent `s9):ident $(Lean.mkIdent `hA):ident))
local macro_rules | `(tactic| walk_at "call ref") => `(tactic| ((with_reducible rename At _ _ _ _ => $(Lean.mkIdent `hA):ident); refine r_use ?_; refine' s_O ?W ?T ?hk $(Lean.mkIdent `hA):ident ?hp ?h1 ?h2 ?h3 ?h4 ?h5 ?h6 ?h8 ?_; (case W => assumption); (case T => assumption); (case hk => k_extra "m ok"); (case hp => assumption); (case h1 => k_extra "m mem"); (case h2 => k_extra "m ints"); (case h4 => assumption); (case h3 => k_extra "m seq"); (case h5 => k_extra "m lens"); (case h6 => k_extra "m lens"); (case h8 => k_extra "m lens"); clear $(Lean.mkIdent `hA):ident; intro $(Lean.mkIdent `x9):ident $(Lean.mkIdent `s9):ident $(Lean.mkIdent `hA):ident))
variable {prog : Program} {w : World} {A : Around} {E : Value → Shared → Prop} {D : Dat} {Fs : List Fact} {R : List Res} {s : Shared} {Q : Value → Shared → Prop}
set_option maxHeartbeats 4000000 in
set_option maxRecDepth 100000 in
theorem s_O_made {x lc : Addr} {vs : List Value} {ns ns0 ms : List Int} {p : Int} (W : Wd (hd.heap_39 w.params) D) (T : ∀ t ∈ WT, t ∈ D.tabs) (hk : Ok A 22) (H : At D Fs R s) (hp : p ≠ 0) (hm : OptF 161 x p ns0 ms ∈ Fs) (h1 : ListF lc vs ∈ Fs) (h2 : IntsAre vs ns) (h5 : vs.length = ms.length) (h6 : ms.length < 1000) (h8 : 0 < ms.length)
    (h : ∀ x s', At D (OptF 161 x p (ns.map fun k => k.fmod p) ms :: Fs) R s' → Q (.ref x) s') : codeAny (model prog w) A (.call (.ref 59) ⟨[.ref x, .ref lc], []⟩) (Ret Q) s := by
  refine' v_call [("coeffs", .ref lc), ("self", .ref x)] ?W H hk ?ho ?hcd ?hb ?hl ?hm ?_ ?c1 ?c2 ?c3 ?c4
  k_extra "m enter"
  clear H
  repeat' walk1
  exact h _ _ (At.to' hA (by k_extra "m sub") (by k_extra "m facts"))
local macro_rules | `(tactic| walk_at "call ref") => `(tactic| ((with_reducible rename At _ _ _ _ => $(Lean.mkIdent `hA):ident); refine r_use ?_; refine' s_O_made ?W ?T ?hk $(Lean.mkIdent `hA):ident ?hp ?hm ?h1 ?h2 ?h5 ?h6 ?h8 ?_; (case W => assumption); (case T => assumption); (case hk => k_extra "m ok"); (case hp => assumption); (case hm => k_extra "m mem"); (case h1 => k_extra "m mem"); (case h2 => k_extra "m ints"); (case h5 => k_extra "m lens"); (case h6 => k_extra "m lens"); (case h8 => k_extra "m lens"); clear $(Lean.mkIdent `hA):ident; intro $(Lean.mkIdent `x9):ident $(Lean.mkIdent `s9):ident $(Lean.mkIdent `hA):ident))


end

section
local macro_rules | `(tactic| walk_at "call ref") => `(tactic| ((with_reducible rename At _ _ _ _ => $(Lean.mkIdent `hA):ident); refine r_use ?_; refine' s_FQ ?W ?hk $(Lean.mkIdent `hA):ident ?hp ?_; (case W => assumption); (case hk => k_extra "m ok"); (case hp => assumption); clear $(Lean.mkIdent `hA):ident; intro $(Lean.mkIdent `x9):ident $(Lean.mkIdent `s9):ident $(Lean.mkIdent `hA):ident))
local macro_rules | `(tactic| walk_at "call ref") => `(tactic| ((with_reducible rename At _ _ _ _ => $(Lean.mkIdent `hA):ident); refine r_use ?_; refine' s_FQ_made ?W ?hk $(Lean.mkIdent `hA):ident ?hm ?hp ?_; (case W => assumption); (case hk => k_extra "m ok"); (case hm => k_extra "m mem"); (case hp => assumption); clear $(Lean.mkIdent `hA):ident; intro $(Lean.mkIdent `x9):ident $(Lean.mkIdent `s9):ident $(Lean.mkIdent `hA):ident))
local macro_rules | `(tactic| walk_at "binaryOp Add ref ref") => `(tactic| ((with_reducible rename At _ _ _ _ => $(Lean.mkIdent `hA):ident); refine' d_FQ_add ?W ?hk $(Lean.mkIdent `hA):ident ?hm ?hm2 ?hp  ?_; (case W => assumption); (case hk => k_extra "m ok"); (case hm => k_extra "m mem"); (case hm2 => k_extra "m mem"); (case hp => assumption);  clear $(Lean.mkIdent `hA):ident; intro $(Lean.mkIdent `x9):ident $(Lean.mkIdent `s9):ident $(Lean.mkIdent `hA):ident))
local macro_rules | `(tactic| walk_at "inplaceOp Add ref ref") => `(tactic| ((with_reducible rename At _ _ _ _ => $(Lean.mkIdent `hA):ident); refine' i_FQ_add ?W ?hk $(Lean.mkIdent `hA):ident ?hm ?hm2 ?hp ?_; (case W => assumption); (case hk => k_extra "m ok"); (case hm => k_extra "m mem"); (case hm2 => k_extra "m mem"); (case hp => assumption); clear $(Lean.mkIdent `hA):ident; intro $(Lean.mkIdent `x9):ident $(Lean.mkIdent `s9):ident $(Lean.mkIdent `hA):ident))
local macro_rules | `(tactic| walk_at "binaryOp Sub ref ref") => `(tactic| ((with_reducible rename At _ _ _ _ => $(Lean.mkIdent `hA):ident); refine' d_FQ_sub ?W ?hk $(Lean.mkIdent `hA):ident ?hm ?hm2 ?hp  ?_; (case W => assumption); (case hk => k_extra "m ok"); (case hm => k_extra "m mem"); (case hm2 => k_extra "m mem"); (case hp => assumption);  clear $(Lean.mkIdent `hA):ident; intro $(Lean.mkIdent `x9):ident $(Lean.mkIdent `s9):ident $(Lean.mkIdent `hA):ident))
local macro_rules | `(tactic| walk_at "inplaceOp Sub ref ref") => `(tactic| ((with_reducible rename At _ _ _ _ => $(Lean.mkIdent `hA):ident); refine' i_FQ_sub ?W ?hk $(Lean.mkIdent `hA):ident ?hm ?hm2 ?hp ?_; (case W => assumption); (case hk => k_extra "m ok"); (case hm => k_extra "m mem"); (case hm2 => k_extra "m mem"); (case hp => assumption); clear $(Lean.mkIdent `hA):ident; intro $(Lean.mkIdent `x9):ident $(Lean.mkIdent `s9):ident $(Lean.mkIdent `hA):ident))
local macro_rules | `(tactic| walk_at "binaryOp Mult ref ref") => `(tactic| ((with_reducible rename At _ _ _ _ => $(Lean.mkIdent `hA):ident); refine' d_FQ_mul ?W ?hk $(Lean.mkIdent `hA):ident ?hm ?hm2 ?hp ?hj ?_; (case W => assumption); (case hk => k_extra "m ok"); (case hm => k_extra "m mem"); (case hm2 => k_extra "m mem"); (case hp => assumption); (case hj => k_extra "m mulok"); clear $(Lean.mkIdent `hA):ident; intro $(Lean.mkIdent `x9):ident $(Lean.mkIdent `s9):ident $(Lean.mkIdent `hA):ident))
local macro_rules | `(tactic| walk_at "unaryOp USub ref") => `(tactic| ((with_reducible rename At _ _ _ _ => $(Lean.mkIdent `hA):ident); refine' d_FQ_neg ?W ?hk $(Lean.mkIdent `hA):ident ?hm ?hp ?_; (case W => assumption); (case hk => k_extra "m ok"); (case hm => k_extra "m mem"); (case hp => assumption); clear $(Lean.mkIdent `hA):ident; intro $(Lean.mkIdent `x9):ident $(Lean.mkIdent `s9):ident $(Lean.mkIdent `hA):ident))
local macro_rules | `(tactic| walk_at "call ref") => `(tactic| ((with_reducible rename At _ _ _ _ => $(Lean.mkIdent `hA):ident); refine r_use ?_; refine' s_FQs ?W ?hk $(Lean.mkIdent `hA):ident ?hp ?hm ?_; (case W => assumption); (case hk => k_extra "m ok"); (case hp => assumption); (case hm => k_extra "m mem"); clear $(Lean.mkIdent `hA):ident; intro $(Lean.mkIdent `x9):ident $(Lean.mkIdent `s9):ident $(Lean.mkIdent `hA):ident))
local macro_rules | `(tactic| walk_at "call ref") => `(tactic| ((with_reducible rename At _ _ _ _ => $(Lean.mkIdent `hA):ident); refine r_use ?_; refine' s_P_corr0 ?W ?hk $(Lean.mkIdent `hA):ident ?hp ?hx ?hd ?hmp ?hm ?_; (case W => assumption); (case hk => k_extra "m ok"); (case hp => assumption); (case hx => k_extra "m mem"); (case hd => k_extra "m mem"); (case hmp => exact rfl); (case hm => k_extra "m mem"); clear $(Lean.mkIdent `hA):ident; intro $(Lean.mkIdent `x9):ident $(Lean.mkIdent `s9):ident $(Lean.mkIdent `hA):ident))
local macro_rules | `(tactic| walk_at "call ref") => `(tactic| ((with_reducible rename At _ _ _ _ => $(Lean.mkIdent `hA):ident); refine r_use ?_; refine' s_P ?W ?T ?hk $(Lean.mkIdent `hA):ident ?hp ?h1 ?h2 ?h3 ?h4 ?h5 ?h6 ?_; (case W => assumption); (case T => assumption); (case hk => k_extra "m ok"); (case hp => assumption); (case h2 => k_extra "m mem"); (case h1 => k_extra "m seq"); (case h4 => assumption); (case h3 => k_extra "m seq"); (case h5 => k_extra "m lens"); (case h6 => k_extra "m lens"); clear $(Lean.mkIdent `hA):ident; intro $(Lean.mkIdent `x9):ident $(Lean.mkIdent `s9):ident $(Lean.mkIdent `hA):ident))
local macro_rules | `(tactic| walk_at "call ref") => `(tactic| ((with_reducible rename At _ _ _ _ => $(Lean.mkIdent `hA):ident); refine r_use ?_; refine' s_P_made ?W ?T ?hk $(Lean.mkIdent `hA):ident ?hp ?hm ?h1 ?h2 ?h5 ?h6 ?_; (case W => assumption); (case T => assumption); (case hk => k_extra "m ok"); (case hp => assumption); (case hm => k_extra "m mem"); (case h2 => k_extra "m mem"); (case h1 => k_extra "m seq"); (case h5 => k_extra "m lens"); (case h6 => k_extra "m lens"); clear $(Lean.mkIdent `hA):ident; intro $(Lean.mkIdent `x9):ident $(Lean.mkIdent `s9):ident $(Lean.mkIdent `hA):ident))
local macro_rules | `(tactic| walk_at "call ref") => `(tactic| ((with_reducible rename At _ _ _ _ => $(Lean.mkIdent `hA):ident); refine r_use ?_; refine' s_O ?W ?T ?hk $(Lean.mkIdent `hA):ident ?hp ?h1 ?h2 ?h3 ?h4 ?h5 ?h6 ?h8 ?_; (case W => assumption); (case T => assumption); (case hk => k_extra "m ok"); (case hp => assumption); (case h1 => k_extra "m mem"); (case h2 => k_extra "m ints"); (case h4 => assumption); (case h3 => k_extra "m seq"); (case h5 => k_extra "m lens"); (case h6 => k_extra "m lens"); (case h8 => k_extra "m lens"); clear $(Lean.mkIdent `hA):ident; intro $(Lean.mkIdent `x9):ident $(Lean.mkIdent `s9):ident $(Lean.mkIdent `hA):ident))
local macro_rules | `(tactic| walk_at "call ref") => `(tactic| ((with_reducible rename At _ _ _ _ => $(Lean.mkIdent `hA):ident); refine r_use ?_; refine' s_O_made ?W ?T ?hk $(Lean.mkIdent `hA):ident ?hp ?hm ?h1 ?h2 ?h5 ?h6 ?h8 ?_; (case W => assumption); (case T => assumption); (case hk => k_extra "m ok"); (case hp => assumption); (case hm => k_extra "m mem"); (case h1 => k_extra "m mem"); (case h2 => k_extra "m ints"); (case h5 => k_extra "m lens"); (case h6 => k_extra "m lens"); (case h8 => k_extra "m lens"); clear $(Lean.mkIdent `hA):ident; intro $(Lean.mkIdent `x9):ident $(Lean.mkIdent `s9):ident $(Lean.mkIdent `hA):ident))
local macro_rules | `(tactic| walk_at "call ref") => `(tactic| ((with_reducible rename At _ _ _ _ => $(Lean.mkIdent `hA):ident); refine r_use ?_; refine' s_F ?W ?T ?hk $(Lean.mkIdent `hA):ident ?hp ?h1 ?h2 ?h3 ?h4 ?h5 ?h6 ?h8 ?_; (case W => assumption); (case T => assumption); (case hk => k_extra "m ok"); (case hp => assumption); (case h1 => k_extra "m mem"); (case h2 => k_extra "m ints"); (case h4 => assumption); (case h3 => k_extra "m seq"); (case h5 => k_extra "m lens"); (case h6 => k_extra "m lens"); (case h8 => k_extra "m lens"); clear $(Lean.mkIdent `hA):ident; intro $(Lean.mkIdent `x9):ident $(Lean.mkIdent `s9):ident $(Lean.mkIdent `hA):ident))
variable {prog : Program} {w : World} {A : Around} {E : Value → Shared → Prop} {D : Dat} {Fs : List Fact} {R : List Res} {s : Shared} {Q : Value → Shared → Prop}
set_option maxHeartbeats 4000000 in
set_option maxRecDepth 100000 in
theorem s_F_made {x lc : Addr} {vs : List Value} {ns ns0 ms : List Int} {p : Int} (W : Wd (hd.heap_39 w.params) D) (T : ∀ t ∈ WT, t ∈ D.tabs) (hk : Ok A 22) (H : At D Fs R s) (hp : p ≠ 0) (hm : OptF 190 x p ns0 ms ∈ Fs) (h1 : ListF lc vs ∈ Fs) (h2 : IntsAre vs ns) (h5 : vs.length = ms.length) (h6 : ms.length < 1000) (h8 : 0 < ms.length)
    (h : ∀ x s', At D (OptF 190 x p (ns.map fun k => k.fmod p) ms :: Fs) R s' → Q (.ref x) s') : codeAny (model prog w) A (.call (.ref 179) ⟨[.ref x, .ref lc], []⟩) (Ret Q) s := by
  refine' v_call [("coeffs", .ref lc), ("self", .ref x)] ?W H hk ?ho ?hcd ?hb ?hl ?hm ?_ ?c1 ?c2 ?c3 ?c4
  k_extra "m enter"
  clear H
  repeat' walk1
  exact h _ _ (At.to' hA (by k_extra "m sub") (by k_extra "m facts"))
local macro_rules | `(tactic| walk_at "call ref") => `(tactic| ((with_reducible rename At _ _ _ _ => $(Lean.mkIdent `hA):ident); refine r_use ?_; refine' s_F_made ?W ?T ?hk $(Lean.mkIdent `hA):ident ?hp ?hm ?h1 ?h2 ?h5 ?h6 ?h8 ?_; (case W => assumption); (case T => assumption); (case hk => k_extra "m ok"); (case hp => assumption); (case hm => k_extra "m mem"); (case h1 => k_extra "m mem"); (case h2 => k_extra "m ints"); (case h5 => k_extra "m lens"); (case h6 => k_extra "m lens"); (case h8 => k_extra "m lens"); clear $(Lean.mkIdent `hA):ident; intro $(Lean.mkIdent `x9):ident $(Lean.mkIdent `s9):ident $(Lean.mkIdent `hA):ident))


end

section
local macro_rules | `(tactic| walk_at "call ref") => `(tactic| ((with_reducible rename At _ _ _ _ => $(Lean.mkIdent `hA):ident); refine r_use ?_; refine' s_FQ ?W ?hk $(Lean.mkIdent `hA):ident ?hp ?_; (case W => assumption); (case hk => k_extra "m ok"); (case hp => assumption); clear $(Lean.mkIdent `hA):ident; intro $(Lean.mkIdent `x9):ident $(Lean.mkIdent `s9):ident $(Lean.mkIdent `hA):ident))
local macro_rules | `(tactic| walk_at "call ref") => `(tactic| ((with_reducible rename At _ _ _ _ => $(Lean.mkIdent `hA):ident); refine r_use ?_; refine' s_FQ_made ?W ?hk $(Lean.mkIdent `hA):ident ?hm ?hp ?_; (case W => assumption); (case hk => k_extra "m ok"); (case hm => k_extra "m mem"); (case hp => assumption); clear $(Lean.mkIdent `hA):ident; intro $(Lean.mkIdent `x9):ident $(Lean.mkIdent `s9):ident $(Lean.mkIdent `hA):ident))
local macro_rules | `(tactic| walk_at "binaryOp Add ref ref") => `(tactic| ((with_reducible rename At _ _ _ _ => $(Lean.mkIdent `hA):ident); refine' d_FQ_add ?W ?hk $(Lean.mkIdent `hA):ident ?hm ?hm2 ?hp  ?_; (case W => assumption); (case hk => k_extra "m ok"); (case hm => k_extra "m mem"); (case hm2 => k_extra "m mem"); (case hp => assumption);  clear $(Lean.mkIdent `hA):ident; intro $(Lean.mkIdent `x9):ident $(Lean.mkIdent `s9):ident $(Lean.mkIdent `hA):ident))
local macro_rules | `(tactic| walk_at "inplaceOp Add ref ref") => `(tactic| ((with_reducible rename At _ _ _ _ => $(Lean.mkIdent `hA):ident); refine' i_FQ_add ?W ?hk $(Lean.mkIdent `hA):ident ?hm ?hm2 ?hp ?_; (case W => assumption); (case hk => k_extra "m ok"); (case hm => k_extra "m mem"); (case hm2 => k_extra "m mem"); (case hp => assumption); clear $(Lean.mkIdent `hA):ident; intro $(Lean.mkIdent `x9):ident $(Lean.mkIdent `s9):ident $(Lean.mkIdent `hA):ident))
local macro_rules | `(tactic| walk_at "binaryOp Sub ref ref") => `(tactic| ((with_reducible rename At _ _ _ _ => $(Lean.mkIdent `hA):ident); refine' d_FQ_sub ?W ?hk $(Lean.mkIdent `hA):ident ?hm ?hm2 ?hp  ?_; (case W => assumption); (case hk => k_extra "m ok"); (case hm => k_extra "m mem"); (case hm2 => k_extra "m mem"); (case hp => assumption);  clear $(Lean.mkIdent `hA):ident; intro $(Lean.mkIdent `x9):ident $(Lean.mkIdent `s9):ident $(Lean.mkIdent `hA):ident))
local macro_rules | `(tactic| walk_at "inplaceOp Sub ref ref") => `(tactic| ((with_reducible rename At _ _ _ _ => $(Lean.mkIdent `hA):ident); refine' i_FQ_sub ?W ?hk $(Lean.mkIdent `hA):ident ?hm ?hm2 ?hp ?_; (case W => assumption); (case hk => k_extra "m ok"); (case hm => k_extra "m mem"); (case hm2 => k_extra "m mem"); (case hp => assumption); clear $(Lean.mkIdent `hA):ident; intro $(Lean.mkIdent `x9):ident $(Lean.mkIdent `s9):ident $(Lean.mkIdent `hA):ident))
local macro_rules | `(tactic| walk_at "binaryOp Mult ref ref") => `(tactic| ((with_reducible rename At _ _ _ _ => $(Lean.mkIdent `hA):ident); refine' d_FQ_mul ?W ?hk $(Lean.mkIdent `hA):ident ?hm ?hm2 ?hp ?hj ?_; (case W => assumption); (case hk => k_extra "m ok"); (case hm => k_extra "m mem"); (case hm2 => k_extra "m mem"); (case hp => assumption); (case hj => k_extra "m mulok"); clear $(Lean.mkIdent `hA):ident; intro $(Lean.mkIdent `x9):ident $(Lean.mkIdent `s9):ident $(Lean.mkIdent `hA):ident))
local macro_rules | `(tactic| walk_at "unaryOp USub ref") => `(tactic| ((with_reducible rename At _ _ _ _ => $(Lean.mkIdent `hA):ident); refine' d_FQ_neg ?W ?hk $(Lean.mkIdent `hA):ident ?hm ?hp ?_; (case W => assumption); (case hk => k_extra "m ok"); (case hm => k_extra "m mem"); (case hp => assumption); clear $(Lean.mkIdent `hA):ident; intro $(Lean.mkIdent `x9):ident $(Lean.mkIdent `s9):ident $(Lean.mkIdent `hA):ident))
local macro_rules | `(tactic| walk_at "call ref") => `(tactic| ((with_reducible rename At _ _ _ _ => $(Lean.mkIdent `hA):ident); refine r_use ?_; refine' s_FQs ?W ?hk $(Lean.mkIdent `hA):ident ?hp ?hm ?_; (case W => assumption); (case hk => k_extra "m ok"); (case hp => assumption); (case hm => k_extra "m mem"); clear $(Lean.mkIdent `hA):ident; intro $(Lean.mkIdent `x9):ident $(Lean.mkIdent `s9):ident $(Lean.mkIdent `hA):ident))
local macro_rules | `(tactic| walk_at "call ref") => `(tactic| ((with_reducible rename At _ _ _ _ => $(Lean.mkIdent `hA):ident); refine r_use ?_; refine' s_P_corr0 ?W ?hk $(Lean.mkIdent `hA):ident ?hp ?hx ?hd ?hmp ?hm ?_; (case W => assumption); (case hk => k_extra "m ok"); (case hp => assumption); (case hx => k_extra "m mem"); (case hd => k_extra "m mem"); (case hmp => exact rfl); (case hm => k_extra "m mem"); clear $(Lean.mkIdent `hA):ident; intro $(Lean.mkIdent `x9):ident $(Lean.mkIdent `s9):ident $(Lean.mkIdent `hA):ident))
local macro_rules | `(tactic| walk_at "call ref") => `(tactic| ((with_reducible rename At _ _ _ _ => $(Lean.mkIdent `hA):ident); refine r_use ?_; refine' s_P ?W ?T ?hk $(Lean.mkIdent `hA):ident ?hp ?h1 ?h2 ?h3 ?h4 ?h5 ?h6 ?_; (case W => assumption); (case T => assumption); (case hk => k_extra "m ok"); (case hp => assumption); (case h2 => k_extra "m mem"); (case h1 => k_extra "m seq"); (case h4 => assumption); (case h3 => k_extra "m seq"); (case h5 => k_extra "m lens"); (case h6 => k_extra "m lens"); clear $(Lean.mkIdent `hA):ident; intro $(Lean.mkIdent `x9):ident $(Lean.mkIdent `s9):ident $(Lean.mkIdent `hA):ident))
local macro_rules | `(tactic| walk_at "call ref") => `(tactic| ((with_reducible rename At _ _ _ _ => $(Lean.mkIdent `hA):ident); refine r_use ?_; refine' s_P_made ?W ?T ?hk $(Lean.mkIdent `hA):ident ?hp ?hm ?h1 ?h2 ?h5 ?h6 ?_; (case W => assumption); (case T => assumption); (case hk => k_extra "m ok"); (case hp => assumption); (case hm => k_extra "m mem"); (case h2 => k_extra "m mem"); (case h1 => k_extra "m seq"); (case h5 => k_extra "m lens"); (case h6 => k_extra "m lens"); clear $(Lean.mkIdent `hA):ident; intro $(Lean.mkIdent `x9):ident $(Lean.mkIdent `s9):ident $(Lean.mkIdent `hA):ident))
local macro_rules | `(tactic| walk_at "call ref") => `(tactic| ((with_reducible rename At _ _ _ _ => $(Lean.mkIdent `hA):ident); refine r_use ?_; refine' s_O ?W ?T ?hk $(Lean.mkIdent `hA):ident ?hp ?h1 ?h2 ?h3 ?h4 ?h5 ?h6 ?h8 ?_; (case W => assumption); (case T => assumption); (case hk => k_extra "m ok"); (case hp => assumption); (case h1 => k_extra "m mem"); (case h2 => k_extra "m ints"); (case h4 => assumption); (case h3 => k_extra "m seq"); (case h5 => k_extra "m lens"); (case h6 => k_extra "m lens"); (case h8 => k_extra "m lens"); clear $(Lean.mkIdent `hA):ident; intro $(Lean.mkIdent `x9):ident $(Lean.mkIdent `s9):ident $(Lean.mkIdent `hA):ident))
variable {prog : Program} {w : World} {A : Around} {E : Value → Shared → Prop} {D : Dat} {Fs : List Fact} {R : List Res} {s : Shared} {Q : Value → Shared → Prop}
theorem zip_eq (f : Int → Int → Int) (p : Int) (xs ys : List Int) : (List.zipWith (fun a b => (f a b).fmod p) xs ys).map (fun k => k.fmod p) = plnZip f p xs ys := by
  unfold plnZip; rw [List.map_zipWith]

/-- what the methods of the optimized form ask of a class of it -/
structure OC (P : Params) (C mk : Addr) : Prop where
  g1 : plainGet (hd.heap_39 P) C "field_modulus" = true
  g2 : plainGet (hd.heap_39 P) C "coeffs" = true
  g3 : plainGet (hd.heap_39 P) C "modulus_coeffs" = true
  g4 : plainGet (hd.heap_39 P) C "degree" = true
  g5 : plainGet (hd.heap_39 P) C "mc_tuples" = true
  f1 : findIn (hd.heap_39 P) (.ref C) "field_modulus" = some none
  f2 : findIn (hd.heap_39 P) (.ref C) "coeffs" = some none
  f3 : findIn (hd.heap_39 P) (.ref C) "modulus_coeffs" = some none
  f4 : findIn (hd.heap_39 P) (.ref C) "degree" = some none
  f5 : findIn (hd.heap_39 P) (.ref C) "mc_tuples" = some none
  dct : hasDictIn (hd.heap_39 P) C = true
  m1 : plainGet (hd.heap_39 P) C "made" = true
  m2 : findIn (hd.heap_39 P) (.ref C) "made" = some (some (.ref mk))
  m3 : isFn (hd.heap_39 P) (.ref mk) = true
  m4 : keepIn (hd.heap_39 P) (.ref mk) = true
  k1 : plainGet (hd.heap_39 P) C "__class__" = true
  k2 : findIn (hd.heap_39 P) (.ref C) "__class__" = some (some (.builtin "object.__class__"))
  k3 : mroIn (hd.heap_39 P) C (.type "object") = some true
  i1 : kitOne (hd.heap_39 P) (.ref C) (.type "int") = some false
  i2 : kitOne (hd.heap_39 P) (.ref C) (.ref 161) = some true
def MadeOk (C mk : Addr) : Prop := ∀ {prog : Program} {w : World} {A : Around} {D : Dat} {Fs : List Fact} {R : List Res} {s : Shared} {Q : Value → Shared → Prop} {x lc : Addr} {vs : List Value} {ns ns0 ms : List Int} {p : Int} (_ : Wd (hd.heap_39 w.params) D) (_ : ∀ t ∈ WT, t ∈ D.tabs) (_ : Ok A 22) (_ : At D Fs R s) (_ : p ≠ 0) (_ : OptF C x p ns0 ms ∈ Fs) (_ : ListF lc vs ∈ Fs) (_ : IntsAre vs ns) (_ : vs.length = ms.length) (_ : ms.length < 1000) (_ : 0 < ms.length)
    (_ : ∀ x s', At D (OptF C x p (ns.map fun k => k.fmod p) ms :: Fs) R s' → Q (.ref x) s'), codeAny (model prog w) A (.call (.ref mk) ⟨[.ref x, .ref lc], []⟩) (Ret Q) s
theorem madeO : MadeOk 161 59 := s_O_made
theorem madeF : MadeOk 190 179 := s_F_made
theorem ocO (P : Params) : OC P 161 59 := by
  constructor
  all_goals (first | k_is | kit_is)
theorem ocF (P : Params) : OC P 190 179 := by
  constructor
  all_goals (first | k_is | kit_is)
local macro_rules | `(tactic| walk_at "call builtin:isinstance") => `(tactic| ((with_reducible rename At _ _ _ _ => $(Lean.mkIdent `hA):ident); refine' o_isi (K := ?K) (F := OptF _ _ _ _ _) ?W $(Lean.mkIdent `hA):ident ?hm ?ho ?e ?h1 ?h2 ?h3 ?h4 ?h5 ?h6 ?_; (case W => assumption); (case ho => k_extra "m obj"); (case hm => k_extra "m mem"); (case e => assumption); (case h1 => first | assumption | k_is); (case h2 => first | assumption | k_is); (case h3 => first | assumption | k_is); (case h4 => first | assumption | k_is); (case h5 => first | assumption | k_is); (case h6 => first | assumption | k_is); clear $(Lean.mkIdent `hA):ident; intro $(Lean.mkIdent `s9):ident $(Lean.mkIdent `hA):ident))
local macro_rules | `(tactic| walk_at "call builtin:isinstance") => `(tactic| ((with_reducible rename At _ _ _ _ => $(Lean.mkIdent `hA):ident); refine' o_isiT (K := ?K) (F := OptF _ _ _ _ _) ?W $(Lean.mkIdent `hA):ident ?hm ?ho ?hc ?e ?h1 ?h2 ?h3 ?h4 ?h5 ?h6 ?_; (case W => assumption); (case ho => k_extra "m obj"); (case hm => k_extra "m mem"); (case hc => k_extra "m mem"); (case e => assumption); (case h1 => first | assumption | k_is); (case h2 => first | assumption | k_is); (case h3 => first | assumption | k_is); (case h4 => first | assumption | k_is); (case h5 => first | assumption | k_is); (case h6 => first | assumption | k_is); clear $(Lean.mkIdent `hA):ident; intro $(Lean.mkIdent `s9):ident $(Lean.mkIdent `hA):ident))
local macro_rules | `(tactic| walk_at "getMethod ref") => `(tactic| ((with_reducible rename At _ _ _ _ => $(Lean.mkIdent `hA):ident); refine' o_meth (K := ?K) (F := OptF _ _ _ _ _) ?W $(Lean.mkIdent `hA):ident ?hm ?ho ?h1 ?h2 ?h3 ?h4 ?_; (case W => assumption); (case ho => k_extra "m obj"); (case hm => k_extra "m mem"); (case h1 => first | assumption | k_is); (case h2 => first | assumption | k_is); (case h3 => first | assumption | k_is); (case h4 => decide)))
local macro_rules | `(tactic| walk_at "getAttr ref") => `(tactic| ((with_reducible rename At _ _ _ _ => $(Lean.mkIdent `hA):ident); refine' r_op (K := ?K) ?W $(Lean.mkIdent `hA):ident ?h1 ?h2 ?h3 ?h4 ?hm ?he ?_; (case W => assumption); (case he => exact rfl); (case hm => k_extra "m mem"); (case h1 => first | assumption | k_is); (case h2 => first | assumption | k_is); (case h3 => first | assumption | k_is); (case h4 => first | assumption | k_is); clear $(Lean.mkIdent `hA):ident; intro $(Lean.mkIdent `t9):ident $(Lean.mkIdent `s9):ident $(Lean.mkIdent `hA):ident))
local macro_rules | `(tactic| walk_at "getAttr ref") => `(tactic| ((with_reducible rename At _ _ _ _ => $(Lean.mkIdent `hA):ident); refine' r_od (K := ?K) ?W $(Lean.mkIdent `hA):ident ?h1 ?h2 ?h3 ?h4 ?hm ?he ?_; (case W => assumption); (case he => exact rfl); (case hm => k_extra "m mem"); (case h1 => first | assumption | k_is); (case h2 => first | assumption | k_is); (case h3 => first | assumption | k_is); (case h4 => first | assumption | k_is); clear $(Lean.mkIdent `hA):ident; intro $(Lean.mkIdent `t9):ident $(Lean.mkIdent `s9):ident $(Lean.mkIdent `hA):ident))
local macro_rules | `(tactic| walk_at "getAttr ref") => `(tactic| ((with_reducible rename At _ _ _ _ => $(Lean.mkIdent `hA):ident); refine' r_oc (K := ?K) ?W $(Lean.mkIdent `hA):ident ?h1 ?h2 ?h3 ?h4 ?hm ?he ?_; (case W => assumption); (case he => exact rfl); (case hm => k_extra "m mem"); (case h1 => first | assumption | k_is); (case h2 => first | assumption | k_is); (case h3 => first | assumption | k_is); (case h4 => first | assumption | k_is); clear $(Lean.mkIdent `hA):ident; intro $(Lean.mkIdent `y9):ident $(Lean.mkIdent `v9):ident $(Lean.mkIdent `s9):ident $(Lean.mkIdent `hi9):ident $(Lean.mkIdent `hA):ident))
local macro_rules | `(tactic| walk_at "getAttr ref") => `(tactic| ((with_reducible rename At _ _ _ _ => $(Lean.mkIdent `hA):ident); refine' r_om (K := ?K) ?W $(Lean.mkIdent `hA):ident ?h1 ?h2 ?h3 ?h4 ?hm ?he ?_; (case W => assumption); (case he => exact rfl); (case hm => k_extra "m mem"); (case h1 => first | assumption | k_is); (case h2 => first | assumption | k_is); (case h3 => first | assumption | k_is); (case h4 => first | assumption | k_is); clear $(Lean.mkIdent `hA):ident; intro $(Lean.mkIdent `y9):ident $(Lean.mkIdent `v9):ident $(Lean.mkIdent `s9):ident $(Lean.mkIdent `hi9):ident $(Lean.mkIdent `hA):ident))
local macro_rules | `(tactic| walk_at "getAttr ref") => `(tactic| ((with_reducible rename At _ _ _ _ => $(Lean.mkIdent `hA):ident); refine' r_ot (K := ?K) ?W $(Lean.mkIdent `hA):ident ?h1 ?h2 ?h3 ?h4 ?hm ?he ?_; (case W => assumption); (case he => exact rfl); (case hm => k_extra "m mem"); (case h1 => first | assumption | k_is); (case h2 => first | assumption | k_is); (case h3 => first | assumption | k_is); (case h4 => first | assumption | k_is); clear $(Lean.mkIdent `hA):ident; intro $(Lean.mkIdent `y9):ident $(Lean.mkIdent `v9):ident $(Lean.mkIdent `s9):ident $(Lean.mkIdent `hA):ident))
local macro_rules | `(tactic| walk_at "callWith ref") => `(tactic| ((with_reducible rename At _ _ _ _ => $(Lean.mkIdent `hA):ident); (try dsimp only); (first | refine' callWith_K (K := ?K) ?k1 ?k2 ?_ | refine' callWith_K0 (K := ?K) ?k1 ?k2 ?_); (case k1 => exact At.kin (by assumption) $(Lean.mkIdent `hA):ident); (case k2 => first | assumption | k_is)))
local macro_rules | `(tactic| walk_at "callWith") => `(tactic| ((with_reducible rename At _ _ _ _ => $(Lean.mkIdent `hA):ident); (try dsimp only); (with_reducible show wpAny _ _ (callWith _ (Value.ref _) _ _ _) _ _ _); (first | refine' callWith_K (K := ?K) ?k1 ?k2 ?_ | refine' callWith_K0 (K := ?K) ?k1 ?k2 ?_); (case k1 => exact At.kin (by assumption) $(Lean.mkIdent `hA):ident); (case k2 => first | assumption | k_is)))
local macro_rules | `(tactic| walk_at "call ref") => `(tactic| ((with_reducible rename At _ _ _ _ => $(Lean.mkIdent `hA):ident); refine r_use ?_; refine' (show MadeOk _ _ by assumption) ?W ?T ?hk $(Lean.mkIdent `hA):ident ?hp ?hm ?h1 ?h2 ?h5 ?h6 ?h8 ?_; (case W => assumption); (case T => assumption); (case hk => k_extra "m ok"); (case hp => assumption); (case hm => k_extra "m mem"); (case h1 => k_extra "m mem"); (case h2 => k_extra "m ints"); (case h5 => k_extra "m lens"); (case h6 => k_extra "m lens"); (case h8 => k_extra "m lens"); clear $(Lean.mkIdent `hA):ident; intro $(Lean.mkIdent `x9):ident $(Lean.mkIdent `s9):ident $(Lean.mkIdent `hA):ident))
set_option maxHeartbeats 4000000 in
set_option maxRecDepth 100000 in
theorem s_G_add {C mk : Addr} (hC : OC w.params C mk) (hMk : MadeOk C mk) {x y : Addr} {ns ks ms : List Int} {p : Int} (W : Wd (hd.heap_39 w.params) D) (T : ∀ t ∈ WT, t ∈ D.tabs) (hk : Ok A 24) (H : At D Fs R s) (hp : p ≠ 0) (hm : OptF C x p ns ms ∈ Fs) (hm2 : OptF C y p ks ms ∈ Fs) (h5 : ns.length = ms.length) (h7 : ks.length = ms.length) (h6 : ms.length < 1000) (h8 : 0 < ms.length)
    (h : ∀ x s', At D (OptF C x p (plnZip (· + ·) p ns ks) ms :: Fs) R s' → Q (.ref x) s') : codeAny (model prog w) A (.call (.ref 64) ⟨[.ref x, .ref y], []⟩) (Ret Q) s := by
  obtain ⟨g1, g2, g3, g4, g5, f1, f2, f3, f4, f5, dct, m1, m2, m3, m4, k1, k2, k3, i1, i2⟩ := hC
  refine' v_callc [("other", .ref y)] (fun L => [(L + 1, .ref x)]) (fun L => []) ?W H hk ?ho ?hcd ?hb ?hl ?hm ?hcm ?hum ?hnd ?hud ?_ ?c2 ?c3 ?c4
  k_extra "m enterc"
  clear H
  k_extra "wk"
  rename_i y1 v1 s1 e1
  have l1 := e1.length
  have l2 := hi9.length
  k_extra "wk"
  have hlen : (List.zipWith (fun a b : Int => (a + b).fmod p) ns ks).length = v1.length := by simp; omega
  refine' r_mapK (inG (List.zipWith (fun a b : Int => (a + b).fmod p) ns ks)) (hN9 _) ⟨_, _, _, rfl⟩ hK9.handled hA ?g1 (by decide) rfl inG.zero (fun _ _ _ q => q.len (by omega)) ?step ?done
  case g1 => k_extra "m mem"
  case step =>
    clear hA
    intro C acc i ys Gs v F s hi hG hV H
    obtain ⟨T, a, b, rfl, ha, hb, rfl⟩ := hV
    obtain ⟨na, ta, rfl, hna⟩ := e1.at i a ha
    obtain ⟨nb, tb, rfl, hnb⟩ := hi9.at i b hb
    have hA := H.nil1 hG.2.2
    clear H
    k_extra "wk"
    exact hG.hold (zipWith_get hna hnb) hA (by k_extra "m facts")
  case done =>
    clear hA
    intro C acc ys Gs s hG _ s H
    have hI := hG.done hlen
    have H1 := H.nil0 hG.2.2
    have hA := At.fzL H1 .head
    have hle := hI.length
    clear H H1
    k_extra "wk"
    refine h _ _ ?_
    rw [← zip_eq]
    exact At.to' hA (by k_extra "m sub") (by k_extra "m facts")
set_option maxHeartbeats 4000000 in
set_option maxRecDepth 100000 in
theorem s_G_sub {C mk : Addr} (hC : OC w.params C mk) (hMk : MadeOk C mk) {x y : Addr} {ns ks ms : List Int} {p : Int} (W : Wd (hd.heap_39 w.params) D) (T : ∀ t ∈ WT, t ∈ D.tabs) (hk : Ok A 24) (H : At D Fs R s) (hp : p ≠ 0) (hm : OptF C x p ns ms ∈ Fs) (hm2 : OptF C y p ks ms ∈ Fs) (h5 : ns.length = ms.length) (h7 : ks.length = ms.length) (h6 : ms.length < 1000) (h8 : 0 < ms.length)
    (h : ∀ x s', At D (OptF C x p (plnZip (· - ·) p ns ks) ms :: Fs) R s' → Q (.ref x) s') : codeAny (model prog w) A (.call (.ref 69) ⟨[.ref x, .ref y], []⟩) (Ret Q) s := by
  obtain ⟨g1, g2, g3, g4, g5, f1, f2, f3, f4, f5, dct, m1, m2, m3, m4, k1, k2, k3, i1, i2⟩ := hC
  refine' v_callc [("other", .ref y)] (fun L => [(L + 1, .ref x)]) (fun L => []) ?W H hk ?ho ?hcd ?hb ?hl ?hm ?hcm ?hum ?hnd ?hud ?_ ?c2 ?c3 ?c4
  k_extra "m enterc"
  clear H
  k_extra "wk"
  rename_i y1 v1 s1 e1
  have l1 := e1.length
  have l2 := hi9.length
  k_extra "wk"
  have hlen : (List.zipWith (fun a b : Int => (a - b).fmod p) ns ks).length = v1.length := by simp; omega
  refine' r_mapK (inG (List.zipWith (fun a b : Int => (a - b).fmod p) ns ks)) (hN9 _) ⟨_, _, _, rfl⟩ hK9.handled hA ?g1 (by decide) rfl inG.zero (fun _ _ _ q => q.len (by omega)) ?step ?done
  case g1 => k_extra "m mem"
  case step =>
    clear hA
    intro C acc i ys Gs v F s hi hG hV H
    obtain ⟨T, a, b, rfl, ha, hb, rfl⟩ := hV
    obtain ⟨na, ta, rfl, hna⟩ := e1.at i a ha
    obtain ⟨nb, tb, rfl, hnb⟩ := hi9.at i b hb
    have hA := H.nil1 hG.2.2
    clear H
    k_extra "wk"
    exact hG.hold (zipWith_get hna hnb) hA (by k_extra "m facts")
  case done =>
    clear hA
    intro C acc ys Gs s hG _ s H
    have hI := hG.done hlen
    have H1 := H.nil0 hG.2.2
    have hA := At.fzL H1 .head
    have hle := hI.length
    clear H H1
    k_extra "wk"
    refine h _ _ ?_
    rw [← zip_eq]
    exact At.to' hA (by k_extra "m sub") (by k_extra "m facts")

set_option maxHeartbeats 4000000 in
set_option maxRecDepth 100000 in
theorem s_G_neg {C mk : Addr} (hC : OC w.params C mk) (hMk : MadeOk C mk) {x : Addr} {ns ms : List Int} {p : Int} (W : Wd (hd.heap_39 w.params) D) (T : ∀ t ∈ WT, t ∈ D.tabs) (hk : Ok A 24) (H : At D Fs R s) (hp : p ≠ 0) (hm : OptF C x p ns ms ∈ Fs) (h5 : ns.length = ms.length) (h6 : ms.length < 1000) (h8 : 0 < ms.length)
    (h : ∀ x s', At D (OptF C x p (plnNeg p ns) ms :: Fs) R s' → Q (.ref x) s') : codeAny (model prog w) A (.call (.ref 136) ⟨[.ref x], []⟩) (Ret Q) s := by
  obtain ⟨g1, g2, g3, g4, g5, f1, f2, f3, f4, f5, dct, m1, m2, m3, m4, k1, k2, k3, i1, i2⟩ := hC
  refine' v_call [("self", .ref x)] ?W H hk ?ho ?hcd ?hb ?hl ?hm ?_ ?c1 ?c2 ?c3 ?c4
  k_extra "m enter"
  clear H
  k_extra "wk"
  have l2 := hi9.length
  have hlen : (ns.map fun a => -a).length = v9.length := by simp; omega
  refine' r_mapK (inG (ns.map fun a => -a)) (hN9 false _) ⟨_, _, rfl⟩ hK9.handled hA ?g1 ?g0 ?g2 inG.zero (fun _ _ _ q => q.len (by omega)) ?step ?done
  case g0 => decide
  case g2 => rfl
  case g1 => k_extra "m mem"
  case step =>
    clear hA
    intro C acc i ys Gs v F s hi hG hV H
    obtain ⟨hv, rfl⟩ := hV
    obtain ⟨na, ta, rfl, hna⟩ := hi9.at i v hv
    have hA := H.nil1 hG.2.2
    clear H
    k_extra "wk"
    exact hG.hold (by rw [List.getElem?_map, hna]; rfl) hA (by k_extra "m facts")
  case done =>
    clear hA
    intro C acc ys Gs s hG _ s H
    have hI := hG.done hlen
    have H1 := H.nil0 hG.2.2
    have hA := At.fzL H1 .head
    have hle := hI.length
    clear H H1
    k_extra "wk"
    refine h _ _ ?_
    have e : plnNeg p ns = (ns.map fun a => -a).map (fun k => k.fmod p) := by simp [plnNeg]
    rw [e]
    exact At.to' hA (by k_extra "m sub") (by k_extra "m facts")
set_option maxHeartbeats 4000000 in
set_option maxRecDepth 100000 in
theorem s_G_one {C mk : Addr} (hC : OC w.params C mk) (hMk : MadeOk C mk) {x : Addr} {ns ms : List Int} {p : Int} (W : Wd (hd.heap_39 w.params) D) (T : ∀ t ∈ WT, t ∈ D.tabs) (hk : Ok A 24) (H : At D Fs R s) (hp : p ≠ 0) (hm : OptF C x p ns ms ∈ Fs) (h8 : 0 < ms.length) (h6 : ms.length < 1000)
    (h : ∀ x s', At D (OptF C x p (plnOne p ms.length) ms :: Fs) R s' → Q (.ref x) s') : codeAny (model prog w) A (.call (.ref 151) ⟨[.ref x], []⟩) (Ret Q) s := by
  obtain ⟨g1, g2, g3, g4, g5, f1, f2, f3, f4, f5, dct, m1, m2, m3, m4, k1, k2, k3, i1, i2⟩ := hC
  refine' v_call [("self", .ref x)] ?W H hk ?ho ?hcd ?hb ?hl ?hm ?_ ?c1 ?c2 ?c3 ?c4
  k_extra "m enter"
  clear H
  k_extra "wk"
  have eN : ((ms.length : Int) - 1).toNat = ms.length - 1 := by omega
  rw [eN] at hA
  have H1 := At.fzL hA .head
  clear hA
  have hA := H1
  clear H1
  k_extra "wk"
  exact h _ _ (At.to' hA (by k_extra "m sub") (by k_extra "m facts"))
set_option maxHeartbeats 4000000 in
set_option maxRecDepth 100000 in
theorem s_G_zero {C mk : Addr} (hC : OC w.params C mk) (hMk : MadeOk C mk) {x : Addr} {ns ms : List Int} {p : Int} (W : Wd (hd.heap_39 w.params) D) (T : ∀ t ∈ WT, t ∈ D.tabs) (hk : Ok A 24) (H : At D Fs R s) (hp : p ≠ 0) (hm : OptF C x p ns ms ∈ Fs) (h8 : 0 < ms.length) (h6 : ms.length < 1000)
    (h : ∀ x s', At D (OptF C x p (plnZero p ms.length) ms :: Fs) R s' → Q (.ref x) s') : codeAny (model prog w) A (.call (.ref 158) ⟨[.ref x], []⟩) (Ret Q) s := by
  obtain ⟨g1, g2, g3, g4, g5, f1, f2, f3, f4, f5, dct, m1, m2, m3, m4, k1, k2, k3, i1, i2⟩ := hC
  refine' v_call [("self", .ref x)] ?W H hk ?ho ?hcd ?hb ?hl ?hm ?_ ?c1 ?c2 ?c3 ?c4
  k_extra "m enter"
  clear H
  k_extra "wk"
  have eN : ((ms.length : Int)).toNat = ms.length := by omega
  rw [eN] at hA
  have H1 := At.fzL hA .head
  clear hA
  have hA := H1
  clear H1
  k_extra "wk"
  exact h _ _ (At.to' hA (by k_extra "m sub") (by k_extra "m facts"))

theorem ints_snoc_inv {vs : List Value} {b : List Int} {n : Int} (h : IntsAre vs (b ++ [n])) : ∃ vs' t, vs = vs' ++ [.int n t] ∧ IntsAre vs' b := by
  have hl := h.length
  rcases List.eq_nil_or_concat vs with rfl | ⟨a, v, e⟩
  · simp at hl
  · rw [List.concat_eq_append] at e
    subst e
    simp at hl
    obtain ⟨c, t, e1, e2⟩ := h.at a.length v (by simp)
    have : c = n := by rw [hl] at e2; simpa using e2.symm
    subst this
    refine ⟨a, t, by rw [e1], ?_⟩
    have q := h.take a.length
    rw [List.take_left] at q
    rw [hl, List.take_left] at q
    exact q
/-- one step of the product, no reduction -/
def cvJ (xs ys : List Int) (i : Nat) (b : List Int) (j : Nat) : List Int := b.set (i + j) (b.getD (i + j) 0 + xs.getD i 0 * ys.getD j 0)
def cvI (xs ys : List Int) (d : Nat) (b : List Int) (i : Nat) : List Int := (List.range d).foldl (cvJ xs ys i) b
def cv (xs ys : List Int) (d i : Nat) : List Int := (List.range i).foldl (cvI xs ys d) (List.replicate (2 * d - 1) 0)
theorem cvI_length (xs ys : List Int) (d : Nat) (b : List Int) (i : Nat) : (cvI xs ys d b i).length = b.length := foldl_len _ (fun b k => by simp [cvJ]) _ _
theorem cv_length (xs ys : List Int) (d i : Nat) : (cv xs ys d i).length = 2 * d - 1 := by unfold cv; rw [foldl_len _ (fun b k => cvI_length ..)]; simp
def rdP (e : Nat) (top : Int) (b : List Int) (q : Int × Int) : List Int := b.set (e + q.1.toNat) (b.getD (e + q.1.toNat) 0 - top * q.2)
def rdTop (ms : List Int) (b : List Int) : List Int := (mcFrom 0 ms).foldl (rdP (b.length - 1 - ms.length) (b.getD (b.length - 1) 0)) b.dropLast
def rdN (ms : List Int) : Nat → List Int → List Int
  | 0, b => b
  | n + 1, b => rdN ms n (rdTop ms b)
theorem foldl_lenG {α : Type} (f : List Int → α → List Int) (hf : ∀ b k, (f b k).length = b.length) (l : List α) (b : List Int) : (l.foldl f b).length = b.length := by
  induction l generalizing b with
  | nil => rfl
  | cons a l ih => rw [List.foldl_cons, ih, hf]
theorem rdTop_length (ms b : List Int) : (rdTop ms b).length = b.length - 1 := by unfold rdTop; rw [foldl_lenG _ (fun b k => by simp [rdP])]; simp
theorem rdN_length (ms : List Int) (n : Nat) (b : List Int) : (rdN ms n b).length = b.length - n := by
  induction n generalizing b with
  | zero => rfl
  | succ n ih => show (rdN ms n (rdTop ms b)).length = _; rw [ih, rdTop_length]; omega
def optMul (p : Int) (xs ys ms : List Int) : List Int := (rdN ms (ms.length - 1) (cv xs ys ms.length ms.length)).map fun k => (k.fmod p).fmod p
theorem optMul_length (p : Int) (xs ys ms : List Int) (h : 0 < ms.length) : (optMul p xs ys ms).length = ms.length := by unfold optMul; rw [List.length_map, rdN_length, cv_length]; omega
theorem foldl_take1 {α β : Type} (f : β → α → β) (b : β) (l : List α) (i : Nat) (x : α) (h : l[i]? = some x) : (l.take (i + 1)).foldl f b = f ((l.take i).foldl f b) x := by
  rw [List.take_add_one, h]; simp
theorem mcFrom_mem {k : Int} {ms : List Int} {q : Int × Int} (h : q ∈ mcFrom k ms) : k ≤ q.1 ∧ q.1 < k + ms.length ∧ q.2 ∈ ms := by
  induction ms generalizing k with
  | nil => simp [mcFrom] at h
  | cons a l ih =>
    simp only [mcFrom] at h
    split at h
    · rcases List.mem_cons.mp h with rfl | h
      · simp; omega
      · have := ih h; simp; refine ⟨by omega, by omega, .inr this.2.2⟩
    · have := ih h; simp; refine ⟨by omega, by omega, .inr this.2.2⟩
local macro_rules | `(tactic| walk_at "call type:range") => `(tactic| ((with_reducible rename At _ _ _ _ => $(Lean.mkIdent `hA):ident); refine' r_range3 ?W $(Lean.mkIdent `hA):ident (by decide) ?n ?_; (case W => assumption); (case n => exact PyProof.noPylong_small (by decide)); clear $(Lean.mkIdent `hA):ident; intro $(Lean.mkIdent `r9):ident $(Lean.mkIdent `s9):ident $(Lean.mkIdent `hA):ident))
local macro_rules | `(tactic| walk_at "call type:enumerate") => `(tactic| ((with_reducible rename At _ _ _ _ => $(Lean.mkIdent `hA):ident); refine' r_enumT $(Lean.mkIdent `hA):ident ?h1 ?_; (case h1 => k_extra "m mem"); clear $(Lean.mkIdent `hA):ident; intro $(Lean.mkIdent `I9):ident $(Lean.mkIdent `t9):ident $(Lean.mkIdent `s9):ident $(Lean.mkIdent `hN9):ident $(Lean.mkIdent `hA):ident))
local macro_rules | `(tactic| walk_at "call type:list") => `(tactic| ((with_reducible rename At _ _ _ _ => $(Lean.mkIdent `hA):ident); refine' r_listEnum ?hh $(Lean.mkIdent `hA):ident ?hm ?hi ?h0 ?hz ?_; (case hh => k_extra "m hh"); (case hm => k_extra "m mem"); (case hi => assumption); (case h0 => k_extra "m lens"); (case hz => k_extra "m lens"); clear $(Lean.mkIdent `hA):ident; intro $(Lean.mkIdent `l9):ident $(Lean.mkIdent `v9):ident $(Lean.mkIdent `s9):ident $(Lean.mkIdent `hi9):ident $(Lean.mkIdent `hA):ident))
set_option maxHeartbeats 4000000 in
set_option maxRecDepth 100000 in
theorem s_G_mul {C mk : Addr} (hC : OC w.params C mk) (hMk : MadeOk C mk) {x y : Addr} {ns ks ms : List Int} {p : Int} (W : Wd (hd.heap_39 w.params) D) (T : ∀ t ∈ WT, t ∈ D.tabs) (hk : Ok A 24) (H : At D Fs R s) (hp0 : 0 < p) (hp1 : p < 2 ^ 60) (hm : OptF C x p ns ms ∈ Fs) (hm2 : OptF C y p ks ms ∈ Fs) (h5 : ns.length = ms.length) (h7 : ks.length = ms.length) (h6 : ms.length < 1000) (h8 : 0 < ms.length) (hb : Bd ks) (hbm : Bd ms)
    (h : ∀ x s', At D (OptF C x p (optMul p ns ks ms) ms :: Fs) R s' → Q (.ref x) s') : codeAny (model prog w) A (.call (.ref 81) ⟨[.ref x, .ref y], []⟩) (Ret Q) s := by
  obtain ⟨g1, g2, g3, g4, g5, f1, f2, f3, f4, f5, dct, m1, m2, m3, m4, k1, k2, k3, i1, i2⟩ := hC
  have hp : p ≠ 0 := by omega
  refine' v_callc [] (fun L => [(L + 2, .ref y), (L + 1, .ref x)]) (fun L => []) ?W H hk ?ho ?hcd ?hb ?hl ?hm ?hcm ?hum ?hnd ?hud ?_ ?c2 ?c3 ?c4
  k_extra "m enterc"
  clear H
  k_extra "wk"
  rename_i lb s_a s_b yk vk s_c ek I_k t_k s_d hNk vin s_e ein s_f s_g
  have l1 := ek.length
  have l2 := hi9.length
  have H1 := At.fzL hA (l := l9) (by k_extra "m rm")
  clear hA
  have hA := H1
  clear H1
  have ev : v9.length = ms.length := by omega
  rw [ev] at hN9
  have hn : ((ms.length : Int) * 2 - 1).toNat = 2 * ms.length - 1 := by omega
  rw [hn] at hA
  refine r_for (fun i s => ∃ vs, IntsAre vs (cv ns ks ms.length i) ∧ At D (ListF l9 vin :: TupF y9 v9 :: PrsF vin (enF 0 ks) :: CellF (L9 + 2) (Value.ref y) :: CellF (L9 + 1) (Value.ref x) :: Fs) (EnumR I9 t9 y9 true i :: Lst lb vs :: Vars L9 [("b", .ref lb), ("inner_enumerate", .ref l9)] :: R) s)
      (hN9 D.ng) ⟨_, _, _, rfl⟩ hK9.handled ⟨_, ints_rep _ _ _, hA.to' (by k_extra "m sub") (by k_extra "m facts")⟩ ?_ ?_
  · clear hA
    obtain ⟨I1, rfl⟩ : ∃ I1, I1 = I9 := ⟨_, rfl⟩
    rintro i s hi ⟨vs, hvs, H⟩
    refine ⟨_, _, _, H, .tail _ (.head _), .head, ?_⟩
    rintro v F s ⟨T1, vals, rfl, ⟨ti, c', hx, rfl⟩, rfl⟩ H0
    clear H
    obtain ⟨c, tc, rfl, hc⟩ := hi9.at i c' (by simpa using hx)
    have hA : At D (TupF T1 [.int i ti, .int c tc] :: _) _ s := H0
    clear H0
    k_extra "wk"
    have hcl := cv_length ns ks ms.length i
    have l3 : vin.length = ms.length := by omega
    rw [l3] at hN9
    refine r_for (fun j s => ∃ vs, IntsAre vs ((List.range j).foldl (cvJ ns ks i) (cv ns ks ms.length i)) ∧ At D (ListF l9 vin :: TupF y9 v9 :: PrsF vin (enF 0 ks) :: CellF (L9 + 2) (Value.ref y) :: CellF (L9 + 1) (Value.ref x) :: Fs) (LItR I9 l9 j :: EnumR I1 t9 y9 true (i + 1) :: Lst lb vs :: Vars L9 [("b", .ref lb), ("inner_enumerate", .ref l9), ("i", .int i ti), ("eli", .int c tc)] :: R) s)
        (hN9 true D.ng) ⟨_, _, _, rfl⟩ hK9.handled ⟨vs, hvs, hA.to' (by k_extra "m sub") (by k_extra "m facts")⟩ ?_ ?_
    · clear hA
      rintro j s hj ⟨vs2, hvs2, H⟩
      refine ⟨_, _, _, H, .head _, .head, ?_⟩
      rintro v F s ⟨hv, rfl⟩ H0
      clear H
      obtain ⟨T2, a, b, tb1, tb2, rfl, e2, H1⟩ := H0.prAt (vs := vin) (ps := enF 0 ks) (by k_extra "m mem") hv
      clear H0
      have hkj : ks[j]? = some ks[j] := by simp
      rw [enF_get ks 0 j _ hkj] at e2
      obtain ⟨rfl, rfl⟩ : 0 + (j : Int) = a ∧ ks[j] = b := by simpa using e2
      have hA : At D (TupF T2 [.int (0 + (j : Int)) tb1, .int ks[j] tb2] :: _) _ s := H1
      clear H1
      have hl : ((List.range j).foldl (cvJ ns ks i) (cv ns ks ms.length i)).length = 2 * ms.length - 1 := by rw [foldl_len _ (fun b k => by simp [cvJ])]; exact hcl
      have hvl := hvs2.length
      have hmj := mulOk_right (a := c) (hb _ (List.getElem_mem (l := ks) (by omega : j < ks.length)))
      k_extra "wk"
      have e1 : ((i : Int) + (0 + (j : Int))).toNat = i + j := by omega
      rw [e1] at hA
      have ec : ns.getD i 0 = c := by simp [List.getD, hc]
      have ek2 : ks.getD j 0 = ks[j] := by rw [List.getD_eq_getElem?_getD, hkj]; rfl
      rw [foldl_range_succ]
      refine ⟨_, ?_, hA.to' (by k_extra "m sub") (by k_extra "m facts")⟩
      show IntsAre _ (List.set _ (i + j) (List.getD _ (i + j) 0 + ns.getD i 0 * ks.getD j 0))
      rw [ec, ek2]
      exact ints_set hvs2 _ _ _
    · clear hA
      rintro s ⟨vs, hvs, H⟩
      refine ⟨_, _, _, H, .head _, .head, fun s hA => ?_⟩
      clear H
      show wpAny _ _ _ _ _ _
      k_extra "wk"
      have e4 : cv ns ks ms.length (i + 1) = (List.range ms.length).foldl (cvJ ns ks i) (cv ns ks ms.length i) := by unfold cv; rw [foldl_range_succ]; rfl
      rw [e4]
      exact ⟨_, hvs, hA.to' (by k_extra "m sub") (by k_extra "m facts")⟩
  · clear hA
    rintro s ⟨vs, hvs, H⟩
    refine ⟨_, _, _, H, .tail _ (.head _), .head, fun s hA => ?_⟩
    clear H
    show wpAny _ _ _ _ _ _
    k_extra "wk"
    have hd : ((ms.length : Int) - 2 - -1).toNat = ms.length - 1 := by omega
    rw [hd] at hA hN9
    refine r_for (fun k s => ∃ vs b, IntsAre vs b ∧ b.length = 2 * ms.length - 1 - k ∧ rdN ms (ms.length - 1 - k) b = rdN ms (ms.length - 1) (cv ns ks ms.length ms.length) ∧ At D (Tru :: CellF (L9 + 2) (Value.ref y) :: CellF (L9 + 1) (Value.ref x) :: Fs) (RItR I9 ((ms.length : Int) - 2) (-1) (ms.length - 1) k :: Lst lb vs :: Vars L9 [("b", .ref lb)] :: R) s)
      (hN9 false D.ng) ⟨_, _, rfl⟩ hK9.handled ⟨vs, _, hvs, by rw [cv_length]; rfl, rfl, hA.to' (by k_extra "m sub") (by k_extra "m facts")⟩ ?_ ?_
    · clear hA
      obtain ⟨I1, rfl⟩ : ∃ I1, I1 = I9 := ⟨_, rfl⟩
      rintro k s hkn ⟨vs, b, hvs, hbl, hbe, H⟩
      refine ⟨_, _, _, H, .head _, .head, ?_⟩
      rintro v F s ⟨⟨t2, rfl⟩, rfl⟩ hA
      clear H
      have hexp : (ms.length : Int) - 2 + (k : Int) * -1 = ((ms.length - 2 - k : Nat) : Int) := by omega
      rw [hexp]
      obtain ⟨b', n, rfl⟩ : ∃ b' n, b = b' ++ [n] := by
        rcases List.eq_nil_or_concat b with rfl | ⟨a, b, e⟩
        · simp at hbl; omega
        · exact ⟨a, b, by simpa using e⟩
      obtain ⟨vs', tn, rfl, hvs'⟩ := ints_snoc_inv hvs
      have hl' := hvs'.length
      have hbl' : b'.length = 2 * ms.length - 2 - k := by simp at hbl; omega
      k_extra "wk"
      have hps := hA.prLen (vs := v9) (ps := mcFrom 0 ms) (by k_extra "m mem")
      rw [hps] at hN9
      refine r_for (fun j s => ∃ vs2, IntsAre vs2 (((mcFrom 0 ms).take j).foldl (rdP (ms.length - 2 - k) n) b') ∧ At D (ListF y9 v9 :: PrsF v9 (mcFrom 0 ms) :: Tru :: CellF (L9 + 2) (Value.ref y) :: CellF (L9 + 1) (Value.ref x) :: Fs) (LItR I9 y9 j :: RItR I1 ((ms.length : Int) - 2) (-1) (ms.length - 1) (k + 1) :: Lst lb vs2 :: Vars L9 [("b", .ref lb), ("exp", .int ((ms.length - 2 - k : Nat) : Int) t2), ("top", .int n tn)] :: R) s)
        (hN9 true D.ng) ⟨_, _, _, rfl⟩ hK9.handled ⟨vs', hvs', hA.to' (by k_extra "m sub") (by k_extra "m facts")⟩ ?_ ?_
      · clear hA
        rintro j s hj ⟨vs2, hvs2, H⟩
        refine ⟨_, _, _, H, .head _, .head, ?_⟩
        rintro v F s ⟨hv, rfl⟩ H0
        clear H
        obtain ⟨T2, a, c, tb1, tb2, rfl, e2, H1⟩ := H0.prAt (vs := v9) (ps := mcFrom 0 ms) (by k_extra "m mem") hv
        clear H0
        have hA : At D (TupF T2 [.int a tb1, .int c tb2] :: _) _ s := H1
        clear H1
        have hmm := mcFrom_mem (List.mem_of_getElem? e2)
        have hl : (((mcFrom 0 ms).take j).foldl (rdP (ms.length - 2 - k) n) b').length = 2 * ms.length - 2 - k := by rw [foldl_lenG _ (fun b k => by simp [rdP])]; exact hbl'
        have hvl := hvs2.length
        have ha0 : 0 ≤ a := hmm.1
        have ha1 : a < ms.length := by have := hmm.2.1; omega
        have hmj := mulOk_right (a := n) (hbm _ hmm.2.2)
        k_extra "wk"
        have e1 : (((ms.length - 2 - k : Nat) : Int) + a).toNat = ms.length - 2 - k + a.toNat := by omega
        rw [e1] at hA
        rw [foldl_take1 _ _ _ _ _ e2]
        refine ⟨_, ?_, hA.to' (by k_extra "m sub") (by k_extra "m facts")⟩
        exact ints_set hvs2 _ _ _
      · clear hA
        rintro s ⟨vs2, hvs2, H⟩
        refine ⟨_, _, _, H, .head _, .head, fun s hA => ?_⟩
        clear H
        show wpAny _ _ _ _ _ _
        k_extra "wk"
        have eT : rdTop ms (b' ++ [n]) = ((mcFrom 0 ms).take (mcFrom 0 ms).length).foldl (rdP (ms.length - 2 - k) n) b' := by
          unfold rdTop
          have q1 : (b' ++ [n]).length - 1 - ms.length = ms.length - 2 - k := by simp; omega
          have q2 : (b' ++ [n]).getD ((b' ++ [n]).length - 1) 0 = n := by simp
          have q3 : (b' ++ [n]).dropLast = b' := by simp
          rw [q1, q2, q3, List.take_length]
        rw [← eT] at hvs2
        have q4 : ms.length - 1 - k = (ms.length - 1 - (k + 1)) + 1 := by omega
        rw [q4] at hbe
        exact ⟨_, _, hvs2, by rw [rdTop_length]; omega, hbe, hA.to' (by k_extra "m sub") (by k_extra "m facts")⟩
    · clear hA
      rintro s ⟨vs, b, hvs, hbl, hbe, H⟩
      refine ⟨_, _, _, H, .head _, .head, fun s hA => ?_⟩
      clear H
      have hb0 : b = rdN ms (ms.length - 1) (cv ns ks ms.length ms.length) := by rw [← hbe, Nat.sub_self]; rfl
      have hbl2 : b.length = ms.length := by omega
      have H1 := At.fzL hA .head
      clear hA
      have hA := H1
      clear H1
      show wpAny _ _ _ _ _ _
      have hvl := hvs.length
      k_extra "wk"
      have hlen : (b.map fun a => a.fmod p).length = vs.length := by simp; omega
      refine' r_mapK (inG (b.map fun a => a.fmod p)) (hN9 false _) ⟨_, _, rfl⟩ hK9.handled hA ?g1 ?g0 ?g2 inG.zero (fun _ _ _ q => q.len (by omega)) ?step ?done
      case g0 => decide
      case g2 => rfl
      case g1 => k_extra "m mem"
      case step =>
        clear hA
        intro C acc i ys Gs v F s hi hG hV H
        obtain ⟨hv, rfl⟩ := hV
        obtain ⟨na, ta, rfl, hna⟩ := hvs.at i v hv
        have hA := H.nil1 hG.2.2
        clear H
        k_extra "wk"
        exact hG.hold (by rw [List.getElem?_map, hna]; rfl) hA (by k_extra "m facts")
      case done =>
        clear hA
        intro C acc ys Gs s hG _ s H
        have hI := hG.done hlen
        have H1 := H.nil0 hG.2.2
        have hA := At.fzL H1 .head
        have hle := hI.length
        clear H H1
        k_extra "wk"
        refine h _ _ ?_
        have e : optMul p ns ks ms = (b.map fun a => a.fmod p).map (fun k => k.fmod p) := by unfold optMul; rw [hb0, List.map_map]; rfl
        rw [e]
        exact At.to' hA (by k_extra "m sub") (by k_extra "m facts")

end

section
local macro_rules | `(tactic| walk_at "call ref") => `(tactic| ((with_reducible rename At _ _ _ _ => $(Lean.mkIdent `hA):ident); refine r_use ?_; refine' s_FQ ?W ?hk $(Lean.mkIdent `hA):ident ?hp ?_; (case W => assumption); (case hk => k_extra "m ok"); (case hp => assumption); clear $(Lean.mkIdent `hA):ident; intro $(Lean.mkIdent `x9):ident $(Lean.mkIdent `s9):ident $(Lean.mkIdent `hA):ident))
local macro_rules | `(tactic| walk_at "call ref") => `(tactic| ((with_reducible rename At _ _ _ _ => $(Lean.mkIdent `hA):ident); refine r_use ?_; refine' s_FQ_made ?W ?hk $(Lean.mkIdent `hA):ident ?hm ?hp ?_; (case W => assumption); (case hk => k_extra "m ok"); (case hm => k_extra "m mem"); (case hp => assumption); clear $(Lean.mkIdent `hA):ident; intro $(Lean.mkIdent `x9):ident $(Lean.mkIdent `s9):ident $(Lean.mkIdent `hA):ident))
local macro_rules | `(tactic| walk_at "binaryOp Add ref ref") => `(tactic| ((with_reducible rename At _ _ _ _ => $(Lean.mkIdent `hA):ident); refine' d_FQ_add ?W ?hk $(Lean.mkIdent `hA):ident ?hm ?hm2 ?hp  ?_; (case W => assumption); (case hk => k_extra "m ok"); (case hm => k_extra "m mem"); (case hm2 => k_extra "m mem"); (case hp => assumption);  clear $(Lean.mkIdent `hA):ident; intro $(Lean.mkIdent `x9):ident $(Lean.mkIdent `s9):ident $(Lean.mkIdent `hA):ident))
local macro_rules | `(tactic| walk_at "inplaceOp Add ref ref") => `(tactic| ((with_reducible rename At _ _ _ _ => $(Lean.mkIdent `hA):ident); refine' i_FQ_add ?W ?hk $(Lean.mkIdent `hA):ident ?hm ?hm2 ?hp ?_; (case W => assumption); (case hk => k_extra "m ok"); (case hm => k_extra "m mem"); (case hm2 => k_extra "m mem"); (case hp => assumption); clear $(Lean.mkIdent `hA):ident; intro $(Lean.mkIdent `x9):ident $(Lean.mkIdent `s9):ident $(Lean.mkIdent `hA):ident))
local macro_rules | `(tactic| walk_at "binaryOp Sub ref ref") => `(tactic| ((with_reducible rename At _ _ _ _ => $(Lean.mkIdent `hA):ident); refine' d_FQ_sub ?W ?hk $(Lean.mkIdent `hA):ident ?hm ?hm2 ?hp  ?_; (case W => assumption); (case hk => k_extra "m ok"); (case hm => k_extra "m mem"); (case hm2 => k_extra "m mem"); (case hp => assumption);  clear $(Lean.mkIdent `hA):ident; intro $(Lean.mkIdent `x9):ident $(Lean.mkIdent `s9):ident $(Lean.mkIdent `hA):ident))
local macro_rules | `(tactic| walk_at "inplaceOp Sub ref ref") => `(tactic| ((with_reducible rename At _ _ _ _ => $(Lean.mkIdent `hA):ident); refine' i_FQ_sub ?W ?hk $(Lean.mkIdent `hA):ident ?hm ?hm2 ?hp ?_; (case W => assumption); (case hk => k_extra "m ok"); (case hm => k_extra "m mem"); (case hm2 => k_extra "m mem"); (case hp => assumption); clear $(Lean.mkIdent `hA):ident; intro $(Lean.mkIdent `x9):ident $(Lean.mkIdent `s9):ident $(Lean.mkIdent `hA):ident))
local macro_rules | `(tactic| walk_at "binaryOp Mult ref ref") => `(tactic| ((with_reducible rename At _ _ _ _ => $(Lean.mkIdent `hA):ident); refine' d_FQ_mul ?W ?hk $(Lean.mkIdent `hA):ident ?hm ?hm2 ?hp ?hj ?_; (case W => assumption); (case hk => k_extra "m ok"); (case hm => k_extra "m mem"); (case hm2 => k_extra "m mem"); (case hp => assumption); (case hj => k_extra "m mulok"); clear $(Lean.mkIdent `hA):ident; intro $(Lean.mkIdent `x9):ident $(Lean.mkIdent `s9):ident $(Lean.mkIdent `hA):ident))
local macro_rules | `(tactic| walk_at "unaryOp USub ref") => `(tactic| ((with_reducible rename At _ _ _ _ => $(Lean.mkIdent `hA):ident); refine' d_FQ_neg ?W ?hk $(Lean.mkIdent `hA):ident ?hm ?hp ?_; (case W => assumption); (case hk => k_extra "m ok"); (case hm => k_extra "m mem"); (case hp => assumption); clear $(Lean.mkIdent `hA):ident; intro $(Lean.mkIdent `x9):ident $(Lean.mkIdent `s9):ident $(Lean.mkIdent `hA):ident))
local macro_rules | `(tactic| walk_at "call ref") => `(tactic| ((with_reducible rename At _ _ _ _ => $(Lean.mkIdent `hA):ident); refine r_use ?_; refine' s_FQs ?W ?hk $(Lean.mkIdent `hA):ident ?hp ?hm ?_; (case W => assumption); (case hk => k_extra "m ok"); (case hp => assumption); (case hm => k_extra "m mem"); clear $(Lean.mkIdent `hA):ident; intro $(Lean.mkIdent `x9):ident $(Lean.mkIdent `s9):ident $(Lean.mkIdent `hA):ident))
local macro_rules | `(tactic| walk_at "call ref") => `(tactic| ((with_reducible rename At _ _ _ _ => $(Lean.mkIdent `hA):ident); refine r_use ?_; refine' s_P_corr0 ?W ?hk $(Lean.mkIdent `hA):ident ?hp ?hx ?hd ?hmp ?hm ?_; (case W => assumption); (case hk => k_extra "m ok"); (case hp => assumption); (case hx => k_extra "m mem"); (case hd => k_extra "m mem"); (case hmp => exact rfl); (case hm => k_extra "m mem"); clear $(Lean.mkIdent `hA):ident; intro $(Lean.mkIdent `x9):ident $(Lean.mkIdent `s9):ident $(Lean.mkIdent `hA):ident))
local macro_rules | `(tactic| walk_at "call ref") => `(tactic| ((with_reducible rename At _ _ _ _ => $(Lean.mkIdent `hA):ident); refine r_use ?_; refine' s_P ?W ?T ?hk $(Lean.mkIdent `hA):ident ?hp ?h1 ?h2 ?h3 ?h4 ?h5 ?h6 ?_; (case W => assumption); (case T => assumption); (case hk => k_extra "m ok"); (case hp => assumption); (case h2 => k_extra "m mem"); (case h1 => k_extra "m seq"); (case h4 => assumption); (case h3 => k_extra "m seq"); (case h5 => k_extra "m lens"); (case h6 => k_extra "m lens"); clear $(Lean.mkIdent `hA):ident; intro $(Lean.mkIdent `x9):ident $(Lean.mkIdent `s9):ident $(Lean.mkIdent `hA):ident))
local macro_rules | `(tactic| walk_at "call ref") => `(tactic| ((with_reducible rename At _ _ _ _ => $(Lean.mkIdent `hA):ident); refine r_use ?_; refine' s_P_made ?W ?T ?hk $(Lean.mkIdent `hA):ident ?hp ?hm ?h1 ?h2 ?h5 ?h6 ?_; (case W => assumption); (case T => assumption); (case hk => k_extra "m ok"); (case hp => assumption); (case hm => k_extra "m mem"); (case h2 => k_extra "m mem"); (case h1 => k_extra "m seq"); (case h5 => k_extra "m lens"); (case h6 => k_extra "m lens"); clear $(Lean.mkIdent `hA):ident; intro $(Lean.mkIdent `x9):ident $(Lean.mkIdent `s9):ident $(Lean.mkIdent `hA):ident))
local macro_rules | `(tactic| walk_at "call ref") => `(tactic| ((with_reducible rename At _ _ _ _ => $(Lean.mkIdent `hA):ident); refine r_use ?_; refine' s_O ?W ?T ?hk $(Lean.mkIdent `hA):ident ?hp ?h1 ?h2 ?h3 ?h4 ?h5 ?h6 ?h8 ?_; (case W => assumption); (case T => assumption); (case hk => k_extra "m ok"); (case hp => assumption); (case h1 => k_extra "m mem"); (case h2 => k_extra "m ints"); (case h4 => assumption); (case h3 => k_extra "m seq"); (case h5 => k_extra "m lens"); (case h6 => k_extra "m lens"); (case h8 => k_extra "m lens"); clear $(Lean.mkIdent `hA):ident; intro $(Lean.mkIdent `x9):ident $(Lean.mkIdent `s9):ident $(Lean.mkIdent `hA):ident))
local macro_rules | `(tactic| walk_at "call ref") => `(tactic| ((with_reducible rename At _ _ _ _ => $(Lean.mkIdent `hA):ident); refine r_use ?_; refine' s_O_made ?W ?T ?hk $(Lean.mkIdent `hA):ident ?hp ?hm ?h1 ?h2 ?h5 ?h6 ?h8 ?_; (case W => assumption); (case T => assumption); (case hk => k_extra "m ok"); (case hp => assumption); (case hm => k_extra "m mem"); (case h1 => k_extra "m mem"); (case h2 => k_extra "m ints"); (case h5 => k_extra "m lens"); (case h6 => k_extra "m lens"); (case h8 => k_extra "m lens"); clear $(Lean.mkIdent `hA):ident; intro $(Lean.mkIdent `x9):ident $(Lean.mkIdent `s9):ident $(Lean.mkIdent `hA):ident))
variable {prog : Program} {w : World} {A : Around} {E : Value → Shared → Prop} {D : Dat} {Fs : List Fact} {R : List Res} {s : Shared} {Q : Value → Shared → Prop}
theorem optMul_in {p : Int} (h0 : 0 < p) (xs ys ms : List Int) : InR p (optMul p xs ys ms) := fun x hx => by
  obtain ⟨a, _, rfl⟩ := List.mem_map.mp hx
  exact fmod_in h0
def powW (p : Int) (ms : List Int) : Nat → List Int → List Int → List Int
  | 0, o, _ => o
  | n + 1, o, t => powW p ms ((n + 1) / 2) (if (n + 1) % 2 = 1 then optMul p o t ms else o) (optMul p t t ms)
termination_by n => n
decreasing_by omega
def optPow (p : Int) (ms : List Int) (n : Nat) (xs : List Int) : List Int := powW p ms n (plnOne p ms.length) xs
theorem powW_length (p : Int) (ms : List Int) (h8 : 0 < ms.length) (n : Nat) : ∀ (o t : List Int), o.length = ms.length → (powW p ms n o t).length = ms.length := by
  induction n using Nat.strongRecOn with
  | ind n ih =>
    intro o t ho
    match n, ih with
    | 0, _ => rw [powW]; exact ho
    | k + 1, ih =>
      rw [powW]
      refine ih _ (by omega) _ _ ?_
      split
      · exact optMul_length _ _ _ _ h8
      · exact ho
theorem and_one (k : Nat) : Builtin.bitAnd (k : Int) 1 = ((k % 2 : Nat) : Int) := by
  unfold Builtin.bitAnd
  have h1 : decide (0 ≤ (k : Int)) = true := by simp
  have h2 : decide (0 ≤ (1 : Int)) = true := by decide
  rw [h1, h2]
  show (((k : Int).toNat &&& (1 : Int).toNat : Nat) : Int) = _
  rw [Int.toNat_natCast]
  show ((k &&& 1 : Nat) : Int) = _
  rw [Nat.and_one_is_mod]
theorem half_one (k : Nat) : ((k : Int)).fdiv (2 ^ (1 : Int).toNat) = ((k / 2 : Nat) : Int) := by
  show ((k : Int)).fdiv 2 = _
  rw [Int.fdiv_eq_ediv_of_nonneg _ (by decide)]; omega
theorem d_O_mul {x y : Addr} {ns ks ms : List Int} {p : Int} (W : Wd (hd.heap_39 w.params) D) (T : ∀ t ∈ WT, t ∈ D.tabs) (hk : Ok A 24) (H : At D Fs R s) (hp0 : 0 < p) (hp1 : p < 2 ^ 60) (hm : OptF 161 x p ns ms ∈ Fs) (hm2 : OptF 161 y p ks ms ∈ Fs) (h5 : ns.length = ms.length) (h7 : ks.length = ms.length) (h6 : ms.length < 1000) (h8 : 0 < ms.length) (hb : Bd ks) (hbm : Bd ms)
    (h : ∀ x s', At D (OptF 161 x p (optMul p ns ks ms) ms :: Fs) R s' → Q (.ref x) s') : wpAny (model prog w) A (binaryOp .Mult (.ref x) (.ref y)) Q E s := by
  refine' o_bin W H hm .opt ?h1 ?h2 ?h3 hm2 .opt (r_use (s_G_mul (ocO _) madeO W T hk H hp0 hp1 hm hm2 h5 h7 h6 h8 hb hbm fun z s' H' => h z s' H'))
  all_goals k_is
theorem d_O_add {x y : Addr} {ns ks ms : List Int} {p : Int} (W : Wd (hd.heap_39 w.params) D) (T : ∀ t ∈ WT, t ∈ D.tabs) (hk : Ok A 24) (H : At D Fs R s) (hp : p ≠ 0) (hm : OptF 161 x p ns ms ∈ Fs) (hm2 : OptF 161 y p ks ms ∈ Fs) (h5 : ns.length = ms.length) (h7 : ks.length = ms.length) (h6 : ms.length < 1000) (h8 : 0 < ms.length)
    (h : ∀ x s', At D (OptF 161 x p (plnZip (· + ·) p ns ks) ms :: Fs) R s' → Q (.ref x) s') : wpAny (model prog w) A (binaryOp .Add (.ref x) (.ref y)) Q E s := by
  refine' o_bin W H hm .opt ?h1 ?h2 ?h3 hm2 .opt (r_use (s_G_add (ocO _) madeO W T hk H hp hm hm2 h5 h7 h6 h8 fun z s' H' => h z s' H'))
  all_goals k_is
theorem d_O_sub {x y : Addr} {ns ks ms : List Int} {p : Int} (W : Wd (hd.heap_39 w.params) D) (T : ∀ t ∈ WT, t ∈ D.tabs) (hk : Ok A 24) (H : At D Fs R s) (hp : p ≠ 0) (hm : OptF 161 x p ns ms ∈ Fs) (hm2 : OptF 161 y p ks ms ∈ Fs) (h5 : ns.length = ms.length) (h7 : ks.length = ms.length) (h6 : ms.length < 1000) (h8 : 0 < ms.length)
    (h : ∀ x s', At D (OptF 161 x p (plnZip (· - ·) p ns ks) ms :: Fs) R s' → Q (.ref x) s') : wpAny (model prog w) A (binaryOp .Sub (.ref x) (.ref y)) Q E s := by
  refine' o_bin W H hm .opt ?h1 ?h2 ?h3 hm2 .opt (r_use (s_G_sub (ocO _) madeO W T hk H hp hm hm2 h5 h7 h6 h8 fun z s' H' => h z s' H'))
  all_goals k_is
theorem d_O_neg {x : Addr} {ns ms : List Int} {p : Int} (W : Wd (hd.heap_39 w.params) D) (T : ∀ t ∈ WT, t ∈ D.tabs) (hk : Ok A 24) (H : At D Fs R s) (hp : p ≠ 0) (hm : OptF 161 x p ns ms ∈ Fs) (h5 : ns.length = ms.length) (h6 : ms.length < 1000) (h8 : 0 < ms.length)
    (h : ∀ x s', At D (OptF 161 x p (plnNeg p ns) ms :: Fs) R s' → Q (.ref x) s') : wpAny (model prog w) A (unaryOp .USub (.ref x)) Q E s := by
  refine' o_neg W H hm .opt ?h1 ?h2 (r_use (s_G_neg (ocO _) madeO W T hk H hp hm h5 h6 h8 fun z s' H' => h z s' H'))
  all_goals k_is
local macro_rules | `(tactic| walk_at "binaryOp BitAnd int int") => `(tactic| ((with_reducible rename At _ _ _ _ => $(Lean.mkIdent `hA):ident); refine r_and $(Lean.mkIdent `hA):ident ?_; clear $(Lean.mkIdent `hA):ident; intro $(Lean.mkIdent `t9):ident $(Lean.mkIdent `s9):ident $(Lean.mkIdent `hA):ident))
local macro_rules | `(tactic| walk_at "inplaceOp RShift int int") => `(tactic| ((with_reducible rename At _ _ _ _ => $(Lean.mkIdent `hA):ident); refine r_irsh $(Lean.mkIdent `hA):ident (by decide) ?_; clear $(Lean.mkIdent `hA):ident; intro $(Lean.mkIdent `t9):ident $(Lean.mkIdent `s9):ident $(Lean.mkIdent `hA):ident))
set_option maxHeartbeats 4000000 in
set_option maxRecDepth 100000 in
theorem s_O_pow {x : Addr} {n : Nat} {t1 : Tok} {ns ms : List Int} {p : Int} (W : Wd (hd.heap_39 w.params) D) (T : ∀ t ∈ WT, t ∈ D.tabs) (hk : Ok A 30) (H : At D Fs R s) (hp0 : 0 < p) (hp1 : p < 2 ^ 60) (hm : OptF 161 x p ns ms ∈ Fs) (h5 : ns.length = ms.length) (h6 : ms.length < 1000) (h8 : 0 < ms.length) (hb : Bd ns) (hbm : Bd ms)
    (h : ∀ x s', At D (OptF 161 x p (optPow p ms n ns) ms :: Fs) R s' → Q (.ref x) s') : codeAny (model prog w) A (.call (.ref 100) ⟨[.ref x, .int n t1], []⟩) (Ret Q) s := by
  have hp : p ≠ 0 := by omega
  refine' v_call [("other", .int n t1), ("self", .ref x)] ?W H hk ?ho ?hcd ?hb ?hl ?hm ?_ ?c1 ?c2 ?c3 ?c4
  k_extra "m enter"
  clear H
  k_extra "wk"
  have eN : ((ms.length : Int) - 1).toNat = ms.length - 1 := by omega
  rw [eN] at hA
  have H1 := At.fzL hA .head
  clear hA
  have hA := H1
  clear H1
  k_extra "wk"
  have ho : (plnOne p ms.length).length = ms.length := by simp [plnOne]; omega
  refine r_while (fun k s => ∃ o t xo xt tk, xo.length = ms.length ∧ xt.length = ms.length ∧ Bd xt ∧ powW p ms k xo xt = optPow p ms n ns ∧ At D (OptF 161 o p xo ms :: OptF 161 t p xt ms :: Fs) (Vars L9 [("other", .int k tk), ("o", .ref o), ("t", .ref t)] :: R) s) ?_ n ⟨_, _, _, _, t1, ho, h5, hb, rfl, hA.to' (by k_extra "m sub") (by k_extra "m facts")⟩
  clear hA
  rintro k s ⟨o, t, xo, xt, tk, lo, lt, bt, ek, hA⟩
  k_extra "wk"
  · rename_i hb1
    rw [and_one] at hb1
    have hk1 : k % 2 = 1 := by omega
    refine d_O_mul W T (hK9.mono (by omega)) hA hp0 hp1 (x := o) (y := t) (by k_extra "m mem") (by k_extra "m mem") lo lt h6 h8 bt hbm ?_
    clear hA
    intro x9 s9 hA
    show wpAny _ _ _ _ _ _
    k_extra "wk"
    refine d_O_mul W T (hK9.mono (by omega)) hA hp0 hp1 (x := t) (y := t) (by k_extra "m mem") (by k_extra "m mem") lt lt h6 h8 bt hbm ?_
    clear hA
    obtain ⟨y9, rfl⟩ : ∃ y9, y9 = x9 := ⟨_, rfl⟩
    intro x9 s9 hA
    show wpAny _ _ _ _ _ _
    k_extra "wk"
    rw [half_one] at hA
    refine ⟨k / 2, by omega, y9, x9, optMul p xo xt ms, optMul p xt xt ms, _, optMul_length _ _ _ _ h8, optMul_length _ _ _ _ h8, (optMul_in hp0 _ _ _).bd hp1, ?_, hA.to' (by k_extra "m sub") (by k_extra "m facts")⟩
    obtain ⟨k', rfl⟩ : ∃ k', k = k' + 1 := ⟨k - 1, by omega⟩
    rw [← ek, powW, if_pos hk1]
  · rename_i hb1 _ _ _
    rw [and_one] at hb1
    have hk1 : ¬ k % 2 = 1 := by omega
    refine d_O_mul W T (hK9.mono (by omega)) hA hp0 hp1 (x := t) (y := t) (by k_extra "m mem") (by k_extra "m mem") lt lt h6 h8 bt hbm ?_
    clear hA
    intro x9 s9 hA
    show wpAny _ _ _ _ _ _
    k_extra "wk"
    rw [half_one] at hA
    refine ⟨k / 2, by omega, o, x9, xo, optMul p xt xt ms, _, lo, optMul_length _ _ _ _ h8, (optMul_in hp0 _ _ _).bd hp1, ?_, hA.to' (by k_extra "m sub") (by k_extra "m facts")⟩
    obtain ⟨k', rfl⟩ : ∃ k', k = k' + 1 := ⟨k - 1, by omega⟩
    rw [← ek, powW, if_neg hk1]
  · have k0 : k = 0 := by omega
    subst k0
    rw [powW] at ek
    rw [ek] at hA
    exact h _ _ (At.to' hA (by k_extra "m sub") (by k_extra "m facts"))

end

section
local macro_rules | `(tactic| walk_at "call ref") => `(tactic| ((with_reducible rename At _ _ _ _ => $(Lean.mkIdent `hA):ident); refine r_use ?_; refine' s_FQ ?W ?hk $(Lean.mkIdent `hA):ident ?hp ?_; (case W => assumption); (case hk => k_extra "m ok"); (case hp => assumption); clear $(Lean.mkIdent `hA):ident; intro $(Lean.mkIdent `x9):ident $(Lean.mkIdent `s9):ident $(Lean.mkIdent `hA):ident))
local macro_rules | `(tactic| walk_at "call ref") => `(tactic| ((with_reducible rename At _ _ _ _ => $(Lean.mkIdent `hA):ident); refine r_use ?_; refine' s_FQ_made ?W ?hk $(Lean.mkIdent `hA):ident ?hm ?hp ?_; (case W => assumption); (case hk => k_extra "m ok"); (case hm => k_extra "m mem"); (case hp => assumption); clear $(Lean.mkIdent `hA):ident; intro $(Lean.mkIdent `x9):ident $(Lean.mkIdent `s9):ident $(Lean.mkIdent `hA):ident))
local macro_rules | `(tactic| walk_at "binaryOp Add ref ref") => `(tactic| ((with_reducible rename At _ _ _ _ => $(Lean.mkIdent `hA):ident); refine' d_FQ_add ?W ?hk $(Lean.mkIdent `hA):ident ?hm ?hm2 ?hp  ?_; (case W => assumption); (case hk => k_extra "m ok"); (case hm => k_extra "m mem"); (case hm2 => k_extra "m mem"); (case hp => assumption);  clear $(Lean.mkIdent `hA):ident; intro $(Lean.mkIdent `x9):ident $(Lean.mkIdent `s9):ident $(Lean.mkIdent `hA):ident))
local macro_rules | `(tactic| walk_at "inplaceOp Add ref ref") => `(tactic| ((with_reducible rename At _ _ _ _ => $(Lean.mkIdent `hA):ident); refine' i_FQ_add ?W ?hk $(Lean.mkIdent `hA):ident ?hm ?hm2 ?hp ?_; (case W => assumption); (case hk => k_extra "m ok"); (case hm => k_extra "m mem"); (case hm2 => k_extra "m mem"); (case hp => assumption); clear $(Lean.mkIdent `hA):ident; intro $(Lean.mkIdent `x9):ident $(Lean.mkIdent `s9):ident $(Lean.mkIdent `hA):ident))
local macro_rules | `(tactic| walk_at "binaryOp Sub ref ref") => `(tactic| ((with_reducible rename At _ _ _ _ => $(Lean.mkIdent `hA):ident); refine' d_FQ_sub ?W ?hk $(Lean.mkIdent `hA):ident ?hm ?hm2 ?hp  ?_; (case W => assumption); (case hk => k_extra "m ok"); (case hm => k_extra "m mem"); (case hm2 => k_extra "m mem"); (case hp => assumption);  clear $(Lean.mkIdent `hA):ident; intro $(Lean.mkIdent `x9):ident $(Lean.mkIdent `s9):ident $(Lean.mkIdent `hA):ident))
local macro_rules | `(tactic| walk_at "inplaceOp Sub ref ref") => `(tactic| ((with_reducible rename At _ _ _ _ => $(Lean.mkIdent `hA):ident); refine' i_FQ_sub ?W ?hk $(Lean.mkIdent `hA):ident ?hm ?hm2 ?hp ?_; (case W => assumption); (case hk => k_extra "m ok"); (case hm => k_extra "m mem"); (case hm2 => k_extra "m mem"); (case hp => assumption); clear $(Lean.mkIdent `hA):ident; intro $(Lean.mkIdent `x9):ident $(Lean.mkIdent `s9):ident $(Lean.mkIdent `hA):ident))
local macro_rules | `(tactic| walk_at "binaryOp Mult ref ref") => `(tactic| ((with_reducible rename At _ _ _ _ => $(Lean.mkIdent `hA):ident); refine' d_FQ_mul ?W ?hk $(Lean.mkIdent `hA):ident ?hm ?hm2 ?hp ?hj ?_; (case W => assumption); (case hk => k_extra "m ok"); (case hm => k_extra "m mem"); (case hm2 => k_extra "m mem"); (case hp => assumption); (case hj => k_extra "m mulok"); clear $(Lean.mkIdent `hA):ident; intro $(Lean.mkIdent `x9):ident $(Lean.mkIdent `s9):ident $(Lean.mkIdent `hA):ident))
local macro_rules | `(tactic| walk_at "unaryOp USub ref") => `(tactic| ((with_reducible rename At _ _ _ _ => $(Lean.mkIdent `hA):ident); refine' d_FQ_neg ?W ?hk $(Lean.mkIdent `hA):ident ?hm ?hp ?_; (case W => assumption); (case hk => k_extra "m ok"); (case hm => k_extra "m mem"); (case hp => assumption); clear $(Lean.mkIdent `hA):ident; intro $(Lean.mkIdent `x9):ident $(Lean.mkIdent `s9):ident $(Lean.mkIdent `hA):ident))
local macro_rules | `(tactic| walk_at "call ref") => `(tactic| ((with_reducible rename At _ _ _ _ => $(Lean.mkIdent `hA):ident); refine r_use ?_; refine' s_FQs ?W ?hk $(Lean.mkIdent `hA):ident ?hp ?hm ?_; (case W => assumption); (case hk => k_extra "m ok"); (case hp => assumption); (case hm => k_extra "m mem"); clear $(Lean.mkIdent `hA):ident; intro $(Lean.mkIdent `x9):ident $(Lean.mkIdent `s9):ident $(Lean.mkIdent `hA):ident))
local macro_rules | `(tactic| walk_at "call ref") => `(tactic| ((with_reducible rename At _ _ _ _ => $(Lean.mkIdent `hA):ident); refine r_use ?_; refine' s_P_corr0 ?W ?hk $(Lean.mkIdent `hA):ident ?hp ?hx ?hd ?hmp ?hm ?_; (case W => assumption); (case hk => k_extra "m ok"); (case hp => assumption); (case hx => k_extra "m mem"); (case hd => k_extra "m mem"); (case hmp => exact rfl); (case hm => k_extra "m mem"); clear $(Lean.mkIdent `hA):ident; intro $(Lean.mkIdent `x9):ident $(Lean.mkIdent `s9):ident $(Lean.mkIdent `hA):ident))
local macro_rules | `(tactic| walk_at "call ref") => `(tactic| ((with_reducible rename At _ _ _ _ => $(Lean.mkIdent `hA):ident); refine r_use ?_; refine' s_P ?W ?T ?hk $(Lean.mkIdent `hA):ident ?hp ?h1 ?h2 ?h3 ?h4 ?h5 ?h6 ?_; (case W => assumption); (case T => assumption); (case hk => k_extra "m ok"); (case hp => assumption); (case h2 => k_extra "m mem"); (case h1 => k_extra "m seq"); (case h4 => assumption); (case h3 => k_extra "m seq"); (case h5 => k_extra "m lens"); (case h6 => k_extra "m lens"); clear $(Lean.mkIdent `hA):ident; intro $(Lean.mkIdent `x9):ident $(Lean.mkIdent `s9):ident $(Lean.mkIdent `hA):ident))
local macro_rules | `(tactic| walk_at "call ref") => `(tactic| ((with_reducible rename At _ _ _ _ => $(Lean.mkIdent `hA):ident); refine r_use ?_; refine' s_P_made ?W ?T ?hk $(Lean.mkIdent `hA):ident ?hp ?hm ?h1 ?h2 ?h5 ?h6 ?_; (case W => assumption); (case T => assumption); (case hk => k_extra "m ok"); (case hp => assumption); (case hm => k_extra "m mem"); (case h2 => k_extra "m mem"); (case h1 => k_extra "m seq"); (case h5 => k_extra "m lens"); (case h6 => k_extra "m lens"); clear $(Lean.mkIdent `hA):ident; intro $(Lean.mkIdent `x9):ident $(Lean.mkIdent `s9):ident $(Lean.mkIdent `hA):ident))
local macro_rules | `(tactic| walk_at "call ref") => `(tactic| ((with_reducible rename At _ _ _ _ => $(Lean.mkIdent `hA):ident); refine r_use ?_; refine' s_O ?W ?T ?hk $(Lean.mkIdent `hA):ident ?hp ?h1 ?h2 ?h3 ?h4 ?h5 ?h6 ?h8 ?_; (case W => assumption); (case T => assumption); (case hk => k_extra "m ok"); (case hp => assumption); (case h1 => k_extra "m mem"); (case h2 => k_extra "m ints"); (case h4 => assumption); (case h3 => k_extra "m seq"); (case h5 => k_extra "m lens"); (case h6 => k_extra "m lens"); (case h8 => k_extra "m lens"); clear $(Lean.mkIdent `hA):ident; intro $(Lean.mkIdent `x9):ident $(Lean.mkIdent `s9):ident $(Lean.mkIdent `hA):ident))
local macro_rules | `(tactic| walk_at "call ref") => `(tactic| ((with_reducible rename At _ _ _ _ => $(Lean.mkIdent `hA):ident); refine r_use ?_; refine' s_O_made ?W ?T ?hk $(Lean.mkIdent `hA):ident ?hp ?hm ?h1 ?h2 ?h5 ?h6 ?h8 ?_; (case W => assumption); (case T => assumption); (case hk => k_extra "m ok"); (case hp => assumption); (case hm => k_extra "m mem"); (case h1 => k_extra "m mem"); (case h2 => k_extra "m ints"); (case h5 => k_extra "m lens"); (case h6 => k_extra "m lens"); (case h8 => k_extra "m lens"); clear $(Lean.mkIdent `hA):ident; intro $(Lean.mkIdent `x9):ident $(Lean.mkIdent `s9):ident $(Lean.mkIdent `hA):ident))
local macro_rules | `(tactic| walk_at "binaryOp BitAnd int int") => `(tactic| ((with_reducible rename At _ _ _ _ => $(Lean.mkIdent `hA):ident); refine r_and $(Lean.mkIdent `hA):ident ?_; clear $(Lean.mkIdent `hA):ident; intro $(Lean.mkIdent `t9):ident $(Lean.mkIdent `s9):ident $(Lean.mkIdent `hA):ident))
local macro_rules | `(tactic| walk_at "inplaceOp RShift int int") => `(tactic| ((with_reducible rename At _ _ _ _ => $(Lean.mkIdent `hA):ident); refine r_irsh $(Lean.mkIdent `hA):ident (by decide) ?_; clear $(Lean.mkIdent `hA):ident; intro $(Lean.mkIdent `t9):ident $(Lean.mkIdent `s9):ident $(Lean.mkIdent `hA):ident))
local macro_rules | `(tactic| walk_at "call ref") => `(tactic| ((with_reducible rename At _ _ _ _ => $(Lean.mkIdent `hA):ident); refine r_use ?_; refine' s_F ?W ?T ?hk $(Lean.mkIdent `hA):ident ?hp ?h1 ?h2 ?h3 ?h4 ?h5 ?h6 ?h8 ?_; (case W => assumption); (case T => assumption); (case hk => k_extra "m ok"); (case hp => assumption); (case h1 => k_extra "m mem"); (case h2 => k_extra "m ints"); (case h4 => assumption); (case h3 => k_extra "m seq"); (case h5 => k_extra "m lens"); (case h6 => k_extra "m lens"); (case h8 => k_extra "m lens"); clear $(Lean.mkIdent `hA):ident; intro $(Lean.mkIdent `x9):ident $(Lean.mkIdent `s9):ident $(Lean.mkIdent `hA):ident))
local macro_rules | `(tactic| walk_at "call ref") => `(tactic| ((with_reducible rename At _ _ _ _ => $(Lean.mkIdent `hA):ident); refine r_use ?_; refine' s_F_made ?W ?T ?hk $(Lean.mkIdent `hA):ident ?hp ?hm ?h1 ?h2 ?h5 ?h6 ?h8 ?_; (case W => assumption); (case T => assumption); (case hk => k_extra "m ok"); (case hp => assumption); (case hm => k_extra "m mem"); (case h1 => k_extra "m mem"); (case h2 => k_extra "m ints"); (case h5 => k_extra "m lens"); (case h6 => k_extra "m lens"); (case h8 => k_extra "m lens"); clear $(Lean.mkIdent `hA):ident; intro $(Lean.mkIdent `x9):ident $(Lean.mkIdent `s9):ident $(Lean.mkIdent `hA):ident))
variable {prog : Program} {w : World} {A : Around} {E : Value → Shared → Prop} {D : Dat} {Fs : List Fact} {R : List Res} {s : Shared} {Q : Value → Shared → Prop}

theorem d_F_mul {x y : Addr} {ns ks ms : List Int} {p : Int} (W : Wd (hd.heap_39 w.params) D) (T : ∀ t ∈ WT, t ∈ D.tabs) (hk : Ok A 24) (H : At D Fs R s) (hp0 : 0 < p) (hp1 : p < 2 ^ 60) (hm : OptF 190 x p ns ms ∈ Fs) (hm2 : OptF 190 y p ks ms ∈ Fs) (h5 : ns.length = ms.length) (h7 : ks.length = ms.length) (h6 : ms.length < 1000) (h8 : 0 < ms.length) (hb : Bd ks) (hbm : Bd ms)
    (h : ∀ x s', At D (OptF 190 x p (optMul p ns ks ms) ms :: Fs) R s' → Q (.ref x) s') : wpAny (model prog w) A (binaryOp .Mult (.ref x) (.ref y)) Q E s := by
  refine' o_bin W H hm .opt ?h1 ?h2 ?h3 hm2 .opt (r_use (s_G_mul (ocF _) madeF W T hk H hp0 hp1 hm hm2 h5 h7 h6 h8 hb hbm fun z s' H' => h z s' H'))
  all_goals k_is
theorem d_F_add {x y : Addr} {ns ks ms : List Int} {p : Int} (W : Wd (hd.heap_39 w.params) D) (T : ∀ t ∈ WT, t ∈ D.tabs) (hk : Ok A 24) (H : At D Fs R s) (hp : p ≠ 0) (hm : OptF 190 x p ns ms ∈ Fs) (hm2 : OptF 190 y p ks ms ∈ Fs) (h5 : ns.length = ms.length) (h7 : ks.length = ms.length) (h6 : ms.length < 1000) (h8 : 0 < ms.length)
    (h : ∀ x s', At D (OptF 190 x p (plnZip (· + ·) p ns ks) ms :: Fs) R s' → Q (.ref x) s') : wpAny (model prog w) A (binaryOp .Add (.ref x) (.ref y)) Q E s := by
  refine' o_bin W H hm .opt ?h1 ?h2 ?h3 hm2 .opt (r_use (s_G_add (ocF _) madeF W T hk H hp hm hm2 h5 h7 h6 h8 fun z s' H' => h z s' H'))
  all_goals k_is
theorem d_F_sub {x y : Addr} {ns ks ms : List Int} {p : Int} (W : Wd (hd.heap_39 w.params) D) (T : ∀ t ∈ WT, t ∈ D.tabs) (hk : Ok A 24) (H : At D Fs R s) (hp : p ≠ 0) (hm : OptF 190 x p ns ms ∈ Fs) (hm2 : OptF 190 y p ks ms ∈ Fs) (h5 : ns.length = ms.length) (h7 : ks.length = ms.length) (h6 : ms.length < 1000) (h8 : 0 < ms.length)
    (h : ∀ x s', At D (OptF 190 x p (plnZip (· - ·) p ns ks) ms :: Fs) R s' → Q (.ref x) s') : wpAny (model prog w) A (binaryOp .Sub (.ref x) (.ref y)) Q E s := by
  refine' o_bin W H hm .opt ?h1 ?h2 ?h3 hm2 .opt (r_use (s_G_sub (ocF _) madeF W T hk H hp hm hm2 h5 h7 h6 h8 fun z s' H' => h z s' H'))
  all_goals k_is
theorem d_F_neg {x : Addr} {ns ms : List Int} {p : Int} (W : Wd (hd.heap_39 w.params) D) (T : ∀ t ∈ WT, t ∈ D.tabs) (hk : Ok A 24) (H : At D Fs R s) (hp : p ≠ 0) (hm : OptF 190 x p ns ms ∈ Fs) (h5 : ns.length = ms.length) (h6 : ms.length < 1000) (h8 : 0 < ms.length)
    (h : ∀ x s', At D (OptF 190 x p (plnNeg p ns) ms :: Fs) R s' → Q (.ref x) s') : wpAny (model prog w) A (unaryOp .USub (.ref x)) Q E s := by
  refine' o_neg W H hm .opt ?h1 ?h2 (r_use (s_G_neg (ocF _) madeF W T hk H hp hm h5 h6 h8 fun z s' H' => h z s' H'))
  all_goals k_is
local macro_rules | `(tactic| walk_at "binaryOp BitAnd int int") => `(tactic| ((with_reducible rename At _ _ _ _ => $(Lean.mkIdent `hA):ident); refine r_and $(Lean.mkIdent `hA):ident ?_; clear $(Lean.mkIdent `hA):ident; intro $(Lean.mkIdent `t9):ident $(Lean.mkIdent `s9):ident $(Lean.mkIdent `hA):ident))
local macro_rules | `(tactic| walk_at "inplaceOp RShift int int") => `(tactic| ((with_reducible rename At _ _ _ _ => $(Lean.mkIdent `hA):ident); refine r_irsh $(Lean.mkIdent `hA):ident (by decide) ?_; clear $(Lean.mkIdent `hA):ident; intro $(Lean.mkIdent `t9):ident $(Lean.mkIdent `s9):ident $(Lean.mkIdent `hA):ident))
set_option maxHeartbeats 4000000 in
set_option maxRecDepth 100000 in
theorem s_F_pow {x : Addr} {n : Nat} {t1 : Tok} {ns ms : List Int} {p : Int} (W : Wd (hd.heap_39 w.params) D) (T : ∀ t ∈ WT, t ∈ D.tabs) (hk : Ok A 30) (H : At D Fs R s) (hp0 : 0 < p) (hp1 : p < 2 ^ 60) (hm : OptF 190 x p ns ms ∈ Fs) (h5 : ns.length = ms.length) (h6 : ms.length < 1000) (h8 : 0 < ms.length) (hb : Bd ns) (hbm : Bd ms)
    (h : ∀ x s', At D (OptF 190 x p (optPow p ms n ns) ms :: Fs) R s' → Q (.ref x) s') : codeAny (model prog w) A (.call (.ref 100) ⟨[.ref x, .int n t1], []⟩) (Ret Q) s := by
  have hp : p ≠ 0 := by omega
  refine' v_call [("other", .int n t1), ("self", .ref x)] ?W H hk ?ho ?hcd ?hb ?hl ?hm ?_ ?c1 ?c2 ?c3 ?c4
  k_extra "m enter"
  clear H
  k_extra "wk"
  have eN : ((ms.length : Int) - 1).toNat = ms.length - 1 := by omega
  rw [eN] at hA
  have H1 := At.fzL hA .head
  clear hA
  have hA := H1
  clear H1
  k_extra "wk"
  have ho : (plnOne p ms.length).length = ms.length := by simp [plnOne]; omega
  refine r_while (fun k s => ∃ o t xo xt tk, xo.length = ms.length ∧ xt.length = ms.length ∧ Bd xt ∧ powW p ms k xo xt = optPow p ms n ns ∧ At D (OptF 190 o p xo ms :: OptF 190 t p xt ms :: Fs) (Vars L9 [("other", .int k tk), ("o", .ref o), ("t", .ref t)] :: R) s) ?_ n ⟨_, _, _, _, t1, ho, h5, hb, rfl, hA.to' (by k_extra "m sub") (by k_extra "m facts")⟩
  clear hA
  rintro k s ⟨o, t, xo, xt, tk, lo, lt, bt, ek, hA⟩
  k_extra "wk"
  · rename_i hb1
    rw [and_one] at hb1
    have hk1 : k % 2 = 1 := by omega
    refine d_F_mul W T (hK9.mono (by omega)) hA hp0 hp1 (x := o) (y := t) (by k_extra "m mem") (by k_extra "m mem") lo lt h6 h8 bt hbm ?_
    clear hA
    intro x9 s9 hA
    show wpAny _ _ _ _ _ _
    k_extra "wk"
    refine d_F_mul W T (hK9.mono (by omega)) hA hp0 hp1 (x := t) (y := t) (by k_extra "m mem") (by k_extra "m mem") lt lt h6 h8 bt hbm ?_
    clear hA
    obtain ⟨y9, rfl⟩ : ∃ y9, y9 = x9 := ⟨_, rfl⟩
    intro x9 s9 hA
    show wpAny _ _ _ _ _ _
    k_extra "wk"
    rw [half_one] at hA
    refine ⟨k / 2, by omega, y9, x9, optMul p xo xt ms, optMul p xt xt ms, _, optMul_length _ _ _ _ h8, optMul_length _ _ _ _ h8, (optMul_in hp0 _ _ _).bd hp1, ?_, hA.to' (by k_extra "m sub") (by k_extra "m facts")⟩
    obtain ⟨k', rfl⟩ : ∃ k', k = k' + 1 := ⟨k - 1, by omega⟩
    rw [← ek, powW, if_pos hk1]
  · rename_i hb1 _ _ _
    rw [and_one] at hb1
    have hk1 : ¬ k % 2 = 1 := by omega
    refine d_F_mul W T (hK9.mono (by omega)) hA hp0 hp1 (x := t) (y := t) (by k_extra "m mem") (by k_extra "m mem") lt lt h6 h8 bt hbm ?_
    clear hA
    intro x9 s9 hA
    show wpAny _ _ _ _ _ _
    k_extra "wk"
    rw [half_one] at hA
    refine ⟨k / 2, by omega, o, x9, xo, optMul p xt xt ms, _, lo, optMul_length _ _ _ _ h8, (optMul_in hp0 _ _ _).bd hp1, ?_, hA.to' (by k_extra "m sub") (by k_extra "m facts")⟩
    obtain ⟨k', rfl⟩ : ∃ k', k = k' + 1 := ⟨k - 1, by omega⟩
    rw [← ek, powW, if_neg hk1]
  · have k0 : k = 0 := by omega
    subst k0
    rw [powW] at ek
    rw [ek] at hA
    exact h _ _ (At.to' hA (by k_extra "m sub") (by k_extra "m facts"))

end

section
variable {prog : Program} {w : World} {A : Around} {E : Value → Shared → Prop} {D : Dat} {Fs : List Fact} {R : List Res} {s : Shared} {Q : Value → Shared → Prop}
def lawAt (ns : List Int) (k : Nat) : Int := let n := if k < ns.length then ns.getD k 0 else 5 * k + 2; if -1000000000 < n ∧ n < 1000000000 then n else n.fmod 1000003
set_option maxHeartbeats 4000000 in
set_option maxRecDepth 100000 in
theorem s_law_at {l : Addr} {vs : List Value} {ns : List Int} {k : Nat} {t : Tok} (W : Wd (hd.heap_39 w.params) D) (hK : Ok A 10) (H : At D Fs R s) (hm : ListF l vs ∈ Fs) (hi : IntsAre vs ns) (hz : vs.length < 2 ^ 60) (hk : k < 2 ^ 40)
    (h : ∀ t s', At D Fs R s' → Q (.int (lawAt ns k) t) s') : codeAny (model prog w) A (.call (.ref 467) ⟨[.ref l, .int k t], []⟩) (Ret Q) s := by
  refine' v_call [("k", .int k t), ("script", .ref l)] ?W H hK ?ho ?hcd ?hb ?hl ?hm ?_ ?c1 ?c2 ?c3 ?c4
  k_extra "m enter"
  clear H
  have hil := hi.length
  repeat' walk1
  all_goals (refine fin_int h hA (by k_extra "m sub") (by k_extra "m facts") ?_; have hil := hi.length; unfold lawAt; dsimp only; (try simp only [Int.toNat_natCast] at *); (repeat' split) <;> omega)


def lawPrimes : List Int := [7, 11, 13, 19, 31, 43, 67, 127]
set_option maxHeartbeats 4000000 in
set_option maxRecDepth 100000 in
theorem s_law_primes (W : Wd (hd.heap_39 w.params) D) (hk : Ok A 10) (H : At D Fs R s)
    (h : ∀ l vs s', IntsAre vs lawPrimes → At D (ListF l vs :: Fs) R s' → Q (.ref l) s') : codeAny (model prog w) A (.call (.ref 460) ⟨[], []⟩) (Ret Q) s := by
  refine' v_call [] ?W H hk ?ho ?hcd ?hb ?hl ?hm ?_ ?c1 ?c2 ?c3 ?c4
  k_extra "m enter"
  clear H
  repeat' walk1
  exact h _ _ _ (by unfold lawPrimes; repeat constructor) ((hA.fzL .head).to (by k_extra "m sub"))

def lawValue (ns : List Int) (u m : Int) : Int := ns.reverse.foldl (fun told n => (told * u + n).fmod m) 0
theorem foldl_take_succ {α β : Type} (f : β → α → β) (b : β) (l : List α) (i : Nat) (x : α) (h : l[i]? = some x) : (l.take (i + 1)).foldl f b = f ((l.take i).foldl f b) x := by
  rw [List.take_add_one, h]; simp
set_option maxHeartbeats 4000000 in
set_option maxRecDepth 100000 in
theorem s_law_value {l : Addr} {vs : List Value} {ns : List Int} {u m : Int} {t1 t2 : Tok} (W : Wd (hd.heap_39 w.params) D) (hk : Ok A 10) (H : At D Fs R s) (hm : ListF l vs ∈ Fs) (hi : IntsAre vs ns) (hz : vs.length < 1000) (hm0 : m ≠ 0) (hu : ∀ a, IntMulOk a u)
    (h : ∀ t s', At D Fs R s' → Q (.int (lawValue ns u m) t) s') : codeAny (model prog w) A (.call (.ref 481) ⟨[.ref l, .int u t1, .int m t2], []⟩) (Ret Q) s := by
  refine' v_call [("m", .int m t2), ("u", .int u t1), ("numbers", .ref l)] ?W H hk ?ho ?hcd ?hb ?hl ?hm ?_ ?c1 ?c2 ?c3 ?c4
  k_extra "m enter"
  clear H
  repeat' walk1
  refine' r_for (fun i s => ∃ t, At D (ListF l9 vs.reverse :: Fs) (LItR I9 l9 i :: Vars L9 [("m", .int m t2), ("u", .int u t1), ("numbers", .ref l), ("told", .int ((ns.reverse.take i).foldl (fun told n => (told * u + n).fmod m) 0) t)] :: R) s)
    (hN9 false D.ng) ⟨_, _, rfl⟩ hK9.handled ⟨_, hA⟩ ?_ ?_
  · rintro i s hlt ⟨t, H⟩
    refine ⟨_, _, _, H, .head _, .head, ?_⟩
    rintro v F s ⟨hv, rfl⟩ hA
    clear H
    obtain ⟨x, t3, rfl, hx⟩ := IntsAre.at hi.reverse i v hv
    have hmul := hu ((ns.reverse.take i).foldl (fun told n => (told * u + n).fmod m) 0)
    repeat' walk1
    exact ⟨_, by rw [foldl_take_succ _ _ _ _ _ hx]; k_extra "m to"⟩
  · rintro s ⟨t, H⟩
    refine ⟨_, _, _, H, .head _, .head, fun s hA => ?_⟩
    clear H
    show wpAny _ _ _ _ _ _
    repeat' walk1
    refine fin_int h hA (by k_extra "m sub") (by k_extra "m facts") ?_
    unfold lawValue
    rw [List.take_of_length_le (by simp [hi.length])]

theorem getD_of {ns : List Int} {i : Nat} {x : Int} (h : ns[i]? = some x) : ns.getD i 0 = x := by simp [List.getD, h]
/-- whole[k] = (whole[k] - u*rest[k]) % m; whole[k+1] = (whole[k+1] + rest[k]) % m -/
def rowsStep (rest : List Int) (u m : Int) (w : List Int) (k : Nat) : List Int :=
  let w1 := w.set k ((w.getD k 0 - u * rest.getD k 0).fmod m)
  w1.set (k + 1) ((w1.getD (k + 1) 0 + rest.getD k 0).fmod m)
def rowsUpto (rest : List Int) (u m : Int) (i : Nat) : List Int := (List.range i).foldl (rowsStep rest u m) (List.replicate (rest.length + 1) 0)
def lawRows (rest : List Int) (u m : Int) : List Int := let w := rowsUpto rest u m rest.length; w.set rest.length ((w.getD rest.length 0 - u).fmod m)
theorem rowsUpto_succ (rest : List Int) (u m : Int) (i : Nat) : rowsUpto rest u m (i + 1) = rowsStep rest u m (rowsUpto rest u m i) i := by
  unfold rowsUpto; rw [List.range_succ, List.foldl_append]; rfl
theorem rowsUpto_length (rest : List Int) (u m : Int) (i : Nat) : (rowsUpto rest u m i).length = rest.length + 1 := by
  induction i with
  | zero => simp [rowsUpto]
  | succ i ih => rw [rowsUpto_succ]; simp [rowsStep, ih]
set_option maxHeartbeats 4000000 in
set_option maxRecDepth 100000 in
theorem s_law_rows {l : Addr} {vs : List Value} {ns : List Int} {u m : Int} {t1 t2 : Tok} (W : Wd (hd.heap_39 w.params) D) (hk : Ok A 10) (H : At D Fs R s) (hm : ListF l vs ∈ Fs) (hi : IntsAre vs ns) (hz : vs.length < 1000) (hm0 : m ≠ 0) (hu : ∀ a, IntMulOk u a)
    (h : ∀ l vs s', IntsAre vs (lawRows ns u m) → At D (ListF l vs :: Fs) R s' → Q (.ref l) s') : codeAny (model prog w) A (.call (.ref 493) ⟨[.ref l, .int u t1, .int m t2], []⟩) (Ret Q) s := by
  refine' v_call [("m", .int m t2), ("u", .int u t1), ("rest", .ref l)] ?W H hk ?ho ?hcd ?hb ?hl ?hm ?_ ?c1 ?c2 ?c3 ?c4
  k_extra "m enter"
  clear H
  repeat' walk1
  have hil := hi.length
  have hn : ((vs.length : Int) - 0).toNat = ns.length := by omega
  rw [hn] at hA hN9
  have hn1 : ((vs.length : Int) + 1).toNat = ns.length + 1 := by omega
  rw [hn1] at hA
  refine r_for (fun i s => ∃ vs', IntsAre vs' (rowsUpto ns u m i) ∧ At D (Tru :: Fs) (RItR I9 0 1 ns.length i :: Lst l9 vs' :: Vars L9 [("m", .int m t2), ("u", .int u t1), ("rest", .ref l), ("whole", .ref l9)] :: R) s)
    (hN9 false D.ng) ⟨_, _, rfl⟩ hK9.handled ⟨_, ints_rep _ _ _, by k_extra "m to"⟩ ?_ ?_
  · rintro i s hlt ⟨vs', hv', H⟩
    refine ⟨_, _, _, H, .head _, .head, ?_⟩
    rintro v F s ⟨⟨t3, rfl⟩, rfl⟩ hA
    clear H
    have hl' := hv'.length
    rw [rowsUpto_length] at hl'
    have hl2 := rowsUpto_length ns u m i
    have hiE : (0 : Int) + (i : Int) * 1 = i := by omega
    rw [hiE]
    have hmul := hu (ns.getD (i : Int).toNat 0)
    repeat' walk1
    have eN : ((i : Int) + 1).toNat = i + 1 := by omega
    have eM : ((i : Int)).toNat = i := by omega
    rw [eN, eM] at hA
    refine ⟨_, ?_, hA.to' (by k_extra "m sub") (by k_extra "m facts")⟩
    rw [rowsUpto_succ]
    exact ints_set (ints_set hv' _ _ _) _ _ _
  · rintro s ⟨vs', hv', H⟩
    refine ⟨_, _, _, H, .head _, .head, fun s hA => ?_⟩
    clear H
    show wpAny _ _ _ _ _ _
    have hl2 := rowsUpto_length ns u m ns.length
    have hl' := hv'.length
    rw [rowsUpto_length] at hl'
    repeat' walk1
    refine h _ _ _ ?_ (At.to' (At.fzL hA (by k_extra "m rm")) (by k_extra "m sub") (by k_extra "m facts"))
    have e : ((vs.length : Int)).toNat = ns.length := by omega
    rw [e]
    exact ints_set hv' _ _ _

end

section
local macro_rules | `(tactic| walk_at "call ref") => `(tactic| ((with_reducible rename At _ _ _ _ => $(Lean.mkIdent `hA):ident); refine r_use ?_; refine' s_FQ ?W ?hk $(Lean.mkIdent `hA):ident ?hp ?_; (case W => assumption); (case hk => k_extra "m ok"); (case hp => assumption); clear $(Lean.mkIdent `hA):ident; intro $(Lean.mkIdent `x9):ident $(Lean.mkIdent `s9):ident $(Lean.mkIdent `hA):ident))
local macro_rules | `(tactic| walk_at "call ref") => `(tactic| ((with_reducible rename At _ _ _ _ => $(Lean.mkIdent `hA):ident); refine r_use ?_; refine' s_FQ_made ?W ?hk $(Lean.mkIdent `hA):ident ?hm ?hp ?_; (case W => assumption); (case hk => k_extra "m ok"); (case hm => k_extra "m mem"); (case hp => assumption); clear $(Lean.mkIdent `hA):ident; intro $(Lean.mkIdent `x9):ident $(Lean.mkIdent `s9):ident $(Lean.mkIdent `hA):ident))
local macro_rules | `(tactic| walk_at "binaryOp Add ref ref") => `(tactic| ((with_reducible rename At _ _ _ _ => $(Lean.mkIdent `hA):ident); refine' d_FQ_add ?W ?hk $(Lean.mkIdent `hA):ident ?hm ?hm2 ?hp  ?_; (case W => assumption); (case hk => k_extra "m ok"); (case hm => k_extra "m mem"); (case hm2 => k_extra "m mem"); (case hp => assumption);  clear $(Lean.mkIdent `hA):ident; intro $(Lean.mkIdent `x9):ident $(Lean.mkIdent `s9):ident $(Lean.mkIdent `hA):ident))
local macro_rules | `(tactic| walk_at "inplaceOp Add ref ref") => `(tactic| ((with_reducible rename At _ _ _ _ => $(Lean.mkIdent `hA):ident); refine' i_FQ_add ?W ?hk $(Lean.mkIdent `hA):ident ?hm ?hm2 ?hp ?_; (case W => assumption); (case hk => k_extra "m ok"); (case hm => k_extra "m mem"); (case hm2 => k_extra "m mem"); (case hp => assumption); clear $(Lean.mkIdent `hA):ident; intro $(Lean.mkIdent `x9):ident $(Lean.mkIdent `s9):ident $(Lean.mkIdent `hA):ident))
local macro_rules | `(tactic| walk_at "binaryOp Sub ref ref") => `(tactic| ((with_reducible rename At _ _ _ _ => $(Lean.mkIdent `hA):ident); refine' d_FQ_sub ?W ?hk $(Lean.mkIdent `hA):ident ?hm ?hm2 ?hp  ?_; (case W => assumption); (case hk => k_extra "m ok"); (case hm => k_extra "m mem"); (case hm2 => k_extra "m mem"); (case hp => assumption);  clear $(Lean.mkIdent `hA):ident; intro $(Lean.mkIdent `x9):ident $(Lean.mkIdent `s9):ident $(Lean.mkIdent `hA):ident))
local macro_rules | `(tactic| walk_at "inplaceOp Sub ref ref") => `(tactic| ((with_reducible rename At _ _ _ _ => $(Lean.mkIdent `hA):ident); refine' i_FQ_sub ?W ?hk $(Lean.mkIdent `hA):ident ?hm ?hm2 ?hp ?_; (case W => assumption); (case hk => k_extra "m ok"); (case hm => k_extra "m mem"); (case hm2 => k_extra "m mem"); (case hp => assumption); clear $(Lean.mkIdent `hA):ident; intro $(Lean.mkIdent `x9):ident $(Lean.mkIdent `s9):ident $(Lean.mkIdent `hA):ident))
local macro_rules | `(tactic| walk_at "binaryOp Mult ref ref") => `(tactic| ((with_reducible rename At _ _ _ _ => $(Lean.mkIdent `hA):ident); refine' d_FQ_mul ?W ?hk $(Lean.mkIdent `hA):ident ?hm ?hm2 ?hp ?hj ?_; (case W => assumption); (case hk => k_extra "m ok"); (case hm => k_extra "m mem"); (case hm2 => k_extra "m mem"); (case hp => assumption); (case hj => k_extra "m mulok"); clear $(Lean.mkIdent `hA):ident; intro $(Lean.mkIdent `x9):ident $(Lean.mkIdent `s9):ident $(Lean.mkIdent `hA):ident))
local macro_rules | `(tactic| walk_at "unaryOp USub ref") => `(tactic| ((with_reducible rename At _ _ _ _ => $(Lean.mkIdent `hA):ident); refine' d_FQ_neg ?W ?hk $(Lean.mkIdent `hA):ident ?hm ?hp ?_; (case W => assumption); (case hk => k_extra "m ok"); (case hm => k_extra "m mem"); (case hp => assumption); clear $(Lean.mkIdent `hA):ident; intro $(Lean.mkIdent `x9):ident $(Lean.mkIdent `s9):ident $(Lean.mkIdent `hA):ident))
local macro_rules | `(tactic| walk_at "call ref") => `(tactic| ((with_reducible rename At _ _ _ _ => $(Lean.mkIdent `hA):ident); refine r_use ?_; refine' s_FQs ?W ?hk $(Lean.mkIdent `hA):ident ?hp ?hm ?_; (case W => assumption); (case hk => k_extra "m ok"); (case hp => assumption); (case hm => k_extra "m mem"); clear $(Lean.mkIdent `hA):ident; intro $(Lean.mkIdent `x9):ident $(Lean.mkIdent `s9):ident $(Lean.mkIdent `hA):ident))
local macro_rules | `(tactic| walk_at "call ref") => `(tactic| ((with_reducible rename At _ _ _ _ => $(Lean.mkIdent `hA):ident); refine r_use ?_; refine' s_P_corr0 ?W ?hk $(Lean.mkIdent `hA):ident ?hp ?hx ?hd ?hmp ?hm ?_; (case W => assumption); (case hk => k_extra "m ok"); (case hp => assumption); (case hx => k_extra "m mem"); (case hd => k_extra "m mem"); (case hmp => exact rfl); (case hm => k_extra "m mem"); clear $(Lean.mkIdent `hA):ident; intro $(Lean.mkIdent `x9):ident $(Lean.mkIdent `s9):ident $(Lean.mkIdent `hA):ident))
local macro_rules | `(tactic| walk_at "call ref") => `(tactic| ((with_reducible rename At _ _ _ _ => $(Lean.mkIdent `hA):ident); refine r_use ?_; refine' s_P ?W ?T ?hk $(Lean.mkIdent `hA):ident ?hp ?h1 ?h2 ?h3 ?h4 ?h5 ?h6 ?_; (case W => assumption); (case T => assumption); (case hk => k_extra "m ok"); (case hp => assumption); (case h2 => k_extra "m mem"); (case h1 => k_extra "m seq"); (case h4 => assumption); (case h3 => k_extra "m seq"); (case h5 => k_extra "m lens"); (case h6 => k_extra "m lens"); clear $(Lean.mkIdent `hA):ident; intro $(Lean.mkIdent `x9):ident $(Lean.mkIdent `s9):ident $(Lean.mkIdent `hA):ident))
local macro_rules | `(tactic| walk_at "call ref") => `(tactic| ((with_reducible rename At _ _ _ _ => $(Lean.mkIdent `hA):ident); refine r_use ?_; refine' s_P_made ?W ?T ?hk $(Lean.mkIdent `hA):ident ?hp ?hm ?h1 ?h2 ?h5 ?h6 ?_; (case W => assumption); (case T => assumption); (case hk => k_extra "m ok"); (case hp => assumption); (case hm => k_extra "m mem"); (case h2 => k_extra "m mem"); (case h1 => k_extra "m seq"); (case h5 => k_extra "m lens"); (case h6 => k_extra "m lens"); clear $(Lean.mkIdent `hA):ident; intro $(Lean.mkIdent `x9):ident $(Lean.mkIdent `s9):ident $(Lean.mkIdent `hA):ident))
local macro_rules | `(tactic| walk_at "binaryOp FloorDiv int int") => `(tactic| ((with_reducible rename At _ _ _ _ => $(Lean.mkIdent `hA):ident); refine r_fdiv $(Lean.mkIdent `hA):ident (by omega) (by exact PyProof.noPylong_small (by omega)) ?_; clear $(Lean.mkIdent `hA):ident; intro $(Lean.mkIdent `t9):ident $(Lean.mkIdent `s9):ident $(Lean.mkIdent `hA):ident))
local macro_rules | `(tactic| walk_at "call ref") => `(tactic| ((with_reducible rename At _ _ _ _ => $(Lean.mkIdent `hA):ident); refine r_use ?_; refine' s_O ?W ?T ?hk $(Lean.mkIdent `hA):ident ?hp ?h1 ?h2 ?h3 ?h4 ?h5 ?h6 ?h8 ?_; (case W => assumption); (case T => assumption); (case hk => k_extra "m ok"); (case hp => assumption); (case h1 => k_extra "m mem"); (case h2 => k_extra "m ints"); (case h4 => assumption); (case h3 => k_extra "m seq"); (case h5 => k_extra "m lens"); (case h6 => k_extra "m lens"); (case h8 => k_extra "m lens"); clear $(Lean.mkIdent `hA):ident; intro $(Lean.mkIdent `x9):ident $(Lean.mkIdent `s9):ident $(Lean.mkIdent `hA):ident))
local macro_rules | `(tactic| walk_at "call ref") => `(tactic| ((with_reducible rename At _ _ _ _ => $(Lean.mkIdent `hA):ident); refine r_use ?_; refine' s_O_made ?W ?T ?hk $(Lean.mkIdent `hA):ident ?hp ?hm ?h1 ?h2 ?h5 ?h6 ?h8 ?_; (case W => assumption); (case T => assumption); (case hk => k_extra "m ok"); (case hp => assumption); (case hm => k_extra "m mem"); (case h1 => k_extra "m mem"); (case h2 => k_extra "m ints"); (case h5 => k_extra "m lens"); (case h6 => k_extra "m lens"); (case h8 => k_extra "m lens"); clear $(Lean.mkIdent `hA):ident; intro $(Lean.mkIdent `x9):ident $(Lean.mkIdent `s9):ident $(Lean.mkIdent `hA):ident))
local macro_rules | `(tactic| walk_at "binaryOp BitAnd int int") => `(tactic| ((with_reducible rename At _ _ _ _ => $(Lean.mkIdent `hA):ident); refine r_and $(Lean.mkIdent `hA):ident ?_; clear $(Lean.mkIdent `hA):ident; intro $(Lean.mkIdent `t9):ident $(Lean.mkIdent `s9):ident $(Lean.mkIdent `hA):ident))
local macro_rules | `(tactic| walk_at "inplaceOp RShift int int") => `(tactic| ((with_reducible rename At _ _ _ _ => $(Lean.mkIdent `hA):ident); refine r_irsh $(Lean.mkIdent `hA):ident (by decide) ?_; clear $(Lean.mkIdent `hA):ident; intro $(Lean.mkIdent `t9):ident $(Lean.mkIdent `s9):ident $(Lean.mkIdent `hA):ident))
local macro_rules | `(tactic| walk_at "call ref") => `(tactic| ((with_reducible rename At _ _ _ _ => $(Lean.mkIdent `hA):ident); refine r_use ?_; refine' s_F ?W ?T ?hk $(Lean.mkIdent `hA):ident ?hp ?h1 ?h2 ?h3 ?h4 ?h5 ?h6 ?h8 ?_; (case W => assumption); (case T => assumption); (case hk => k_extra "m ok"); (case hp => assumption); (case h1 => k_extra "m mem"); (case h2 => k_extra "m ints"); (case h4 => assumption); (case h3 => k_extra "m seq"); (case h5 => k_extra "m lens"); (case h6 => k_extra "m lens"); (case h8 => k_extra "m lens"); clear $(Lean.mkIdent `hA):ident; intro $(Lean.mkIdent `x9):ident $(Lean.mkIdent `s9):ident $(Lean.mkIdent `hA):ident))
local macro_rules | `(tactic| walk_at "call ref") => `(tactic| ((with_reducible rename At _ _ _ _ => $(Lean.mkIdent `hA):ident); refine r_use ?_; refine' s_F_made ?W ?T ?hk $(Lean.mkIdent `hA):ident ?hp ?hm ?h1 ?h2 ?h5 ?h6 ?h8 ?_; (case W => assumption); (case T => assumption); (case hk => k_extra "m ok"); (case hp => assumption); (case hm => k_extra "m mem"); (case h1 => k_extra "m mem"); (case h2 => k_extra "m ints"); (case h5 => k_extra "m lens"); (case h6 => k_extra "m lens"); (case h8 => k_extra "m lens"); clear $(Lean.mkIdent `hA):ident; intro $(Lean.mkIdent `x9):ident $(Lean.mkIdent `s9):ident $(Lean.mkIdent `hA):ident))
local macro_rules | `(tactic| walk_at "binaryOp BitAnd int int") => `(tactic| ((with_reducible rename At _ _ _ _ => $(Lean.mkIdent `hA):ident); refine r_and $(Lean.mkIdent `hA):ident ?_; clear $(Lean.mkIdent `hA):ident; intro $(Lean.mkIdent `t9):ident $(Lean.mkIdent `s9):ident $(Lean.mkIdent `hA):ident))
local macro_rules | `(tactic| walk_at "inplaceOp RShift int int") => `(tactic| ((with_reducible rename At _ _ _ _ => $(Lean.mkIdent `hA):ident); refine r_irsh $(Lean.mkIdent `hA):ident (by decide) ?_; clear $(Lean.mkIdent `hA):ident; intro $(Lean.mkIdent `t9):ident $(Lean.mkIdent `s9):ident $(Lean.mkIdent `hA):ident))
local macro_rules | `(tactic| walk_at "call ref") => `(tactic| ((with_reducible rename At _ _ _ _ => $(Lean.mkIdent `hA):ident); refine r_use ?_; refine' s_law_made ?W ?T ?hk $(Lean.mkIdent `hA):ident ?hp ?h1 ?h2 ?h3 ?h4 ?h5 ?h6 ?h8 ?_; (case W => assumption); (case T => assumption); (case hk => k_extra "m ok"); (case hp => assumption); (case h1 => k_extra "m mem"); (case h2 => assumption); (case h3 => k_extra "m mem"); (case h4 => assumption); (case h5 => k_extra "m lens"); (case h6 => k_extra "m lens"); (case h8 => k_extra "m lens"); clear $(Lean.mkIdent `hA):ident; intro $(Lean.mkIdent `x9):ident $(Lean.mkIdent `s9):ident $(Lean.mkIdent `hA):ident))
local macro_rules | `(tactic| walk_at "call ref") => `(tactic| ((with_reducible rename At _ _ _ _ => $(Lean.mkIdent `hA):ident); refine r_use ?_; refine' s_law_at ?W ?hk $(Lean.mkIdent `hA):ident ?hm ?hi ?hz ?kk ?_; (case W => assumption); (case hk => k_extra "m ok"); (case hm => k_extra "m mem"); (case hi => assumption); (case hz => k_extra "m lens"); (case kk => decide); clear $(Lean.mkIdent `hA):ident; intro $(Lean.mkIdent `t9):ident $(Lean.mkIdent `s9):ident $(Lean.mkIdent `hA):ident))
local macro_rules | `(tactic| walk_at "call ref") => `(tactic| ((with_reducible rename At _ _ _ _ => $(Lean.mkIdent `hA):ident); refine r_use ?_; refine' s_law_primes ?W ?hk $(Lean.mkIdent `hA):ident ?_; (case W => assumption); (case hk => k_extra "m ok"); clear $(Lean.mkIdent `hA):ident; intro $(Lean.mkIdent `l9):ident $(Lean.mkIdent `v9):ident $(Lean.mkIdent `s9):ident $(Lean.mkIdent `hi9):ident $(Lean.mkIdent `hA):ident))
local macro_rules | `(tactic| walk_at "call ref") => `(tactic| ((with_reducible rename At _ _ _ _ => $(Lean.mkIdent `hA):ident); refine r_use ?_; refine' s_law_value ?W ?hk $(Lean.mkIdent `hA):ident ?hm ?hi ?hz ?hm0 ?hu ?_; (case W => assumption); (case hk => k_extra "m ok"); (case hm => k_extra "m mem"); (case hi => assumption); (case hz => k_extra "m lens"); (case hm0 => assumption); (case hu => assumption); clear $(Lean.mkIdent `hA):ident; intro $(Lean.mkIdent `t9):ident $(Lean.mkIdent `s9):ident $(Lean.mkIdent `hA):ident))
local macro_rules | `(tactic| walk_at "call ref") => `(tactic| ((with_reducible rename At _ _ _ _ => $(Lean.mkIdent `hA):ident); refine r_use ?_; refine' s_law_rows ?W ?hk $(Lean.mkIdent `hA):ident ?hm ?hi ?hz ?hm0 ?hu ?_; (case W => assumption); (case hk => k_extra "m ok"); (case hm => k_extra "m mem"); (case hi => assumption); (case hz => k_extra "m lens"); (case hm0 => assumption); (case hu => assumption); clear $(Lean.mkIdent `hA):ident; intro $(Lean.mkIdent `l9):ident $(Lean.mkIdent `v9):ident $(Lean.mkIdent `s9):ident $(Lean.mkIdent `hi9):ident $(Lean.mkIdent `hA):ident))
local macro_rules | `(tactic| walk_at "getAttr ref") => `(tactic| ((with_reducible rename At _ _ _ _ => $(Lean.mkIdent `hA):ident); refine' r_eoc ?W $(Lean.mkIdent `hA):ident ?hm ?he ?_; (case W => assumption); (case he => exact rfl); (case hm => k_extra "m mem"); clear $(Lean.mkIdent `hA):ident; intro $(Lean.mkIdent `y9):ident $(Lean.mkIdent `v9):ident $(Lean.mkIdent `s9):ident $(Lean.mkIdent `hi9):ident $(Lean.mkIdent `hA):ident))
local macro_rules | `(tactic| walk_at "call ref") => `(tactic| ((with_reducible rename At _ _ _ _ => $(Lean.mkIdent `hA):ident); refine r_use ?_; refine' s_law_at_root ?W ?hk $(Lean.mkIdent `hA):ident ?hm0 ?hu ?hm ?h6 ?_; (case W => assumption); (case hk => k_extra "m ok"); (case hm0 => assumption); (case hu => assumption); (case hm => k_extra "m mem"); (case h6 => k_extra "m lens"); clear $(Lean.mkIdent `hA):ident; intro $(Lean.mkIdent `t9):ident $(Lean.mkIdent `s9):ident $(Lean.mkIdent `hA):ident))

variable {prog : Program} {w : World} {A : Around} {E : Value → Shared → Prop} {D : Dat} {Fs : List Fact} {R : List Res} {s : Shared} {Q : Value → Shared → Prop}
inductive Kd | pln | opt | f2
def EltF : Kd → Addr → Int → List Int → List Int → Fact
  | .pln, x, p, ns, ms => PlnF 335 449 x p ns ms
  | .opt, x, p, ns, ms => OptF 161 x p ns ms
  | .f2, x, p, ns, ms => OptF 190 x p ns ms
def kdOf (form : Int) (d : Nat) : Kd := if form = 0 then .pln else if form = 2 ∧ d = 2 then .f2 else .opt
set_option maxHeartbeats 4000000 in
set_option maxRecDepth 100000 in
theorem s_law_made {form m : Int} {lc lm : Addr} {t1 t2 : Tok} {vs us : List Value} {ns ms : List Int} (W : Wd (hd.heap_39 w.params) D) (T : ∀ t ∈ WT, t ∈ D.tabs) (hk : Ok A 30) (H : At D Fs R s) (hp : m ≠ 0) (h1 : ListF lc vs ∈ Fs) (h2 : IntsAre vs ns) (h3 : ListF lm us ∈ Fs) (h4 : IntsAre us ms) (h5 : vs.length = us.length) (h6 : us.length < 1000) (h8 : 0 < us.length)
    (h : ∀ x s', At D (EltF (kdOf form ms.length) x m (ns.map fun k => k.fmod m) ms :: Fs) R s' → Q (.ref x) s') : codeAny (model prog w) A (.call (.ref 474) ⟨[.int form t1, .ref lc, .ref lm, .int m t2], []⟩) (Ret Q) s := by
  refine' v_call [("m", .int m t2), ("rows", .ref lm), ("numbers", .ref lc), ("form", .int form t1)] ?W H hk ?ho ?hcd ?hb ?hl ?hm ?_ ?c1 ?c2 ?c3 ?c4
  k_extra "m enter"
  clear H
  have h2L := h2.length
  have h4L := h4.length
  k_extra "wk"
  · have H1 := hA.scsI (C := 335) (p := m) h2
    clear hA
    have hA := H1
    clear H1
    k_extra "wk"
    refine h _ _ ?_
    have e : kdOf form ms.length = .pln := by unfold kdOf; rw [if_pos (by omega)]
    rw [e]
    change At D (PlnF 335 449 _ _ _ _ :: _) _ _
    exact At.to' hA (by k_extra "m sub") (by k_extra "m facts")
  · refine h _ _ ?_
    have e : kdOf form ms.length = .f2 := by unfold kdOf; rw [if_neg (by omega), if_pos (by omega)]
    rw [e]
    change At D (OptF 190 _ _ _ _ :: _) _ _
    exact At.to' hA (by k_extra "m sub") (by k_extra "m facts")
  all_goals
    refine h _ _ ?_
    have e : kdOf form ms.length = .opt := by unfold kdOf; rw [if_neg (by omega), if_neg (by omega)]
    rw [e]
    change At D (OptF 161 _ _ _ _ :: _) _ _
    exact At.to' hA (by k_extra "m sub") (by k_extra "m facts")
local macro_rules | `(tactic| walk_at "call ref") => `(tactic| ((with_reducible rename At _ _ _ _ => $(Lean.mkIdent `hA):ident); refine r_use ?_; refine' s_law_made ?W ?T ?hk $(Lean.mkIdent `hA):ident ?hp ?h1 ?h2 ?h3 ?h4 ?h5 ?h6 ?h8 ?_; (case W => assumption); (case T => assumption); (case hk => k_extra "m ok"); (case hp => assumption); (case h1 => k_extra "m mem"); (case h2 => assumption); (case h3 => k_extra "m mem"); (case h4 => assumption); (case h5 => k_extra "m lens"); (case h6 => k_extra "m lens"); (case h8 => k_extra "m lens"); clear $(Lean.mkIdent `hA):ident; intro $(Lean.mkIdent `x9):ident $(Lean.mkIdent `s9):ident $(Lean.mkIdent `hA):ident))
local macro_rules | `(tactic| walk_at "call ref") => `(tactic| ((with_reducible rename At _ _ _ _ => $(Lean.mkIdent `hA):ident); refine r_use ?_; refine' s_law_at ?W ?hk $(Lean.mkIdent `hA):ident ?hm ?hi ?hz ?kk ?_; (case W => assumption); (case hk => k_extra "m ok"); (case hm => k_extra "m mem"); (case hi => assumption); (case hz => k_extra "m lens"); (case kk => decide); clear $(Lean.mkIdent `hA):ident; intro $(Lean.mkIdent `t9):ident $(Lean.mkIdent `s9):ident $(Lean.mkIdent `hA):ident))
local macro_rules | `(tactic| walk_at "call ref") => `(tactic| ((with_reducible rename At _ _ _ _ => $(Lean.mkIdent `hA):ident); refine r_use ?_; refine' s_law_primes ?W ?hk $(Lean.mkIdent `hA):ident ?_; (case W => assumption); (case hk => k_extra "m ok"); clear $(Lean.mkIdent `hA):ident; intro $(Lean.mkIdent `l9):ident $(Lean.mkIdent `v9):ident $(Lean.mkIdent `s9):ident $(Lean.mkIdent `hi9):ident $(Lean.mkIdent `hA):ident))
local macro_rules | `(tactic| walk_at "call ref") => `(tactic| ((with_reducible rename At _ _ _ _ => $(Lean.mkIdent `hA):ident); refine r_use ?_; refine' s_law_value ?W ?hk $(Lean.mkIdent `hA):ident ?hm ?hi ?hz ?hm0 ?hu ?_; (case W => assumption); (case hk => k_extra "m ok"); (case hm => k_extra "m mem"); (case hi => assumption); (case hz => k_extra "m lens"); (case hm0 => assumption); (case hu => assumption); clear $(Lean.mkIdent `hA):ident; intro $(Lean.mkIdent `t9):ident $(Lean.mkIdent `s9):ident $(Lean.mkIdent `hA):ident))
local macro_rules | `(tactic| walk_at "call ref") => `(tactic| ((with_reducible rename At _ _ _ _ => $(Lean.mkIdent `hA):ident); refine r_use ?_; refine' s_law_rows ?W ?hk $(Lean.mkIdent `hA):ident ?hm ?hi ?hz ?hm0 ?hu ?_; (case W => assumption); (case hk => k_extra "m ok"); (case hm => k_extra "m mem"); (case hi => assumption); (case hz => k_extra "m lens"); (case hm0 => assumption); (case hu => assumption); clear $(Lean.mkIdent `hA):ident; intro $(Lean.mkIdent `l9):ident $(Lean.mkIdent `v9):ident $(Lean.mkIdent `s9):ident $(Lean.mkIdent `hi9):ident $(Lean.mkIdent `hA):ident))
/-- the values of the coefficients of an element of any kind -/
def ElsH (kd : Kd) (p : Int) (vs : List Value) (ns : List Int) (h : Heap) : Prop := match kd with
  | .pln => FQs 335 p h vs ns
  | .opt => IntsAre vs ns
  | .f2 => IntsAre vs ns
theorem ElsH.ext {kd : Kd} {p : Int} {vs : List Value} {ns : List Int} {h h' : Heap} (k : Ext h h') : ElsH kd p vs ns h → ElsH kd p vs ns h' := by
  cases kd
  · exact fun x => FQs.ext k x
  · exact id
  · exact id
def ElsF (kd : Kd) (p : Int) (vs : List Value) (ns : List Int) : Fact := ⟨ElsH kd p vs ns, ElsH.ext⟩
theorem At.addF {F : Fact} (H : At D Fs R s) (h : F.holds (seen D R s.heap)) : At D (F :: Fs) R s := ⟨H.os, H.gens, H.tab, H.cs, H.nodup, H.res, H.base, fun G hG => by
  rcases List.mem_cons.mp hG with rfl | hG
  · exact h
  · exact H.facts _ hG⟩
theorem r_eoc {kd : Kd} {y : Addr} {p : Int} {ns ms : List Int} {name : Str} {expr : Bool} (W : Wd (hd.heap_39 w.params) D) (H : At D Fs R s) (hm : EltF kd y p ns ms ∈ Fs) (e : name = "coeffs")
    (h : ∀ tC vs s', vs.length = ns.length → At D (TupF tC vs :: ElsF kd p vs ns :: Fs) R s' → Q (.ref tC) s') : wpAny (model prog w) A (getAttr (.ref y) name expr) Q E s := by
  subst e
  cases kd with
  | pln =>
    refine' r_pc (K := hd.heap_39 w.params) W H ?h1 ?h2 ?h3 ?h4 (hm : PlnF 335 449 y p ns ms ∈ Fs) rfl fun tC vs s' hl H' => h tC vs s' hl H'
    case h1 => k_is
    case h2 => k_is
    case h3 => k_is
    case h4 => k_is
  | opt =>
    refine' r_oc (K := hd.heap_39 w.params) W H ?h1 ?h2 ?h3 ?h4 (hm : OptF 161 y p ns ms ∈ Fs) rfl fun tC vs s' hi H' => h tC vs s' hi.length (At.sub (At.addF H' (F := ElsF .opt p vs ns) hi) (subf_cons (.tail _ (.head _)) (subf_cons (.head _) fun F hF => .tail _ (.tail _ hF))))
    case h1 => k_is
    case h2 => k_is
    case h3 => k_is
    case h4 => k_is
  | f2 =>
    refine' r_oc (K := hd.heap_39 w.params) W H ?h1 ?h2 ?h3 ?h4 (hm : OptF 190 y p ns ms ∈ Fs) rfl fun tC vs s' hi H' => h tC vs s' hi.length (At.sub (At.addF H' (F := ElsF .f2 p vs ns) hi) (subf_cons (.tail _ (.head _)) (subf_cons (.head _) fun F hF => .tail _ (.tail _ hF))))
    case h1 => k_is
    case h2 => k_is
    case h3 => k_is
    case h4 => k_is
local macro_rules | `(tactic| walk_at "getAttr ref") => `(tactic| ((with_reducible rename At _ _ _ _ => $(Lean.mkIdent `hA):ident); refine' r_eoc ?W $(Lean.mkIdent `hA):ident ?hm ?he ?_; (case W => assumption); (case he => exact rfl); (case hm => k_extra "m mem"); clear $(Lean.mkIdent `hA):ident; intro $(Lean.mkIdent `y9):ident $(Lean.mkIdent `v9):ident $(Lean.mkIdent `s9):ident $(Lean.mkIdent `hi9):ident $(Lean.mkIdent `hA):ident))
/-- one coefficient: an int or a field element -/
theorem At.pickE {kd : Kd} {p : Int} {vs : List Value} {ns : List Int} {i : Nat} {v : Value} (H : At D Fs R s) (hm : ElsF kd p vs ns ∈ Fs) (hv : vs[i]? = some v) :
    (∃ n t, v = .int n t ∧ ns[i]? = some n) ∨ (∃ a n, v = .ref a ∧ ns[i]? = some n ∧ At D (FQF 335 a p n :: Fs) R s) := by
  have q := H.facts _ hm
  cases kd with
  | pln =>
    obtain ⟨a, n, e, hn, q⟩ := FQs.at (q : FQs _ _ _ _ _) i v hv
    exact .inr ⟨a, n, e, hn, H.addF (F := FQF 335 a p n) q⟩
  | opt => obtain ⟨n, t, e, hn⟩ := IntsAre.at (q : IntsAre vs ns) i v hv; exact .inl ⟨n, t, e, hn⟩
  | f2 => obtain ⟨n, t, e, hn⟩ := IntsAre.at (q : IntsAre vs ns) i v hv; exact .inl ⟨n, t, e, hn⟩
set_option maxHeartbeats 4000000 in
set_option maxRecDepth 100000 in
theorem s_law_at_root {k : Kd} {x : Addr} {u m p : Int} {t1 t2 : Tok} {ns ms : List Int} (W : Wd (hd.heap_39 w.params) D) (hk : Ok A 30) (H : At D Fs R s) (hm0 : m ≠ 0) (hu : ∀ a, IntMulOk a u) (hm : EltF k x p ns ms ∈ Fs) (h6 : ns.length < 1000)
    (h : ∀ t s', At D Fs R s' → Q (.int (lawValue ns u m) t) s') : codeAny (model prog w) A (.call (.ref 486) ⟨[.ref x, .int u t1, .int m t2], []⟩) (Ret Q) s := by
  refine' v_call [("m", .int m t2), ("u", .int u t1), ("element", .ref x)] ?W H hk ?ho ?hcd ?hb ?hl ?hm ?_ ?c1 ?c2 ?c3 ?c4
  k_extra "m enter"
  clear H
  k_extra "wk"
  have hlen : ns.length = v9.length := by omega
  refine' r_mapK (inG ns) (hN9 false _) ⟨_, _, rfl⟩ hK9.handled hA ?g1 ?g0 ?g2 inG.zero (fun _ _ _ q => q.len (by omega)) ?step ?done
  case g0 => decide
  case g2 => rfl
  case g1 => k_extra "m mem"
  case step =>
    clear hA
    intro C acc i ys Gs v F s hi hG hV H
    obtain ⟨hv, rfl⟩ := hV
    rcases (H.nil1 hG.2.2).pickE (vs := v9) (kd := k) (p := p) (ns := ns) (by k_extra "m mem") hv with ⟨na, ta, rfl, hna⟩ | ⟨a', na, rfl, hna, hA⟩
    · have hA := H.nil1 hG.2.2
      clear H
      k_extra "wk"
      exact hG.hold hna hA (by k_extra "m facts")
    · clear H
      k_extra "wk"
      exact hG.hold hna hA (by k_extra "m facts")
  case done =>
    clear hA
    intro C acc ys Gs s hG _ s H
    have hI := hG.done hlen
    have H1 := H.nil0 hG.2.2
    have hA := At.fzL H1 .head
    have hle := hI.length
    clear H H1
    k_extra "wk"
    exact fin_int h hA (by k_extra "m sub") (by k_extra "m facts") rfl
local macro_rules | `(tactic| walk_at "call ref") => `(tactic| ((with_reducible rename At _ _ _ _ => $(Lean.mkIdent `hA):ident); refine r_use ?_; refine' s_law_at_root ?W ?hk $(Lean.mkIdent `hA):ident ?hm0 ?hu ?hm ?h6 ?_; (case W => assumption); (case hk => k_extra "m ok"); (case hm0 => assumption); (case hu => assumption); (case hm => k_extra "m mem"); (case h6 => k_extra "m lens"); clear $(Lean.mkIdent `hA):ident; intro $(Lean.mkIdent `t9):ident $(Lean.mkIdent `s9):ident $(Lean.mkIdent `hA):ident))

end

section
local macro_rules | `(tactic| walk_at "call ref") => `(tactic| ((with_reducible rename At _ _ _ _ => $(Lean.mkIdent `hA):ident); refine r_use ?_; refine' s_FQ ?W ?hk $(Lean.mkIdent `hA):ident ?hp ?_; (case W => assumption); (case hk => k_extra "m ok"); (case hp => assumption); clear $(Lean.mkIdent `hA):ident; intro $(Lean.mkIdent `x9):ident $(Lean.mkIdent `s9):ident $(Lean.mkIdent `hA):ident))
local macro_rules | `(tactic| walk_at "call ref") => `(tactic| ((with_reducible rename At _ _ _ _ => $(Lean.mkIdent `hA):ident); refine r_use ?_; refine' s_FQ_made ?W ?hk $(Lean.mkIdent `hA):ident ?hm ?hp ?_; (case W => assumption); (case hk => k_extra "m ok"); (case hm => k_extra "m mem"); (case hp => assumption); clear $(Lean.mkIdent `hA):ident; intro $(Lean.mkIdent `x9):ident $(Lean.mkIdent `s9):ident $(Lean.mkIdent `hA):ident))
local macro_rules | `(tactic| walk_at "binaryOp Add ref ref") => `(tactic| ((with_reducible rename At _ _ _ _ => $(Lean.mkIdent `hA):ident); refine' d_FQ_add ?W ?hk $(Lean.mkIdent `hA):ident ?hm ?hm2 ?hp  ?_; (case W => assumption); (case hk => k_extra "m ok"); (case hm => k_extra "m mem"); (case hm2 => k_extra "m mem"); (case hp => assumption);  clear $(Lean.mkIdent `hA):ident; intro $(Lean.mkIdent `x9):ident $(Lean.mkIdent `s9):ident $(Lean.mkIdent `hA):ident))
local macro_rules | `(tactic| walk_at "inplaceOp Add ref ref") => `(tactic| ((with_reducible rename At _ _ _ _ => $(Lean.mkIdent `hA):ident); refine' i_FQ_add ?W ?hk $(Lean.mkIdent `hA):ident ?hm ?hm2 ?hp ?_; (case W => assumption); (case hk => k_extra "m ok"); (case hm => k_extra "m mem"); (case hm2 => k_extra "m mem"); (case hp => assumption); clear $(Lean.mkIdent `hA):ident; intro $(Lean.mkIdent `x9):ident $(Lean.mkIdent `s9):ident $(Lean.mkIdent `hA):ident))
local macro_rules | `(tactic| walk_at "binaryOp Sub ref ref") => `(tactic| ((with_reducible rename At _ _ _ _ => $(Lean.mkIdent `hA):ident); refine' d_FQ_sub ?W ?hk $(Lean.mkIdent `hA):ident ?hm ?hm2 ?hp  ?_; (case W => assumption); (case hk => k_extra "m ok"); (case hm => k_extra "m mem"); (case hm2 => k_extra "m mem"); (case hp => assumption);  clear $(Lean.mkIdent `hA):ident; intro $(Lean.mkIdent `x9):ident $(Lean.mkIdent `s9):ident $(Lean.mkIdent `hA):ident))
local macro_rules | `(tactic| walk_at "inplaceOp Sub ref ref") => `(tactic| ((with_reducible rename At _ _ _ _ => $(Lean.mkIdent `hA):ident); refine' i_FQ_sub ?W ?hk $(Lean.mkIdent `hA):ident ?hm ?hm2 ?hp ?_; (case W => assumption); (case hk => k_extra "m ok"); (case hm => k_extra "m mem"); (case hm2 => k_extra "m mem"); (case hp => assumption); clear $(Lean.mkIdent `hA):ident; intro $(Lean.mkIdent `x9):ident $(Lean.mkIdent `s9):ident $(Lean.mkIdent `hA):ident))
local macro_rules | `(tactic| walk_at "binaryOp Mult ref ref") => `(tactic| ((with_reducible rename At _ _ _ _ => $(Lean.mkIdent `hA):ident); refine' d_FQ_mul ?W ?hk $(Lean.mkIdent `hA):ident ?hm ?hm2 ?hp ?hj ?_; (case W => assumption); (case hk => k_extra "m ok"); (case hm => k_extra "m mem"); (case hm2 => k_extra "m mem"); (case hp => assumption); (case hj => k_extra "m mulok"); clear $(Lean.mkIdent `hA):ident; intro $(Lean.mkIdent `x9):ident $(Lean.mkIdent `s9):ident $(Lean.mkIdent `hA):ident))
local macro_rules | `(tactic| walk_at "unaryOp USub ref") => `(tactic| ((with_reducible rename At _ _ _ _ => $(Lean.mkIdent `hA):ident); refine' d_FQ_neg ?W ?hk $(Lean.mkIdent `hA):ident ?hm ?hp ?_; (case W => assumption); (case hk => k_extra "m ok"); (case hm => k_extra "m mem"); (case hp => assumption); clear $(Lean.mkIdent `hA):ident; intro $(Lean.mkIdent `x9):ident $(Lean.mkIdent `s9):ident $(Lean.mkIdent `hA):ident))
local macro_rules | `(tactic| walk_at "call ref") => `(tactic| ((with_reducible rename At _ _ _ _ => $(Lean.mkIdent `hA):ident); refine r_use ?_; refine' s_FQs ?W ?hk $(Lean.mkIdent `hA):ident ?hp ?hm ?_; (case W => assumption); (case hk => k_extra "m ok"); (case hp => assumption); (case hm => k_extra "m mem"); clear $(Lean.mkIdent `hA):ident; intro $(Lean.mkIdent `x9):ident $(Lean.mkIdent `s9):ident $(Lean.mkIdent `hA):ident))
local macro_rules | `(tactic| walk_at "call ref") => `(tactic| ((with_reducible rename At _ _ _ _ => $(Lean.mkIdent `hA):ident); refine r_use ?_; refine' s_P_corr0 ?W ?hk $(Lean.mkIdent `hA):ident ?hp ?hx ?hd ?hmp ?hm ?_; (case W => assumption); (case hk => k_extra "m ok"); (case hp => assumption); (case hx => k_extra "m mem"); (case hd => k_extra "m mem"); (case hmp => exact rfl); (case hm => k_extra "m mem"); clear $(Lean.mkIdent `hA):ident; intro $(Lean.mkIdent `x9):ident $(Lean.mkIdent `s9):ident $(Lean.mkIdent `hA):ident))
local macro_rules | `(tactic| walk_at "call ref") => `(tactic| ((with_reducible rename At _ _ _ _ => $(Lean.mkIdent `hA):ident); refine r_use ?_; refine' s_P ?W ?T ?hk $(Lean.mkIdent `hA):ident ?hp ?h1 ?h2 ?h3 ?h4 ?h5 ?h6 ?_; (case W => assumption); (case T => assumption); (case hk => k_extra "m ok"); (case hp => assumption); (case h2 => k_extra "m mem"); (case h1 => k_extra "m seq"); (case h4 => assumption); (case h3 => k_extra "m seq"); (case h5 => k_extra "m lens"); (case h6 => k_extra "m lens"); clear $(Lean.mkIdent `hA):ident; intro $(Lean.mkIdent `x9):ident $(Lean.mkIdent `s9):ident $(Lean.mkIdent `hA):ident))
local macro_rules | `(tactic| walk_at "call ref") => `(tactic| ((with_reducible rename At _ _ _ _ => $(Lean.mkIdent `hA):ident); refine r_use ?_; refine' s_P_made ?W ?T ?hk $(Lean.mkIdent `hA):ident ?hp ?hm ?h1 ?h2 ?h5 ?h6 ?_; (case W => assumption); (case T => assumption); (case hk => k_extra "m ok"); (case hp => assumption); (case hm => k_extra "m mem"); (case h2 => k_extra "m mem"); (case h1 => k_extra "m seq"); (case h5 => k_extra "m lens"); (case h6 => k_extra "m lens"); clear $(Lean.mkIdent `hA):ident; intro $(Lean.mkIdent `x9):ident $(Lean.mkIdent `s9):ident $(Lean.mkIdent `hA):ident))
local macro_rules | `(tactic| walk_at "binaryOp FloorDiv int int") => `(tactic| ((with_reducible rename At _ _ _ _ => $(Lean.mkIdent `hA):ident); refine r_fdiv $(Lean.mkIdent `hA):ident (by omega) (by exact PyProof.noPylong_small (by omega)) ?_; clear $(Lean.mkIdent `hA):ident; intro $(Lean.mkIdent `t9):ident $(Lean.mkIdent `s9):ident $(Lean.mkIdent `hA):ident))
local macro_rules | `(tactic| walk_at "call ref") => `(tactic| ((with_reducible rename At _ _ _ _ => $(Lean.mkIdent `hA):ident); refine r_use ?_; refine' s_O ?W ?T ?hk $(Lean.mkIdent `hA):ident ?hp ?h1 ?h2 ?h3 ?h4 ?h5 ?h6 ?h8 ?_; (case W => assumption); (case T => assumption); (case hk => k_extra "m ok"); (case hp => assumption); (case h1 => k_extra "m mem"); (case h2 => k_extra "m ints"); (case h4 => assumption); (case h3 => k_extra "m seq"); (case h5 => k_extra "m lens"); (case h6 => k_extra "m lens"); (case h8 => k_extra "m lens"); clear $(Lean.mkIdent `hA):ident; intro $(Lean.mkIdent `x9):ident $(Lean.mkIdent `s9):ident $(Lean.mkIdent `hA):ident))
local macro_rules | `(tactic| walk_at "call ref") => `(tactic| ((with_reducible rename At _ _ _ _ => $(Lean.mkIdent `hA):ident); refine r_use ?_; refine' s_O_made ?W ?T ?hk $(Lean.mkIdent `hA):ident ?hp ?hm ?h1 ?h2 ?h5 ?h6 ?h8 ?_; (case W => assumption); (case T => assumption); (case hk => k_extra "m ok"); (case hp => assumption); (case hm => k_extra "m mem"); (case h1 => k_extra "m mem"); (case h2 => k_extra "m ints"); (case h5 => k_extra "m lens"); (case h6 => k_extra "m lens"); (case h8 => k_extra "m lens"); clear $(Lean.mkIdent `hA):ident; intro $(Lean.mkIdent `x9):ident $(Lean.mkIdent `s9):ident $(Lean.mkIdent `hA):ident))
local macro_rules | `(tactic| walk_at "binaryOp BitAnd int int") => `(tactic| ((with_reducible rename At _ _ _ _ => $(Lean.mkIdent `hA):ident); refine r_and $(Lean.mkIdent `hA):ident ?_; clear $(Lean.mkIdent `hA):ident; intro $(Lean.mkIdent `t9):ident $(Lean.mkIdent `s9):ident $(Lean.mkIdent `hA):ident))
local macro_rules | `(tactic| walk_at "inplaceOp RShift int int") => `(tactic| ((with_reducible rename At _ _ _ _ => $(Lean.mkIdent `hA):ident); refine r_irsh $(Lean.mkIdent `hA):ident (by decide) ?_; clear $(Lean.mkIdent `hA):ident; intro $(Lean.mkIdent `t9):ident $(Lean.mkIdent `s9):ident $(Lean.mkIdent `hA):ident))
local macro_rules | `(tactic| walk_at "call ref") => `(tactic| ((with_reducible rename At _ _ _ _ => $(Lean.mkIdent `hA):ident); refine r_use ?_; refine' s_F ?W ?T ?hk $(Lean.mkIdent `hA):ident ?hp ?h1 ?h2 ?h3 ?h4 ?h5 ?h6 ?h8 ?_; (case W => assumption); (case T => assumption); (case hk => k_extra "m ok"); (case hp => assumption); (case h1 => k_extra "m mem"); (case h2 => k_extra "m ints"); (case h4 => assumption); (case h3 => k_extra "m seq"); (case h5 => k_extra "m lens"); (case h6 => k_extra "m lens"); (case h8 => k_extra "m lens"); clear $(Lean.mkIdent `hA):ident; intro $(Lean.mkIdent `x9):ident $(Lean.mkIdent `s9):ident $(Lean.mkIdent `hA):ident))
local macro_rules | `(tactic| walk_at "call ref") => `(tactic| ((with_reducible rename At _ _ _ _ => $(Lean.mkIdent `hA):ident); refine r_use ?_; refine' s_F_made ?W ?T ?hk $(Lean.mkIdent `hA):ident ?hp ?hm ?h1 ?h2 ?h5 ?h6 ?h8 ?_; (case W => assumption); (case T => assumption); (case hk => k_extra "m ok"); (case hp => assumption); (case hm => k_extra "m mem"); (case h1 => k_extra "m mem"); (case h2 => k_extra "m ints"); (case h5 => k_extra "m lens"); (case h6 => k_extra "m lens"); (case h8 => k_extra "m lens"); clear $(Lean.mkIdent `hA):ident; intro $(Lean.mkIdent `x9):ident $(Lean.mkIdent `s9):ident $(Lean.mkIdent `hA):ident))
local macro_rules | `(tactic| walk_at "binaryOp BitAnd int int") => `(tactic| ((with_reducible rename At _ _ _ _ => $(Lean.mkIdent `hA):ident); refine r_and $(Lean.mkIdent `hA):ident ?_; clear $(Lean.mkIdent `hA):ident; intro $(Lean.mkIdent `t9):ident $(Lean.mkIdent `s9):ident $(Lean.mkIdent `hA):ident))
local macro_rules | `(tactic| walk_at "inplaceOp RShift int int") => `(tactic| ((with_reducible rename At _ _ _ _ => $(Lean.mkIdent `hA):ident); refine r_irsh $(Lean.mkIdent `hA):ident (by decide) ?_; clear $(Lean.mkIdent `hA):ident; intro $(Lean.mkIdent `t9):ident $(Lean.mkIdent `s9):ident $(Lean.mkIdent `hA):ident))
local macro_rules | `(tactic| walk_at "call ref") => `(tactic| ((with_reducible rename At _ _ _ _ => $(Lean.mkIdent `hA):ident); refine r_use ?_; refine' s_law_made ?W ?T ?hk $(Lean.mkIdent `hA):ident ?hp ?h1 ?h2 ?h3 ?h4 ?h5 ?h6 ?h8 ?_; (case W => assumption); (case T => assumption); (case hk => k_extra "m ok"); (case hp => assumption); (case h1 => k_extra "m mem"); (case h2 => assumption); (case h3 => k_extra "m mem"); (case h4 => assumption); (case h5 => k_extra "m lens"); (case h6 => k_extra "m lens"); (case h8 => k_extra "m lens"); clear $(Lean.mkIdent `hA):ident; intro $(Lean.mkIdent `x9):ident $(Lean.mkIdent `s9):ident $(Lean.mkIdent `hA):ident))
local macro_rules | `(tactic| walk_at "call ref") => `(tactic| ((with_reducible rename At _ _ _ _ => $(Lean.mkIdent `hA):ident); refine r_use ?_; refine' s_law_at ?W ?hk $(Lean.mkIdent `hA):ident ?hm ?hi ?hz ?kk ?_; (case W => assumption); (case hk => k_extra "m ok"); (case hm => k_extra "m mem"); (case hi => assumption); (case hz => k_extra "m lens"); (case kk => decide); clear $(Lean.mkIdent `hA):ident; intro $(Lean.mkIdent `t9):ident $(Lean.mkIdent `s9):ident $(Lean.mkIdent `hA):ident))
local macro_rules | `(tactic| walk_at "call ref") => `(tactic| ((with_reducible rename At _ _ _ _ => $(Lean.mkIdent `hA):ident); refine r_use ?_; refine' s_law_primes ?W ?hk $(Lean.mkIdent `hA):ident ?_; (case W => assumption); (case hk => k_extra "m ok"); clear $(Lean.mkIdent `hA):ident; intro $(Lean.mkIdent `l9):ident $(Lean.mkIdent `v9):ident $(Lean.mkIdent `s9):ident $(Lean.mkIdent `hi9):ident $(Lean.mkIdent `hA):ident))
local macro_rules | `(tactic| walk_at "call ref") => `(tactic| ((with_reducible rename At _ _ _ _ => $(Lean.mkIdent `hA):ident); refine r_use ?_; refine' s_law_value ?W ?hk $(Lean.mkIdent `hA):ident ?hm ?hi ?hz ?hm0 ?hu ?_; (case W => assumption); (case hk => k_extra "m ok"); (case hm => k_extra "m mem"); (case hi => assumption); (case hz => k_extra "m lens"); (case hm0 => assumption); (case hu => assumption); clear $(Lean.mkIdent `hA):ident; intro $(Lean.mkIdent `t9):ident $(Lean.mkIdent `s9):ident $(Lean.mkIdent `hA):ident))
local macro_rules | `(tactic| walk_at "call ref") => `(tactic| ((with_reducible rename At _ _ _ _ => $(Lean.mkIdent `hA):ident); refine r_use ?_; refine' s_law_rows ?W ?hk $(Lean.mkIdent `hA):ident ?hm ?hi ?hz ?hm0 ?hu ?_; (case W => assumption); (case hk => k_extra "m ok"); (case hm => k_extra "m mem"); (case hi => assumption); (case hz => k_extra "m lens"); (case hm0 => assumption); (case hu => assumption); clear $(Lean.mkIdent `hA):ident; intro $(Lean.mkIdent `l9):ident $(Lean.mkIdent `v9):ident $(Lean.mkIdent `s9):ident $(Lean.mkIdent `hi9):ident $(Lean.mkIdent `hA):ident))
local macro_rules | `(tactic| walk_at "getAttr ref") => `(tactic| ((with_reducible rename At _ _ _ _ => $(Lean.mkIdent `hA):ident); refine' r_eoc ?W $(Lean.mkIdent `hA):ident ?hm ?he ?_; (case W => assumption); (case he => exact rfl); (case hm => k_extra "m mem"); clear $(Lean.mkIdent `hA):ident; intro $(Lean.mkIdent `y9):ident $(Lean.mkIdent `v9):ident $(Lean.mkIdent `s9):ident $(Lean.mkIdent `hi9):ident $(Lean.mkIdent `hA):ident))
local macro_rules | `(tactic| walk_at "call ref") => `(tactic| ((with_reducible rename At _ _ _ _ => $(Lean.mkIdent `hA):ident); refine r_use ?_; refine' s_law_at_root ?W ?hk $(Lean.mkIdent `hA):ident ?hm0 ?hu ?hm ?h6 ?_; (case W => assumption); (case hk => k_extra "m ok"); (case hm0 => assumption); (case hu => assumption); (case hm => k_extra "m mem"); (case h6 => k_extra "m lens"); clear $(Lean.mkIdent `hA):ident; intro $(Lean.mkIdent `t9):ident $(Lean.mkIdent `s9):ident $(Lean.mkIdent `hA):ident))

variable {prog : Program} {w : World} {A : Around} {E : Value → Shared → Prop} {D : Dat} {Fs : List Fact} {R : List Res} {s : Shared} {Q : Value → Shared → Prop}
def elMul : Kd → Int → List Int → List Int → List Int → List Int
  | .pln, p, xs, ys, ms => plnMul p xs ys ms
  | .opt, p, xs, ys, ms => optMul p xs ys ms
  | .f2, p, xs, ys, ms => optMul p xs ys ms
def elPow : Kd → Int → List Int → Nat → List Int → List Int
  | .pln, p, ms, n, xs => plnPow p ms n xs
  | .opt, p, ms, n, xs => optPow p ms n xs
  | .f2, p, ms, n, xs => optPow p ms n xs
theorem elMul_length (k : Kd) (p : Int) (xs ys ms : List Int) (h : 0 < ms.length) : (elMul k p xs ys ms).length = ms.length := by
  cases k
  · exact plnMul_length _ _ _ _ h
  · exact optMul_length _ _ _ _ h
  · exact optMul_length _ _ _ _ h
theorem elPow_length (k : Kd) (p : Int) (ms : List Int) (n : Nat) (xs : List Int) (h : 0 < ms.length) (hx : xs.length = ms.length) : (elPow k p ms n xs).length = ms.length := by
  cases k
  · exact plnPow_length _ _ h _ _ hx
  · exact powW_length _ _ h _ _ _ (by simp [plnOne]; omega)
  · exact powW_length _ _ h _ _ _ (by simp [plnOne]; omega)
theorem elMul_in {p : Int} (h0 : 0 < p) (k : Kd) (xs ys ms : List Int) : InR p (elMul k p xs ys ms) := by
  cases k
  · exact plnMul_in h0 _ _ _
  · exact optMul_in h0 _ _ _
  · exact optMul_in h0 _ _ _
section
variable {k : Kd} {x y : Addr} {ns ks ms : List Int} {p : Int}
theorem d_E_mul (W : Wd (hd.heap_39 w.params) D) (T : ∀ t ∈ WT, t ∈ D.tabs) (hk : Ok A 24) (H : At D Fs R s) (hp0 : 0 < p) (hp1 : p < 2 ^ 60) (hm : EltF k x p ns ms ∈ Fs) (hm2 : EltF k y p ks ms ∈ Fs) (h5 : ns.length = ms.length) (h7 : ks.length = ms.length) (h6 : ms.length < 1000) (h8 : 0 < ms.length) (hb : Bd ks) (hbm : Bd ms)
    (h : ∀ x s', At D (EltF k x p (elMul k p ns ks ms) ms :: Fs) R s' → Q (.ref x) s') : wpAny (model prog w) A (binaryOp .Mult (.ref x) (.ref y)) Q E s := by
  cases k
  · exact d_P_mul W T hk H hp0 hp1 hm hm2 h5 h7 h6 h8 hb h
  · exact d_O_mul W T hk H hp0 hp1 hm hm2 h5 h7 h6 h8 hb hbm h
  · exact d_F_mul W T hk H hp0 hp1 hm hm2 h5 h7 h6 h8 hb hbm h
theorem d_E_add (W : Wd (hd.heap_39 w.params) D) (T : ∀ t ∈ WT, t ∈ D.tabs) (hk : Ok A 24) (H : At D Fs R s) (hp : p ≠ 0) (hm : EltF k x p ns ms ∈ Fs) (hm2 : EltF k y p ks ms ∈ Fs) (h5 : ns.length = ms.length) (h7 : ks.length = ms.length) (h6 : ms.length < 1000) (h8 : 0 < ms.length)
    (h : ∀ x s', At D (EltF k x p (plnZip (· + ·) p ns ks) ms :: Fs) R s' → Q (.ref x) s') : wpAny (model prog w) A (binaryOp .Add (.ref x) (.ref y)) Q E s := by
  cases k
  · exact d_P_add W T hk H hp hm hm2 h5 h7 h6 h
  · exact d_O_add W T hk H hp hm hm2 h5 h7 h6 h8 h
  · exact d_F_add W T hk H hp hm hm2 h5 h7 h6 h8 h
theorem d_E_sub (W : Wd (hd.heap_39 w.params) D) (T : ∀ t ∈ WT, t ∈ D.tabs) (hk : Ok A 24) (H : At D Fs R s) (hp : p ≠ 0) (hm : EltF k x p ns ms ∈ Fs) (hm2 : EltF k y p ks ms ∈ Fs) (h5 : ns.length = ms.length) (h7 : ks.length = ms.length) (h6 : ms.length < 1000) (h8 : 0 < ms.length)
    (h : ∀ x s', At D (EltF k x p (plnZip (· - ·) p ns ks) ms :: Fs) R s' → Q (.ref x) s') : wpAny (model prog w) A (binaryOp .Sub (.ref x) (.ref y)) Q E s := by
  cases k
  · exact d_P_sub W T hk H hp hm hm2 h5 h7 h6 h
  · exact d_O_sub W T hk H hp hm hm2 h5 h7 h6 h8 h
  · exact d_F_sub W T hk H hp hm hm2 h5 h7 h6 h8 h
theorem d_E_neg (W : Wd (hd.heap_39 w.params) D) (T : ∀ t ∈ WT, t ∈ D.tabs) (hk : Ok A 24) (H : At D Fs R s) (hp : p ≠ 0) (hm : EltF k x p ns ms ∈ Fs) (h5 : ns.length = ms.length) (h6 : ms.length < 1000) (h8 : 0 < ms.length)
    (h : ∀ x s', At D (EltF k x p (plnNeg p ns) ms :: Fs) R s' → Q (.ref x) s') : wpAny (model prog w) A (unaryOp .USub (.ref x)) Q E s := by
  cases k
  · exact d_P_neg W T hk H hp hm h5 h6 h
  · exact d_O_neg W T hk H hp hm h5 h6 h8 h
  · exact d_F_neg W T hk H hp hm h5 h6 h8 h
theorem d_P_pow {n : Nat} {t1 : Tok} (W : Wd (hd.heap_39 w.params) D) (T : ∀ t ∈ WT, t ∈ D.tabs) (hk : Ok A 60) (hn : n ≤ 12) (H : At D Fs R s) (hp0 : 0 < p) (hp1 : p < 2 ^ 60) (hm : PlnF 335 449 x p ns ms ∈ Fs) (h5 : ns.length = ms.length) (h6 : ms.length < 1000) (h8 : 0 < ms.length) (hb : Bd ns) 
    (h : ∀ x s', At D (PlnF 335 449 x p (plnPow p ms n ns) ms :: Fs) R s' → Q (.ref x) s') : wpAny (model prog w) A (binaryOp .Pow (.ref x) (.int n t1)) Q E s := by
  refine' o_binT W H (F := PlnF 335 449 x p ns ms) hm .pln ?q1 ?q2 ?q3 (T := "int") rfl ?q4 (.inl rfl) ?q5 ?q6 ?q7 (r_use (s_P_pow n W T (hk.mono (by omega)) (by omega) H hp0 hp1 hm h5 h6 h8 hb h))
  case q1 => k_is
  case q2 => k_is
  case q3 => k_is
  case q4 => k_is
  case q5 => k_is
  case q6 => k_is
  case q7 => k_is
theorem d_O_pow {n : Nat} {t1 : Tok} (W : Wd (hd.heap_39 w.params) D) (T : ∀ t ∈ WT, t ∈ D.tabs) (hk : Ok A 60) (H : At D Fs R s) (hp0 : 0 < p) (hp1 : p < 2 ^ 60) (hm : OptF 161 x p ns ms ∈ Fs) (h5 : ns.length = ms.length) (h6 : ms.length < 1000) (h8 : 0 < ms.length) (hb : Bd ns) (hbm : Bd ms)
    (h : ∀ x s', At D (OptF 161 x p (optPow p ms n ns) ms :: Fs) R s' → Q (.ref x) s') : wpAny (model prog w) A (binaryOp .Pow (.ref x) (.int n t1)) Q E s := by
  refine' o_binT W H (F := OptF 161 x p ns ms) hm .opt ?q1 ?q2 ?q3 (T := "int") rfl ?q4 (.inl rfl) ?q5 ?q6 ?q7 (r_use (s_O_pow W T (hk.mono (by omega)) H hp0 hp1 hm h5 h6 h8 hb hbm h))
  case q1 => k_is
  case q2 => k_is
  case q3 => k_is
  case q4 => k_is
  case q5 => k_is
  case q6 => k_is
  case q7 => k_is
theorem d_F_pow {n : Nat} {t1 : Tok} (W : Wd (hd.heap_39 w.params) D) (T : ∀ t ∈ WT, t ∈ D.tabs) (hk : Ok A 60) (H : At D Fs R s) (hp0 : 0 < p) (hp1 : p < 2 ^ 60) (hm : OptF 190 x p ns ms ∈ Fs) (h5 : ns.length = ms.length) (h6 : ms.length < 1000) (h8 : 0 < ms.length) (hb : Bd ns) (hbm : Bd ms)
    (h : ∀ x s', At D (OptF 190 x p (optPow p ms n ns) ms :: Fs) R s' → Q (.ref x) s') : wpAny (model prog w) A (binaryOp .Pow (.ref x) (.int n t1)) Q E s := by
  refine' o_binT W H (F := OptF 190 x p ns ms) hm .opt ?q1 ?q2 ?q3 (T := "int") rfl ?q4 (.inl rfl) ?q5 ?q6 ?q7 (r_use (s_F_pow W T (hk.mono (by omega)) H hp0 hp1 hm h5 h6 h8 hb hbm h))
  case q1 => k_is
  case q2 => k_is
  case q3 => k_is
  case q4 => k_is
  case q5 => k_is
  case q6 => k_is
  case q7 => k_is
theorem d_E_pow {n : Nat} {t1 : Tok} (W : Wd (hd.heap_39 w.params) D) (T : ∀ t ∈ WT, t ∈ D.tabs) (hk : Ok A 60) (hn : n ≤ 12) (H : At D Fs R s) (hp0 : 0 < p) (hp1 : p < 2 ^ 60) (hm : EltF k x p ns ms ∈ Fs) (h5 : ns.length = ms.length) (h6 : ms.length < 1000) (h8 : 0 < ms.length) (hb : Bd ns) (hbm : Bd ms)
    (h : ∀ x s', At D (EltF k x p (elPow k p ms n ns) ms :: Fs) R s' → Q (.ref x) s') : wpAny (model prog w) A (binaryOp .Pow (.ref x) (.int n t1)) Q E s := by
  cases k
  · exact d_P_pow W T hk hn H hp0 hp1 hm h5 h6 h8 hb h
  · exact d_O_pow W T hk H hp0 hp1 hm h5 h6 h8 hb hbm h
  · exact d_F_pow W T hk H hp0 hp1 hm h5 h6 h8 hb hbm h
end

end

section
local macro_rules | `(tactic| walk_at "call ref") => `(tactic| ((with_reducible rename At _ _ _ _ => $(Lean.mkIdent `hA):ident); refine r_use ?_; refine' s_FQ ?W ?hk $(Lean.mkIdent `hA):ident ?hp ?_; (case W => assumption); (case hk => k_extra "m ok"); (case hp => assumption); clear $(Lean.mkIdent `hA):ident; intro $(Lean.mkIdent `x9):ident $(Lean.mkIdent `s9):ident $(Lean.mkIdent `hA):ident))
local macro_rules | `(tactic| walk_at "call ref") => `(tactic| ((with_reducible rename At _ _ _ _ => $(Lean.mkIdent `hA):ident); refine r_use ?_; refine' s_FQ_made ?W ?hk $(Lean.mkIdent `hA):ident ?hm ?hp ?_; (case W => assumption); (case hk => k_extra "m ok"); (case hm => k_extra "m mem"); (case hp => assumption); clear $(Lean.mkIdent `hA):ident; intro $(Lean.mkIdent `x9):ident $(Lean.mkIdent `s9):ident $(Lean.mkIdent `hA):ident))
local macro_rules | `(tactic| walk_at "binaryOp Add ref ref") => `(tactic| ((with_reducible rename At _ _ _ _ => $(Lean.mkIdent `hA):ident); refine' d_FQ_add ?W ?hk $(Lean.mkIdent `hA):ident ?hm ?hm2 ?hp  ?_; (case W => assumption); (case hk => k_extra "m ok"); (case hm => k_extra "m mem"); (case hm2 => k_extra "m mem"); (case hp => assumption);  clear $(Lean.mkIdent `hA):ident; intro $(Lean.mkIdent `x9):ident $(Lean.mkIdent `s9):ident $(Lean.mkIdent `hA):ident))
local macro_rules | `(tactic| walk_at "inplaceOp Add ref ref") => `(tactic| ((with_reducible rename At _ _ _ _ => $(Lean.mkIdent `hA):ident); refine' i_FQ_add ?W ?hk $(Lean.mkIdent `hA):ident ?hm ?hm2 ?hp ?_; (case W => assumption); (case hk => k_extra "m ok"); (case hm => k_extra "m mem"); (case hm2 => k_extra "m mem"); (case hp => assumption); clear $(Lean.mkIdent `hA):ident; intro $(Lean.mkIdent `x9):ident $(Lean.mkIdent `s9):ident $(Lean.mkIdent `hA):ident))
local macro_rules | `(tactic| walk_at "binaryOp Sub ref ref") => `(tactic| ((with_reducible rename At _ _ _ _ => $(Lean.mkIdent `hA):ident); refine' d_FQ_sub ?W ?hk $(Lean.mkIdent `hA):ident ?hm ?hm2 ?hp  ?_; (case W => assumption); (case hk => k_extra "m ok"); (case hm => k_extra "m mem"); (case hm2 => k_extra "m mem"); (case hp => assumption);  clear $(Lean.mkIdent `hA):ident; intro $(Lean.mkIdent `x9):ident $(Lean.mkIdent `s9):ident $(Lean.mkIdent `hA):ident))
local macro_rules | `(tactic| walk_at "inplaceOp Sub ref ref") => `(tactic| ((with_reducible rename At _ _ _ _ => $(Lean.mkIdent `hA):ident); refine' i_FQ_sub ?W ?hk $(Lean.mkIdent `hA):ident ?hm ?hm2 ?hp ?_; (case W => assumption); (case hk => k_extra "m ok"); (case hm => k_extra "m mem"); (case hm2 => k_extra "m mem"); (case hp => assumption); clear $(Lean.mkIdent `hA):ident; intro $(Lean.mkIdent `x9):ident $(Lean.mkIdent `s9):ident $(Lean.mkIdent `hA):ident))
local macro_rules | `(tactic| walk_at "binaryOp Mult ref ref") => `(tactic| ((with_reducible rename At _ _ _ _ => $(Lean.mkIdent `hA):ident); refine' d_FQ_mul ?W ?hk $(Lean.mkIdent `hA):ident ?hm ?hm2 ?hp ?hj ?_; (case W => assumption); (case hk => k_extra "m ok"); (case hm => k_extra "m mem"); (case hm2 => k_extra "m mem"); (case hp => assumption); (case hj => k_extra "m mulok"); clear $(Lean.mkIdent `hA):ident; intro $(Lean.mkIdent `x9):ident $(Lean.mkIdent `s9):ident $(Lean.mkIdent `hA):ident))
local macro_rules | `(tactic| walk_at "unaryOp USub ref") => `(tactic| ((with_reducible rename At _ _ _ _ => $(Lean.mkIdent `hA):ident); refine' d_FQ_neg ?W ?hk $(Lean.mkIdent `hA):ident ?hm ?hp ?_; (case W => assumption); (case hk => k_extra "m ok"); (case hm => k_extra "m mem"); (case hp => assumption); clear $(Lean.mkIdent `hA):ident; intro $(Lean.mkIdent `x9):ident $(Lean.mkIdent `s9):ident $(Lean.mkIdent `hA):ident))
local macro_rules | `(tactic| walk_at "call ref") => `(tactic| ((with_reducible rename At _ _ _ _ => $(Lean.mkIdent `hA):ident); refine r_use ?_; refine' s_FQs ?W ?hk $(Lean.mkIdent `hA):ident ?hp ?hm ?_; (case W => assumption); (case hk => k_extra "m ok"); (case hp => assumption); (case hm => k_extra "m mem"); clear $(Lean.mkIdent `hA):ident; intro $(Lean.mkIdent `x9):ident $(Lean.mkIdent `s9):ident $(Lean.mkIdent `hA):ident))
local macro_rules | `(tactic| walk_at "call ref") => `(tactic| ((with_reducible rename At _ _ _ _ => $(Lean.mkIdent `hA):ident); refine r_use ?_; refine' s_P_corr0 ?W ?hk $(Lean.mkIdent `hA):ident ?hp ?hx ?hd ?hmp ?hm ?_; (case W => assumption); (case hk => k_extra "m ok"); (case hp => assumption); (case hx => k_extra "m mem"); (case hd => k_extra "m mem"); (case hmp => exact rfl); (case hm => k_extra "m mem"); clear $(Lean.mkIdent `hA):ident; intro $(Lean.mkIdent `x9):ident $(Lean.mkIdent `s9):ident $(Lean.mkIdent `hA):ident))
local macro_rules | `(tactic| walk_at "call ref") => `(tactic| ((with_reducible rename At _ _ _ _ => $(Lean.mkIdent `hA):ident); refine r_use ?_; refine' s_P ?W ?T ?hk $(Lean.mkIdent `hA):ident ?hp ?h1 ?h2 ?h3 ?h4 ?h5 ?h6 ?_; (case W => assumption); (case T => assumption); (case hk => k_extra "m ok"); (case hp => assumption); (case h2 => k_extra "m mem"); (case h1 => k_extra "m seq"); (case h4 => assumption); (case h3 => k_extra "m seq"); (case h5 => k_extra "m lens"); (case h6 => k_extra "m lens"); clear $(Lean.mkIdent `hA):ident; intro $(Lean.mkIdent `x9):ident $(Lean.mkIdent `s9):ident $(Lean.mkIdent `hA):ident))
local macro_rules | `(tactic| walk_at "call ref") => `(tactic| ((with_reducible rename At _ _ _ _ => $(Lean.mkIdent `hA):ident); refine r_use ?_; refine' s_P_made ?W ?T ?hk $(Lean.mkIdent `hA):ident ?hp ?hm ?h1 ?h2 ?h5 ?h6 ?_; (case W => assumption); (case T => assumption); (case hk => k_extra "m ok"); (case hp => assumption); (case hm => k_extra "m mem"); (case h2 => k_extra "m mem"); (case h1 => k_extra "m seq"); (case h5 => k_extra "m lens"); (case h6 => k_extra "m lens"); clear $(Lean.mkIdent `hA):ident; intro $(Lean.mkIdent `x9):ident $(Lean.mkIdent `s9):ident $(Lean.mkIdent `hA):ident))
local macro_rules | `(tactic| walk_at "binaryOp FloorDiv int int") => `(tactic| ((with_reducible rename At _ _ _ _ => $(Lean.mkIdent `hA):ident); refine r_fdiv $(Lean.mkIdent `hA):ident (by omega) (by exact PyProof.noPylong_small (by omega)) ?_; clear $(Lean.mkIdent `hA):ident; intro $(Lean.mkIdent `t9):ident $(Lean.mkIdent `s9):ident $(Lean.mkIdent `hA):ident))
local macro_rules | `(tactic| walk_at "call ref") => `(tactic| ((with_reducible rename At _ _ _ _ => $(Lean.mkIdent `hA):ident); refine r_use ?_; refine' s_O ?W ?T ?hk $(Lean.mkIdent `hA):ident ?hp ?h1 ?h2 ?h3 ?h4 ?h5 ?h6 ?h8 ?_; (case W => assumption); (case T => assumption); (case hk => k_extra "m ok"); (case hp => assumption); (case h1 => k_extra "m mem"); (case h2 => k_extra "m ints"); (case h4 => assumption); (case h3 => k_extra "m seq"); (case h5 => k_extra "m lens"); (case h6 => k_extra "m lens"); (case h8 => k_extra "m lens"); clear $(Lean.mkIdent `hA):ident; intro $(Lean.mkIdent `x9):ident $(Lean.mkIdent `s9):ident $(Lean.mkIdent `hA):ident))
local macro_rules | `(tactic| walk_at "call ref") => `(tactic| ((with_reducible rename At _ _ _ _ => $(Lean.mkIdent `hA):ident); refine r_use ?_; refine' s_O_made ?W ?T ?hk $(Lean.mkIdent `hA):ident ?hp ?hm ?h1 ?h2 ?h5 ?h6 ?h8 ?_; (case W => assumption); (case T => assumption); (case hk => k_extra "m ok"); (case hp => assumption); (case hm => k_extra "m mem"); (case h1 => k_extra "m mem"); (case h2 => k_extra "m ints"); (case h5 => k_extra "m lens"); (case h6 => k_extra "m lens"); (case h8 => k_extra "m lens"); clear $(Lean.mkIdent `hA):ident; intro $(Lean.mkIdent `x9):ident $(Lean.mkIdent `s9):ident $(Lean.mkIdent `hA):ident))
local macro_rules | `(tactic| walk_at "binaryOp BitAnd int int") => `(tactic| ((with_reducible rename At _ _ _ _ => $(Lean.mkIdent `hA):ident); refine r_and $(Lean.mkIdent `hA):ident ?_; clear $(Lean.mkIdent `hA):ident; intro $(Lean.mkIdent `t9):ident $(Lean.mkIdent `s9):ident $(Lean.mkIdent `hA):ident))
local macro_rules | `(tactic| walk_at "inplaceOp RShift int int") => `(tactic| ((with_reducible rename At _ _ _ _ => $(Lean.mkIdent `hA):ident); refine r_irsh $(Lean.mkIdent `hA):ident (by decide) ?_; clear $(Lean.mkIdent `hA):ident; intro $(Lean.mkIdent `t9):ident $(Lean.mkIdent `s9):ident $(Lean.mkIdent `hA):ident))
local macro_rules | `(tactic| walk_at "call ref") => `(tactic| ((with_reducible rename At _ _ _ _ => $(Lean.mkIdent `hA):ident); refine r_use ?_; refine' s_F ?W ?T ?hk $(Lean.mkIdent `hA):ident ?hp ?h1 ?h2 ?h3 ?h4 ?h5 ?h6 ?h8 ?_; (case W => assumption); (case T => assumption); (case hk => k_extra "m ok"); (case hp => assumption); (case h1 => k_extra "m mem"); (case h2 => k_extra "m ints"); (case h4 => assumption); (case h3 => k_extra "m seq"); (case h5 => k_extra "m lens"); (case h6 => k_extra "m lens"); (case h8 => k_extra "m lens"); clear $(Lean.mkIdent `hA):ident; intro $(Lean.mkIdent `x9):ident $(Lean.mkIdent `s9):ident $(Lean.mkIdent `hA):ident))
local macro_rules | `(tactic| walk_at "call ref") => `(tactic| ((with_reducible rename At _ _ _ _ => $(Lean.mkIdent `hA):ident); refine r_use ?_; refine' s_F_made ?W ?T ?hk $(Lean.mkIdent `hA):ident ?hp ?hm ?h1 ?h2 ?h5 ?h6 ?h8 ?_; (case W => assumption); (case T => assumption); (case hk => k_extra "m ok"); (case hp => assumption); (case hm => k_extra "m mem"); (case h1 => k_extra "m mem"); (case h2 => k_extra "m ints"); (case h5 => k_extra "m lens"); (case h6 => k_extra "m lens"); (case h8 => k_extra "m lens"); clear $(Lean.mkIdent `hA):ident; intro $(Lean.mkIdent `x9):ident $(Lean.mkIdent `s9):ident $(Lean.mkIdent `hA):ident))
local macro_rules | `(tactic| walk_at "binaryOp BitAnd int int") => `(tactic| ((with_reducible rename At _ _ _ _ => $(Lean.mkIdent `hA):ident); refine r_and $(Lean.mkIdent `hA):ident ?_; clear $(Lean.mkIdent `hA):ident; intro $(Lean.mkIdent `t9):ident $(Lean.mkIdent `s9):ident $(Lean.mkIdent `hA):ident))
local macro_rules | `(tactic| walk_at "inplaceOp RShift int int") => `(tactic| ((with_reducible rename At _ _ _ _ => $(Lean.mkIdent `hA):ident); refine r_irsh $(Lean.mkIdent `hA):ident (by decide) ?_; clear $(Lean.mkIdent `hA):ident; intro $(Lean.mkIdent `t9):ident $(Lean.mkIdent `s9):ident $(Lean.mkIdent `hA):ident))
local macro_rules | `(tactic| walk_at "call ref") => `(tactic| ((with_reducible rename At _ _ _ _ => $(Lean.mkIdent `hA):ident); refine r_use ?_; refine' s_law_made ?W ?T ?hk $(Lean.mkIdent `hA):ident ?hp ?h1 ?h2 ?h3 ?h4 ?h5 ?h6 ?h8 ?_; (case W => assumption); (case T => assumption); (case hk => k_extra "m ok"); (case hp => assumption); (case h1 => k_extra "m mem"); (case h2 => assumption); (case h3 => k_extra "m mem"); (case h4 => assumption); (case h5 => k_extra "m lens"); (case h6 => k_extra "m lens"); (case h8 => k_extra "m lens"); clear $(Lean.mkIdent `hA):ident; intro $(Lean.mkIdent `x9):ident $(Lean.mkIdent `s9):ident $(Lean.mkIdent `hA):ident))
local macro_rules | `(tactic| walk_at "call ref") => `(tactic| ((with_reducible rename At _ _ _ _ => $(Lean.mkIdent `hA):ident); refine r_use ?_; refine' s_law_at ?W ?hk $(Lean.mkIdent `hA):ident ?hm ?hi ?hz ?kk ?_; (case W => assumption); (case hk => k_extra "m ok"); (case hm => k_extra "m mem"); (case hi => assumption); (case hz => k_extra "m lens"); (case kk => decide); clear $(Lean.mkIdent `hA):ident; intro $(Lean.mkIdent `t9):ident $(Lean.mkIdent `s9):ident $(Lean.mkIdent `hA):ident))
local macro_rules | `(tactic| walk_at "call ref") => `(tactic| ((with_reducible rename At _ _ _ _ => $(Lean.mkIdent `hA):ident); refine r_use ?_; refine' s_law_primes ?W ?hk $(Lean.mkIdent `hA):ident ?_; (case W => assumption); (case hk => k_extra "m ok"); clear $(Lean.mkIdent `hA):ident; intro $(Lean.mkIdent `l9):ident $(Lean.mkIdent `v9):ident $(Lean.mkIdent `s9):ident $(Lean.mkIdent `hi9):ident $(Lean.mkIdent `hA):ident))
local macro_rules | `(tactic| walk_at "call ref") => `(tactic| ((with_reducible rename At _ _ _ _ => $(Lean.mkIdent `hA):ident); refine r_use ?_; refine' s_law_value ?W ?hk $(Lean.mkIdent `hA):ident ?hm ?hi ?hz ?hm0 ?hu ?_; (case W => assumption); (case hk => k_extra "m ok"); (case hm => k_extra "m mem"); (case hi => assumption); (case hz => k_extra "m lens"); (case hm0 => assumption); (case hu => assumption); clear $(Lean.mkIdent `hA):ident; intro $(Lean.mkIdent `t9):ident $(Lean.mkIdent `s9):ident $(Lean.mkIdent `hA):ident))
local macro_rules | `(tactic| walk_at "call ref") => `(tactic| ((with_reducible rename At _ _ _ _ => $(Lean.mkIdent `hA):ident); refine r_use ?_; refine' s_law_rows ?W ?hk $(Lean.mkIdent `hA):ident ?hm ?hi ?hz ?hm0 ?hu ?_; (case W => assumption); (case hk => k_extra "m ok"); (case hm => k_extra "m mem"); (case hi => assumption); (case hz => k_extra "m lens"); (case hm0 => assumption); (case hu => assumption); clear $(Lean.mkIdent `hA):ident; intro $(Lean.mkIdent `l9):ident $(Lean.mkIdent `v9):ident $(Lean.mkIdent `s9):ident $(Lean.mkIdent `hi9):ident $(Lean.mkIdent `hA):ident))
local macro_rules | `(tactic| walk_at "getAttr ref") => `(tactic| ((with_reducible rename At _ _ _ _ => $(Lean.mkIdent `hA):ident); refine' r_eoc ?W $(Lean.mkIdent `hA):ident ?hm ?he ?_; (case W => assumption); (case he => exact rfl); (case hm => k_extra "m mem"); clear $(Lean.mkIdent `hA):ident; intro $(Lean.mkIdent `y9):ident $(Lean.mkIdent `v9):ident $(Lean.mkIdent `s9):ident $(Lean.mkIdent `hi9):ident $(Lean.mkIdent `hA):ident))
local macro_rules | `(tactic| walk_at "call ref") => `(tactic| ((with_reducible rename At _ _ _ _ => $(Lean.mkIdent `hA):ident); refine r_use ?_; refine' s_law_at_root ?W ?hk $(Lean.mkIdent `hA):ident ?hm0 ?hu ?hm ?h6 ?_; (case W => assumption); (case hk => k_extra "m ok"); (case hm0 => assumption); (case hu => assumption); (case hm => k_extra "m mem"); (case h6 => k_extra "m lens"); clear $(Lean.mkIdent `hA):ident; intro $(Lean.mkIdent `t9):ident $(Lean.mkIdent `s9):ident $(Lean.mkIdent `hA):ident))

variable {prog : Program} {w : World} {A : Around} {E : Value → Shared → Prop} {D : Dat} {Fs : List Fact} {R : List Res} {s : Shared} {Q : Value → Shared → Prop}
theorem Ok.u9 {n : Nat} (h : Ok A n) : A.units < 9900 := by have := h.units; omega
local macro_rules | `(tactic| k_extra "m lens") => `(tactic| first | omega | (have hi9L := IntsAre.length $(Lean.mkIdent `hi9):ident; omega) | (have hi9L := IntsAre.length $(Lean.mkIdent `hi9):ident; simp only [List.length_cons, List.length_nil]; omega) | (simp only [List.length_append, List.length_cons, List.length_nil, List.length_replicate, List.length_map] <;> omega))
theorem r_nlF {vs : List Value} (H : At D Fs R s) (hz : vs.length ≤ 1000000) (h : ∀ l s', At D (ListF l vs :: Fs) R s' → Q (.ref l) s') : wpAny (model prog w) A (newList vs) Q E s :=
  r_nl H hz fun l s' H' => h l s' (At.fzL H' .head)
local macro_rules | `(tactic| walk_at "newList") => `(tactic| ((with_reducible rename At _ _ _ _ => $(Lean.mkIdent `hA):ident); refine r_nlF $(Lean.mkIdent `hA):ident (by k_extra "m size") ?_; clear $(Lean.mkIdent `hA):ident; intro $(Lean.mkIdent `l9):ident $(Lean.mkIdent `s9):ident $(Lean.mkIdent `hA):ident))
local macro_rules | `(tactic| walk_at "call builtin:pow") => `(tactic| ((with_reducible rename At _ _ _ _ => $(Lean.mkIdent `hA):ident); refine r_pow3 $(Lean.mkIdent `hA):ident (by omega) (by omega) ?_; clear $(Lean.mkIdent `hA):ident; intro $(Lean.mkIdent `t9):ident $(Lean.mkIdent `s9):ident $(Lean.mkIdent `hA):ident))
local macro_rules | `(tactic| walk_at "call ref") => `(tactic| ((with_reducible rename At _ _ _ _ => $(Lean.mkIdent `hA):ident); refine r_use ?_; refine' s_law_made ?W ?T ?hk $(Lean.mkIdent `hA):ident ?hp ?h1 ?h2 ?h3 ?h4 ?h5 ?h6 ?h8 ?_; (case W => assumption); (case T => assumption); (case hk => k_extra "m ok"); (case hp => assumption); (case h1 => k_extra "m mem"); (case h2 => k_extra "m ints"); (case h3 => k_extra "m mem"); (case h4 => k_extra "m ints"); (case h5 => k_extra "m lens"); (case h6 => k_extra "m lens"); (case h8 => k_extra "m lens"); clear $(Lean.mkIdent `hA):ident; intro $(Lean.mkIdent `x9):ident $(Lean.mkIdent `s9):ident $(Lean.mkIdent `hA):ident))
local macro_rules | `(tactic| walk_at "call ref") => `(tactic| ((with_reducible rename At _ _ _ _ => $(Lean.mkIdent `hA):ident); refine r_use ?_; refine' s_law_rows ?W ?hk $(Lean.mkIdent `hA):ident ?hm ?hi ?hz ?hm0 ?hu ?_; (case W => assumption); (case hk => k_extra "m ok"); (case hm => k_extra "m mem"); (case hi => k_extra "m ints"); (case hz => k_extra "m lens"); (case hm0 => assumption); (case hu => assumption); clear $(Lean.mkIdent `hA):ident; intro $(Lean.mkIdent `l9):ident $(Lean.mkIdent `v9):ident $(Lean.mkIdent `s9):ident $(Lean.mkIdent `hi9):ident $(Lean.mkIdent `hA):ident))
local macro_rules | `(tactic| walk_at "binaryOp Mult ref ref") => `(tactic| ((with_reducible rename At _ _ _ _ => $(Lean.mkIdent `hA):ident); refine' d_E_mul ?W ?T ?hk $(Lean.mkIdent `hA):ident ?hp0 ?hp1 ?hm ?hm2 ?h5 ?h7 ?h6 ?h8 ?hb ?hbm ?_; (case W => assumption); (case T => assumption); (case hk => k_extra "m ok"); (case hp0 => assumption); (case hp1 => assumption); (case hm => k_extra "m mem"); (case hm2 => k_extra "m mem"); (case h5 => k_extra "m lens"); (case h7 => k_extra "m lens"); (case h6 => k_extra "m lens"); (case h8 => k_extra "m lens"); (case hb => assumption); (case hbm => assumption); clear $(Lean.mkIdent `hA):ident; intro $(Lean.mkIdent `x9):ident $(Lean.mkIdent `s9):ident $(Lean.mkIdent `hA):ident))
local macro_rules | `(tactic| walk_at "compareOp Eq ref ref") => `(tactic| ((with_reducible rename At _ _ _ _ => $(Lean.mkIdent `hA):ident); refine' r_eqL ?hu $(Lean.mkIdent `hA):ident ?h1 ?h2 ?i1 ?i2 ?hl ?_; (case h1 => k_extra "m pl"); (case h2 => k_extra "m pl"); (case i1 => k_extra "m ints"); (case i2 => k_extra "m ints"); (case hl => k_extra "m lens"); (case hu => exact Ok.u9 (by assumption))))
local macro_rules | `(tactic| walk_at "eval Attribute BinOp") => `(tactic| refine Attribute_any_ ?_)
theorem r_eqLt {l b : Addr} {vs ws : List Value} {ns ms : List Int} (hu : A.units < 9900) (H : At D Fs R s) (h1 : s.heap.PlainList l vs.toArray) (h2 : s.heap.PlainList b ws.toArray) (i1 : IntsAre vs ns) (i2 : IntsAre ws ms) (he : ns = ms)
    (h : Q (.bool true) s) : wpAny (model prog w) A (compareOp .Eq (.ref l) (.ref b)) Q E s := r_eqL hu H h1 h2 i1 i2 (by rw [he]) (by rw [decide_eq_true he]; exact h)
local macro_rules | `(tactic| walk_at "compareOp Eq ref ref") => `(tactic| ((with_reducible rename At _ _ _ _ => $(Lean.mkIdent `hA):ident); refine' r_eqLt ?hu $(Lean.mkIdent `hA):ident ?h1 ?h2 ?i1 ?i2 ?hl ?_; (case h1 => k_extra "m pl"); (case h2 => k_extra "m pl"); (case i1 => k_extra "m ints"); (case i2 => k_extra "m ints"); (case hl => first | with_reducible rfl | assumption); (case hu => exact Ok.u9 (by assumption))))
theorem lawRows_length (rest : List Int) (u m : Int) : (lawRows rest u m).length = rest.length + 1 := by
  unfold lawRows; rw [List.length_set, rowsUpto_length]
def bkN (u v p : Int) : Nat := Builtin.powMod ((((v - u).fmod p) % (p.natAbs : Int)).toNat) (p - 2).natAbs p.natAbs
def hvN (u v p : Int) : List Int := [(0 - u * (bkN u v p : Int)).fmod p, (bkN u v p : Int)]
set_option maxHeartbeats 4000000 in
set_option maxRecDepth 100000 in
theorem s_law_halves {form u v p : Int} {t1 t2 t3 t4 : Tok} (W : Wd (hd.heap_39 w.params) D) (T : ∀ t ∈ WT, t ∈ D.tabs) (hk : Ok A 90) (H : At D Fs R s) (hp1 : 1 < p) (hp2 : p < 2 ^ 30) (hu0 : 0 ≤ u) (hu1 : u < 2 ^ 30) (hv0 : 0 ≤ v) (hv1 : v < 2 ^ 30)
    (hq1 : elMul (kdOf form 2) p ((hvN u v p).map fun k => k.fmod p) ((hvN u v p).map fun k => k.fmod p) (lawRows [(0 - v).fmod p] u p) = hvN u v p)
    (hq2 : lawValue ((hvN u v p).map fun k => k.fmod p) u p = 0) (hq3 : lawValue ((hvN u v p).map fun k => k.fmod p) v p = 1) (hbm : Bd (lawRows [(0 - v).fmod p] u p))
    (h : ∀ s', At D Fs R s' → Q (.bool true) s') : codeAny (model prog w) A (.call (.ref 498) ⟨[.int form t1, .int u t2, .int v t3, .int p t4], []⟩) (Ret Q) s := by
  have hp0 : p ≠ 0 := by omega
  have hm0 : ∀ a, IntMulOk a u := fun a => mulOk_right ⟨by omega, by omega⟩
  have hm1 : ∀ a, IntMulOk u a := fun a => mulOk_left ⟨by omega, by omega⟩
  have hm2 : ∀ a, IntMulOk a v := fun a => mulOk_right ⟨by omega, by omega⟩
  refine' v_call [("p", .int p t4), ("v", .int v t3), ("u", .int u t2), ("form", .int form t1)] ?W H hk ?ho ?hcd ?hb ?hl ?hm ?_ ?c1 ?c2 ?c3 ?c4
  k_extra "m enter"
  clear H
  have hM2 : (lawRows [(0 - v).fmod p] u p).length = 2 := lawRows_length _ _ _
  have hlN : ((hvN u v p).map fun k => k.fmod p).length = 2 := rfl
  have hbN : Bd ((hvN u v p).map fun k => k.fmod p) := InR.bd (p := p) (fun x hx => by obtain ⟨a, _, rfl⟩ := List.mem_map.mp hx; exact fmod_in (by omega)) (by omega)
  have hlE : (hvN u v p).length = 2 := rfl
  have hp3 : 0 < p := by omega
  have hp4 : p < 2 ^ 60 := by omega
  have hN' : hvN u v p = [(0 - u * ((Builtin.powMod ((v - u).fmod p % (p.natAbs : Int)).toNat (p - 2).natAbs p.natAbs : Nat) : Int)).fmod p, ((Builtin.powMod ((v - u).fmod p % (p.natAbs : Int)).toNat (p - 2).natAbs p.natAbs : Nat) : Int)] := rfl
  rw [← hM2] at hq1
  rw [hN'] at hq1 hq2 hq3 hbN hlN
  k_extra "wk"
  rw [hq1] at hA hi9
  have hl9 : v9.length = 2 := hi9
  refine' r_mapK (inG [(0 - u * ((Builtin.powMod ((v - u).fmod p % (p.natAbs : Int)).toNat (p - 2).natAbs p.natAbs : Nat) : Int)).fmod p, ((Builtin.powMod ((v - u).fmod p % (p.natAbs : Int)).toNat (p - 2).natAbs p.natAbs : Nat) : Int)]) (hN9 false _) ⟨_, _, rfl⟩ hK9.handled hA ?g1 ?g0 ?g2 inG.zero (fun _ _ _ q => q.len (by show 2 ≤ 1000000; decide)) ?step ?done
  case g0 => decide
  case g2 => rfl
  case g1 => k_extra "m mem"
  case step =>
    clear hA
    intro C acc i ys Gs v' F s hi hG hV H
    obtain ⟨hv, rfl⟩ := hV
    rcases (H.nil1 hG.2.2).pickE (vs := v9) (by k_extra "m mem") hv with ⟨na, ta, rfl, hna⟩ | ⟨a', na, rfl, hna, hA⟩
    · have hA := H.nil1 hG.2.2
      clear H
      k_extra "wk"
      exact hG.hold hna hA (by k_extra "m facts")
    · clear H
      k_extra "wk"
      exact hG.hold hna hA (by k_extra "m facts")
  case done =>
    clear hA
    intro C acc ys Gs s hG _ s H
    have hI := hG.done (by rw [hl9]; rfl)
    have H1 := H.nil0 hG.2.2
    have hA := At.fzL H1 .head
    have hle := hI.length
    clear H H1
    k_extra "wk"
    · rw [hq3]
      exact h _ (At.to' hA (by k_extra "m sub") (by k_extra "m facts"))
    · exact absurd hq2 (by assumption)

end

section
variable {prog : Program} {w : World} {A : Around} {E : Value → Shared → Prop} {D : Dat} {Fs : List Fact} {R : List Res} {s : Shared} {Q : Value → Shared → Prop}
/-- congruent -/
def Cg (m a b : Int) : Prop := m ∣ a - b
theorem Cg.refl (m a : Int) : Cg m a a := by unfold Cg; rw [Int.sub_self]; exact Int.dvd_zero _
theorem Cg.symm {m a b : Int} (h : Cg m a b) : Cg m b a := by unfold Cg at *; have := Int.dvd_neg.mpr h; rwa [Int.neg_sub] at this
theorem Cg.trans {m a b c : Int} (h : Cg m a b) (k : Cg m b c) : Cg m a c := by unfold Cg at *; have := Int.dvd_add h k; rwa [show a - b + (b - c) = a - c by omega] at this
theorem Cg.add {m a b c d : Int} (h : Cg m a b) (k : Cg m c d) : Cg m (a + c) (b + d) := by unfold Cg at *; have := Int.dvd_add h k; rwa [show a - b + (c - d) = a + c - (b + d) by omega] at this
theorem Cg.neg {m a b : Int} (h : Cg m a b) : Cg m (-a) (-b) := by unfold Cg at *; have := Int.dvd_neg.mpr h; rwa [show -(a - b) = -a - -b by omega] at this
theorem Cg.sub {m a b c d : Int} (h : Cg m a b) (k : Cg m c d) : Cg m (a - c) (b - d) := by rw [Int.sub_eq_add_neg, Int.sub_eq_add_neg]; exact h.add k.neg
theorem Cg.mulL {m a b : Int} (c : Int) (h : Cg m a b) : Cg m (c * a) (c * b) := by unfold Cg at *; rw [← Int.mul_sub]; exact Int.dvd_mul_of_dvd_right h
theorem Cg.mulR {m a b : Int} (c : Int) (h : Cg m a b) : Cg m (a * c) (b * c) := by rw [Int.mul_comm a, Int.mul_comm b]; exact h.mulL c
theorem Cg.mul {m a b c d : Int} (h : Cg m a b) (k : Cg m c d) : Cg m (a * c) (b * d) := (h.mulR c).trans (k.mulL b)
theorem Cg.pow {m a b : Int} (h : Cg m a b) (n : Nat) : Cg m (a ^ n) (b ^ n) := by
  induction n with
  | zero => rw [Int.pow_zero, Int.pow_zero]; exact Cg.refl _ _
  | succ n ih => rw [Int.pow_succ, Int.pow_succ]; exact ih.mul h
theorem Cg.fm (m a : Int) : Cg m (a.fmod m) a := by
  unfold Cg
  rw [Int.fmod_def, show a - m * a.fdiv m - a = m * (-(a.fdiv m)) by rw [Int.mul_neg]; omega]
  exact Int.dvd_mul_right _ _
theorem Cg.eq {m a b : Int} (h : Cg m a b) : a.fmod m = b.fmod m := by
  obtain ⟨k, hk⟩ := h
  have : a = b + m * k := by omega
  rw [this, Int.add_mul_fmod_self_left]
theorem fmod_cg {m a b : Int} (h : a.fmod m = b.fmod m) : Cg m a b := ((Cg.fm m a).symm.trans (by rw [h]; exact Cg.refl _ _)).trans (Cg.fm m b)
theorem fm_self {m a : Int} (h0 : 0 ≤ a) (h1 : a < m) : a.fmod m = a := by rw [Int.fmod_eq_emod_of_nonneg _ (by omega)]; exact Int.emod_eq_of_lt h0 h1

/-- the value at u, no reduction -/
def ev (u : Int) : List Int → Int
  | [] => 0
  | c :: r => c + u * ev u r
/-- u is a root of the modulus -/
def RootOf (m u : Int) (M : List Int) : Prop := m ∣ ev u M + u ^ M.length
theorem law_ev {m : Int} (ns : List Int) (u : Int) : lawValue ns u m = (ev u ns).fmod m := by
  unfold lawValue
  rw [List.foldl_reverse]
  induction ns with
  | nil => simp [ev]
  | cons c r ih =>
    simp only [List.foldr_cons, ih, ev]
    refine Cg.eq ?_
    rw [show c + u * ev u r = ev u r * u + c by rw [Int.mul_comm u, Int.add_comm]]
    exact ((Cg.fm m _).mulR u).add (Cg.refl _ _)
theorem lawValue_rng {m : Int} (h : 2 ≤ m) (ns : List Int) (u : Int) : 0 ≤ lawValue ns u m ∧ lawValue ns u m < m := by
  rw [law_ev]; exact ⟨Int.fmod_nonneg_of_pos _ (by omega), Int.fmod_lt_of_pos _ (by omega)⟩
theorem ev_fm (m u : Int) (l : List Int) : Cg m (ev u (l.map fun k => k.fmod m)) (ev u l) := by
  induction l with
  | nil => exact Cg.refl _ _
  | cons c r ih => exact (Cg.fm m c).add (ih.mulL u)
theorem rr_cg (m x : Int) : Cg m (rr m x) x := (Cg.fm m _).trans (Cg.fm m _)
theorem ev_rr (m u : Int) (l : List Int) : Cg m (ev u (l.map fun k => (k.fmod m).fmod m)) (ev u l) := by
  induction l with
  | nil => exact Cg.refl _ _
  | cons c r ih => exact (rr_cg m c).add (ih.mulL u)
theorem ev_add (m u : Int) : ∀ xs ys : List Int, xs.length = ys.length → Cg m (ev u (plnZip (· + ·) m xs ys)) (ev u xs + ev u ys)
  | [], [], _ => Cg.refl _ _
  | a :: xs, b :: ys, h => by
    have ih := ev_add m u xs ys (by simpa using h)
    show Cg m (rr m (a + b) + u * ev u (plnZip (· + ·) m xs ys)) (a + u * ev u xs + (b + u * ev u ys))
    rw [show a + u * ev u xs + (b + u * ev u ys) = (a + b) + u * (ev u xs + ev u ys) by rw [Int.mul_add]; omega]
    exact (rr_cg m _).add (ih.mulL u)
  | [], _ :: _, h => by simp at h
  | _ :: _, [], h => by simp at h
theorem ev_sub (m u : Int) : ∀ xs ys : List Int, xs.length = ys.length → Cg m (ev u (plnZip (· - ·) m xs ys)) (ev u xs - ev u ys)
  | [], [], _ => Cg.refl _ _
  | a :: xs, b :: ys, h => by
    have ih := ev_sub m u xs ys (by simpa using h)
    show Cg m (rr m (a - b) + u * ev u (plnZip (· - ·) m xs ys)) (a + u * ev u xs - (b + u * ev u ys))
    rw [show a + u * ev u xs - (b + u * ev u ys) = (a - b) + u * (ev u xs - ev u ys) by rw [Int.mul_sub]; omega]
    exact (rr_cg m _).add (ih.mulL u)
  | [], _ :: _, h => by simp at h
  | _ :: _, [], h => by simp at h
theorem ev_neg (m u : Int) (xs : List Int) : Cg m (ev u (plnNeg m xs)) (0 - ev u xs) := by
  induction xs with
  | nil => exact Cg.refl _ _
  | cons a r ih =>
    show Cg m ((-a).fmod m + u * ev u (plnNeg m r)) (0 - (a + u * ev u r))
    rw [show 0 - (a + u * ev u r) = -a + u * (0 - ev u r) by rw [Int.mul_sub]; omega]
    exact (Cg.fm m _).add (ih.mulL u)
theorem ev_rep0 (u : Int) (d : Nat) : ev u (List.replicate d 0) = 0 := by
  induction d with
  | zero => rfl
  | succ d ih => rw [List.replicate_succ, ev, ih]; simp
theorem ev_one (m u : Int) (d : Nat) : Cg m (ev u (plnOne m d)) 1 := by
  refine (ev_fm m u _).trans ?_
  show Cg m (1 + u * ev u (List.replicate (d - 1) 0)) 1
  rw [ev_rep0]; simp; exact Cg.refl _ _
theorem ev_zero (m u : Int) (d : Nat) : Cg m (ev u (plnZero m d)) 0 := by
  refine (ev_fm m u _).trans ?_
  rw [ev_rep0]; exact Cg.refl _ _
theorem ev_set (u v : Int) : ∀ (b : List Int) (k : Nat), k < b.length → ev u (b.set k v) = ev u b + (v - b.getD k 0) * u ^ k
  | [], _, h => by simp at h
  | c :: r, 0, _ => by simp [ev]; omega
  | c :: r, k + 1, h => by
    have ih := ev_set u v r k (by simpa using h)
    simp only [List.set_cons_succ, ev, ih, List.getD_cons_succ, Int.pow_succ]
    rw [Int.mul_add, ← Int.add_assoc, show u * ((v - r.getD k 0) * u ^ k) = (v - r.getD k 0) * (u ^ k * u) by rw [Int.mul_left_comm, Int.mul_comm u]]
theorem ev_snoc (u c : Int) (l : List Int) : ev u (l ++ [c]) = ev u l + c * u ^ l.length := by
  induction l with
  | nil => simp [ev]
  | cons a l ih =>
    simp only [List.cons_append, ev, ih, List.length_cons, Int.pow_succ]
    rw [Int.mul_add, ← Int.add_assoc, show u * (c * u ^ l.length) = c * (u ^ l.length * u) by rw [Int.mul_left_comm, Int.mul_comm u]]
/-- the first n terms -/
def ssum (u : Int) (l : List Int) : Nat → Int
  | 0 => 0
  | n + 1 => ssum u l n + l.getD n 0 * u ^ n
theorem ssum_cons (u c : Int) (r : List Int) (n : Nat) : ssum u (c :: r) (n + 1) = c + u * ssum u r n := by
  induction n with
  | zero => simp [ssum]
  | succ n ih =>
    rw [ssum, ih, ssum, List.getD_cons_succ, Int.mul_add, ← Int.add_assoc, Int.pow_succ, show u * (r.getD n 0 * u ^ n) = r.getD n 0 * (u ^ n * u) by rw [Int.mul_left_comm, Int.mul_comm u]]
theorem ssum_ev (u : Int) (l : List Int) : ssum u l l.length = ev u l := by
  induction l with
  | nil => rfl
  | cons c r ih => rw [List.length_cons, ssum_cons, ih]; rfl
/-- a step that adds v u^k -/
theorem ev_addAt {m u v w : Int} {b : List Int} {k : Nat} (hk : k < b.length) (hv : Cg m v w) : Cg m (ev u (addAt m b k v)) (ev u b + w * u ^ k) := by
  unfold addAt
  rw [ev_set u _ b k hk]
  refine (Cg.refl _ _).add ?_
  refine Cg.mulR _ ?_
  have := ((rr_cg m (b.getD k 0 + v)).sub (Cg.refl m (b.getD k 0)))
  rw [show b.getD k 0 + v - b.getD k 0 = v by omega] at this
  exact this.trans hv
theorem ev_subAt {m u v w : Int} {b : List Int} {k : Nat} (hk : k < b.length) (hv : Cg m v w) : Cg m (ev u (subAt m b k v)) (ev u b - w * u ^ k) := by
  unfold subAt
  rw [ev_set u _ b k hk, show ev u b - w * u ^ k = ev u b + -w * u ^ k by rw [Int.neg_mul]; omega]
  refine (Cg.refl _ _).add ?_
  refine Cg.mulR _ ?_
  have := ((rr_cg m (b.getD k 0 - v)).sub (Cg.refl m (b.getD k 0)))
  rw [show b.getD k 0 - v - b.getD k 0 = -v by omega] at this
  exact this.trans hv.neg
theorem ev_convI {m u : Int} (xs ys : List Int) (i : Nat) : ∀ (n : Nat) (b : List Int), i + n ≤ b.length → Cg m (ev u ((List.range n).foldl (convJ m xs ys i) b)) (ev u b + xs.getD i 0 * u ^ i * ssum u ys n)
  | 0, b, _ => by simp [ssum]; exact Cg.refl _ _
  | n + 1, b, h => by
    have ih := ev_convI (m := m) (u := u) xs ys i n b (by omega)
    rw [foldl_range_succ]
    have hl : ((List.range n).foldl (convJ m xs ys i) b).length = b.length := foldl_len _ (fun b k => by unfold convJ; exact addAt_length ..) _ _
    unfold convJ at hl ih ⊢
    refine (ev_addAt (w := xs.getD i 0 * ys.getD n 0) (by omega) (rr_cg m _)).trans ?_
    rw [ssum, Int.mul_add, ← Int.add_assoc]
    refine ih.add ?_
    rw [show xs.getD i 0 * u ^ i * (ys.getD n 0 * u ^ n) = xs.getD i 0 * ys.getD n 0 * u ^ (i + n) by rw [Int.pow_add, Int.mul_assoc, Int.mul_assoc, Int.mul_left_comm (u ^ i)]]
    exact Cg.refl _ _
theorem ev_conv {m u : Int} (xs ys : List Int) (d : Nat) : ∀ i, i ≤ d → Cg m (ev u (conv m xs ys d i)) (ssum u xs i * ssum u ys d)
  | 0, _ => by
    show Cg m (ev u (List.replicate (2 * d - 1) ((0 : Int).fmod m))) _
    rw [Int.zero_fmod, ev_rep0]; simp [ssum]; exact Cg.refl _ _
  | i + 1, h => by
    have ih := ev_conv (m := m) (u := u) xs ys d i (by omega)
    have e4 : conv m xs ys d (i + 1) = (List.range d).foldl (convJ m xs ys i) (conv m xs ys d i) := by unfold conv; rw [foldl_range_succ]; rfl
    rw [e4]
    refine (ev_convI xs ys i d _ (by rw [conv_length]; omega)).trans ?_
    rw [ssum, Int.add_mul]
    exact ih.add (Cg.refl _ _)
theorem ev_red {m u top : Int} (ms : List Int) (e : Nat) : ∀ (n : Nat) (b : List Int), e + n ≤ b.length → Cg m (ev u ((List.range n).foldl (redI m ms e top) b)) (ev u b - top * u ^ e * ssum u ms n)
  | 0, b, _ => by simp [ssum]; exact Cg.refl _ _
  | n + 1, b, h => by
    have ih := ev_red (m := m) (u := u) (top := top) ms e n b (by omega)
    rw [foldl_range_succ]
    have hl : ((List.range n).foldl (redI m ms e top) b).length = b.length := foldl_len _ (fun b k => by unfold redI; exact subAt_length ..) _ _
    have hs : Cg m (rr m (top * (ms.getD n 0).fmod m)) (top * ms.getD n 0) := (rr_cg m _).trans ((Cg.fm m _).mulL top)
    unfold redI at hl ih ⊢
    refine (ev_subAt (by omega) hs).trans ?_
    rw [ssum, Int.mul_add, show ev u b - (top * u ^ e * ssum u ms n + top * u ^ e * (ms.getD n 0 * u ^ n)) = (ev u b - top * u ^ e * ssum u ms n) - top * u ^ e * (ms.getD n 0 * u ^ n) by omega]
    refine ih.sub ?_
    rw [show top * u ^ e * (ms.getD n 0 * u ^ n) = top * ms.getD n 0 * u ^ (e + n) by rw [Int.pow_add, Int.mul_assoc, Int.mul_assoc, Int.mul_left_comm (u ^ e)]]
    exact Cg.refl _ _
theorem snoc_parts {b : List Int} (h : 0 < b.length) : b = b.dropLast ++ [b.getD (b.length - 1) 0] := by
  have hne : b ≠ [] := by rintro rfl; simp at h
  have := (List.dropLast_concat_getLast hne).symm
  rw [List.getLast_eq_getElem] at this
  rw [List.getD_eq_getElem?_getD, List.getElem?_eq_getElem (by omega)]
  exact this
theorem root_top {m u top : Int} {ms : List Int} {e : Nat} (hr : RootOf m u ms) (x : Int) : Cg m (x - top * u ^ e * ev u ms) (x + top * u ^ (e + ms.length)) := by
  unfold Cg
  rw [show x - top * u ^ e * ev u ms - (x + top * u ^ (e + ms.length)) = -(top * u ^ e) * (ev u ms + u ^ ms.length) by rw [Int.neg_mul, Int.mul_add, Int.pow_add, Int.mul_assoc top (u ^ e) (u ^ ms.length)]; omega]
  exact Int.dvd_mul_of_dvd_right hr
theorem ev_redTop {m u : Int} {ms b : List Int} (hr : RootOf m u ms) (h : ms.length < b.length) : Cg m (ev u (redTop m ms b)) (ev u b) := by
  unfold redTop
  have hd : b.dropLast.length = b.length - 1 := by simp
  refine (ev_red ms _ ms.length b.dropLast (by omega)).trans ?_
  rw [ssum_ev]
  refine (root_top hr _).trans ?_
  conv => rhs; rw [snoc_parts (b := b) (by omega), ev_snoc]
  rw [hd, show b.length - 1 - ms.length + ms.length = b.length - 1 by omega]
  exact Cg.refl _ _
theorem ev_redN {m u : Int} {ms : List Int} (hr : RootOf m u ms) : ∀ (n : Nat) (b : List Int), ms.length + n ≤ b.length → Cg m (ev u (redN m ms n b)) (ev u b)
  | 0, _, _ => Cg.refl _ _
  | n + 1, b, h => (ev_redN hr n (redTop m ms b) (by rw [redTop_length]; omega)).trans (ev_redTop hr (by omega))
theorem ev_plnMul {m u : Int} {xs ys ms : List Int} (hr : RootOf m u ms) (h8 : 0 < ms.length) (h1 : xs.length = ms.length) (h2 : ys.length = ms.length) : Cg m (ev u (plnMul m xs ys ms)) (ev u xs * ev u ys) := by
  unfold plnMul
  refine (ev_redN hr _ _ (by rw [conv_length]; omega)).trans ?_
  have := ev_conv (m := m) (u := u) xs ys ms.length ms.length (Nat.le_refl _)
  rwa [← h1, ssum_ev, h1, ← h2, ssum_ev, h2] at this
theorem ev_cvI {u : Int} (xs ys : List Int) (i : Nat) : ∀ (n : Nat) (b : List Int), i + n ≤ b.length → ev u ((List.range n).foldl (cvJ xs ys i) b) = ev u b + xs.getD i 0 * u ^ i * ssum u ys n
  | 0, b, _ => by simp [ssum]
  | n + 1, b, h => by
    have ih := ev_cvI (u := u) xs ys i n b (by omega)
    rw [foldl_range_succ]
    have hl : ((List.range n).foldl (cvJ xs ys i) b).length = b.length := foldl_len _ (fun b k => by simp [cvJ]) _ _
    generalize (List.range n).foldl (cvJ xs ys i) b = B at *
    show ev u (B.set (i + n) (B.getD (i + n) 0 + xs.getD i 0 * ys.getD n 0)) = _
    rw [ev_set u _ B _ (by omega), ih, ssum, Int.mul_add,
      show xs.getD i 0 * u ^ i * (ys.getD n 0 * u ^ n) = xs.getD i 0 * ys.getD n 0 * u ^ (i + n) by rw [Int.pow_add, Int.mul_assoc, Int.mul_assoc, Int.mul_left_comm (u ^ i)],
      show B.getD (i + n) 0 + xs.getD i 0 * ys.getD n 0 - B.getD (i + n) 0 = xs.getD i 0 * ys.getD n 0 by omega]
    omega
theorem ev_cv {u : Int} (xs ys : List Int) (d : Nat) : ∀ i, i ≤ d → ev u (cv xs ys d i) = ssum u xs i * ssum u ys d
  | 0, _ => by
    show ev u (List.replicate (2 * d - 1) 0) = _
    rw [ev_rep0]; simp [ssum]
  | i + 1, h => by
    have ih := ev_cv (u := u) xs ys d i (by omega)
    have e4 : cv xs ys d (i + 1) = (List.range d).foldl (cvJ xs ys i) (cv xs ys d i) := by unfold cv; rw [foldl_range_succ]; rfl
    rw [e4, ev_cvI xs ys i d _ (by rw [cv_length]; omega), ih, ssum, Int.add_mul]
theorem ev_rdP {u top : Int} (e : Nat) : ∀ (ps : List (Int × Int)) (b : List Int), (∀ q ∈ ps, 0 ≤ q.1 ∧ e + q.1.toNat < b.length) → ev u (ps.foldl (rdP e top) b) = ev u b - top * u ^ e * (ps.map fun q => q.2 * u ^ q.1.toNat).sum
  | [], b, _ => by simp
  | q :: ps, b, h => by
    have hq := h q (.head _)
    have hl : (rdP e top b q).length = b.length := by simp [rdP]
    rw [List.foldl_cons, ev_rdP e ps (rdP e top b q) (fun q' hq' => by rw [hl]; exact h q' (.tail _ hq'))]
    show ev u (b.set (e + q.1.toNat) (b.getD (e + q.1.toNat) 0 - top * q.2)) - _ = _
    rw [ev_set u _ b _ hq.2, List.map_cons, List.sum_cons, Int.mul_add,
      show top * u ^ e * (q.2 * u ^ q.1.toNat) = top * q.2 * u ^ (e + q.1.toNat) by rw [Int.pow_add, Int.mul_assoc, Int.mul_assoc, Int.mul_left_comm (u ^ e)],
      show b.getD (e + q.1.toNat) 0 - top * q.2 - b.getD (e + q.1.toNat) 0 = -(top * q.2) by omega, Int.neg_mul]
    omega
theorem mc_sum (u : Int) (ms : List Int) : ∀ k : Nat, ((mcFrom (k : Int) ms).map fun q => q.2 * u ^ q.1.toNat).sum = u ^ k * ev u ms := by
  induction ms with
  | nil => intro k; simp [mcFrom, ev]
  | cons c r ih =>
    intro k
    have ih' := ih (k + 1)
    rw [Int.natCast_add] at ih'
    have e : u ^ (k + 1) * ev u r = u ^ k * (u * ev u r) := by rw [Int.pow_succ, Int.mul_assoc]
    by_cases h : c = 0
    · simp only [mcFrom, h, ne_eq, not_true_eq_false, if_false]
      rw [show ((1 : Nat) : Int) = 1 from rfl] at ih'
      rw [ih', e]; simp [ev]
    · simp only [mcFrom, h, ne_eq, not_false_eq_true, if_true, List.map_cons, List.sum_cons]
      rw [show ((1 : Nat) : Int) = 1 from rfl] at ih'
      rw [ih', e, ev, Int.mul_add, Int.toNat_natCast, Int.mul_comm c]
theorem ev_rdTop {m u : Int} {ms b : List Int} (hr : RootOf m u ms) (h : ms.length < b.length) : Cg m (ev u (rdTop ms b)) (ev u b) := by
  unfold rdTop
  have hd : b.dropLast.length = b.length - 1 := by simp
  rw [ev_rdP _ (mcFrom 0 ms) b.dropLast (fun q hq => by have := mcFrom_mem hq; omega)]
  have := mc_sum u ms 0
  rw [show ((0 : Nat) : Int) = 0 from rfl] at this
  rw [this, Int.pow_zero, Int.one_mul]
  refine (root_top hr _).trans ?_
  conv => rhs; rw [snoc_parts (b := b) (by omega), ev_snoc]
  rw [hd, show b.length - 1 - ms.length + ms.length = b.length - 1 by omega]
  exact Cg.refl _ _
theorem ev_rdN {m u : Int} {ms : List Int} (hr : RootOf m u ms) : ∀ (n : Nat) (b : List Int), ms.length + n ≤ b.length → Cg m (ev u (rdN ms n b)) (ev u b)
  | 0, _, _ => Cg.refl _ _
  | n + 1, b, h => (ev_rdN hr n (rdTop ms b) (by rw [rdTop_length]; omega)).trans (ev_rdTop hr (by omega))
theorem ev_optMul {m u : Int} {xs ys ms : List Int} (hr : RootOf m u ms) (h8 : 0 < ms.length) (h1 : xs.length = ms.length) (h2 : ys.length = ms.length) : Cg m (ev u (optMul m xs ys ms)) (ev u xs * ev u ys) := by
  unfold optMul
  refine (ev_rr m u _).trans ?_
  refine (ev_rdN hr _ _ (by rw [cv_length]; omega)).trans ?_
  have := ev_cv (u := u) xs ys ms.length ms.length (Nat.le_refl _)
  rw [← h1, ssum_ev, h1, ← h2, ssum_ev, h2] at this
  rw [← h1, ← h1] at *
  rw [h1]
  rw [h1] at this
  rw [this]
  exact Cg.refl _ _
theorem ev_elMul {m u : Int} (k : Kd) {xs ys ms : List Int} (hr : RootOf m u ms) (h8 : 0 < ms.length) (h1 : xs.length = ms.length) (h2 : ys.length = ms.length) : Cg m (ev u (elMul k m xs ys ms)) (ev u xs * ev u ys) := by
  cases k
  · exact ev_plnMul hr h8 h1 h2
  · exact ev_optMul hr h8 h1 h2
  · exact ev_optMul hr h8 h1 h2
theorem ev_plnPow {m u : Int} {ms : List Int} (hr : RootOf m u ms) (h8 : 0 < ms.length) (n : Nat) : ∀ xs : List Int, xs.length = ms.length → Cg m (ev u (plnPow m ms n xs)) (ev u xs ^ n) := by
  induction n using Nat.strongRecOn with
  | ind n ih =>
    intro xs hx
    match n, ih with
    | 0, _ => rw [plnPow, Int.pow_zero]; exact ev_one m u _
    | 1, _ => rw [plnPow, Int.pow_one]; exact Cg.refl _ _
    | k + 2, ih =>
      have h2 := ev_plnMul (xs := xs) (ys := xs) hr h8 hx hx
      have hl := plnMul_length m xs xs ms h8
      have h3 := (ih ((k + 2) / 2) (by omega) (plnMul m xs xs ms) hl).trans (h2.pow ((k + 2) / 2))
      have e : (ev u xs * ev u xs) ^ ((k + 2) / 2) = ev u xs ^ (2 * ((k + 2) / 2)) := by rw [Int.pow_mul, Int.pow_succ, Int.pow_one]
      rw [e] at h3
      rw [plnPow]
      split
      · rename_i h0
        rw [show 2 * ((k + 2) / 2) = k + 2 by omega] at h3
        exact h3
      · rename_i h0
        refine (ev_plnMul hr h8 (plnPow_length _ _ h8 _ _ hl) hx).trans ?_
        rw [show k + 2 = 2 * ((k + 2) / 2) + 1 by omega, Int.pow_succ, show 2 * ((k + 2) / 2) + 1 = k + 2 by omega]
        exact h3.mulR _
theorem ev_powW {m u : Int} {ms : List Int} (hr : RootOf m u ms) (h8 : 0 < ms.length) (n : Nat) : ∀ o t : List Int, o.length = ms.length → t.length = ms.length → Cg m (ev u (powW m ms n o t)) (ev u o * ev u t ^ n) := by
  induction n using Nat.strongRecOn with
  | ind n ih =>
    intro o t ho ht
    match n, ih with
    | 0, _ => rw [powW, Int.pow_zero, Int.mul_one]; exact Cg.refl _ _
    | k + 1, ih =>
      have h2 := ev_optMul (xs := t) (ys := t) hr h8 ht ht
      have hl := optMul_length m t t ms h8
      have h4 := h2.pow ((k + 1) / 2)
      have e : (ev u t * ev u t) ^ ((k + 1) / 2) = ev u t ^ (2 * ((k + 1) / 2)) := by rw [Int.pow_mul, Int.pow_succ, Int.pow_one]
      rw [e] at h4
      rw [powW]
      split
      · rename_i h0
        refine (ih ((k + 1) / 2) (by omega) _ _ (optMul_length m o t ms h8) hl).trans ?_
        refine ((ev_optMul hr h8 ho ht).mul h4).trans ?_
        rw [show k + 1 = 1 + 2 * ((k + 1) / 2) by omega, Int.pow_add, Int.pow_one, show 1 + 2 * ((k + 1) / 2) = k + 1 by omega, Int.mul_assoc]
        exact Cg.refl _ _
      · rename_i h0
        refine (ih ((k + 1) / 2) (by omega) _ _ ho hl).trans ?_
        rw [show 2 * ((k + 1) / 2) = k + 1 by omega] at h4
        exact h4.mulL _
theorem ev_elPow {m u : Int} (k : Kd) {ms : List Int} (hr : RootOf m u ms) (h8 : 0 < ms.length) (n : Nat) {xs : List Int} (hx : xs.length = ms.length) : Cg m (ev u (elPow k m ms n xs)) (ev u xs ^ n) := by
  have ho : ∀ xs : List Int, xs.length = ms.length → Cg m (ev u (optPow m ms n xs)) (ev u xs ^ n) := fun xs hx => by
    unfold optPow
    refine (ev_powW hr h8 n _ _ (by simp [plnOne]; omega) hx).trans ?_
    have := (ev_one m u ms.length).mulR (ev u xs ^ n)
    rwa [Int.one_mul] at this
  cases k
  · exact ev_plnPow hr h8 n xs hx
  · exact ho xs hx
  · exact ho xs hx
theorem pm_step (b e m p j : Nat) (hp : p = b ^ (e / 2 ^ (j + 1)) % m) : (if e.testBit j then p * p % m * b % m else p * p % m) = b ^ (e / 2 ^ j) % m := by
  have h1 : e / 2 ^ j = 2 * (e / 2 ^ (j + 1)) + (e / 2 ^ j) % 2 := by
    rw [Nat.pow_succ, ← Nat.div_div_eq_div_mul]; omega
  have h2 : e.testBit j = decide ((e / 2 ^ j) % 2 = 1) := by rw [Nat.testBit_eq_decide_div_mod_eq]
  generalize e / 2 ^ (j + 1) = B at *
  generalize e / 2 ^ j = A at *
  have hb : A % 2 = 0 ∨ A % 2 = 1 := by omega
  have hpp : p * p % m = b ^ (2 * B) % m := by rw [hp, ← Nat.mul_mod, Nat.two_mul, Nat.pow_add]
  rcases hb with h | h
  · rw [h2, h, if_neg (by decide), hpp]
    rw [h] at h1
    rw [h1, Nat.add_zero]
  · rw [h2, h, if_pos (by decide), hpp]
    rw [h] at h1
    rw [h1, Nat.pow_succ, Nat.mod_mul_mod]
theorem pm_fold (b e m : Nat) : ∀ (j p : Nat), p = b ^ (e / 2 ^ j) % m → (List.range j).reverse.foldl (fun p i => if e.testBit i then p * p % m * b % m else p * p % m) p = b ^ e % m
  | 0, p, h => by simpa using h
  | j + 1, p, h => by
    rw [List.range_succ, List.reverse_append]
    show (List.range j).reverse.foldl _ _ = _
    exact pm_fold b e m j _ (pm_step b e m p j h)
theorem powMod_eq (b e m : Nat) : Builtin.powMod b e m = b ^ e % m := by
  unfold Builtin.powMod
  refine pm_fold b e m _ _ ?_
  have : e / 2 ^ (Builtin.Int.intBits e) = 0 := Nat.div_eq_of_lt (by
    unfold Builtin.Int.intBits
    by_cases h : e = 0
    · subst h; decide
    · rw [if_neg (by simpa using h), Int.natAbs_natCast]
      exact Nat.lt_log2_self)
  rw [this, Nat.pow_zero]
theorem ev_setfm {m x v : Int} {b : List Int} {k : Nat} (hk : k < b.length) : Cg m (ev x (b.set k ((b.getD k 0 + v).fmod m))) (ev x b + v * x ^ k) := by
  rw [ev_set x _ b k hk]
  refine (Cg.refl _ _).add ?_
  refine Cg.mulR _ ?_
  have := ((Cg.fm m (b.getD k 0 + v)).sub (Cg.refl m (b.getD k 0)))
  rwa [show b.getD k 0 + v - b.getD k 0 = v by omega] at this
theorem ev_rows {m u x : Int} (rest : List Int) : ∀ i, i ≤ rest.length → Cg m (ev x (rowsUpto rest u m i)) ((x - u) * ssum x rest i)
  | 0, _ => by
    show Cg m (ev x (List.replicate (rest.length + 1) 0)) _
    rw [ev_rep0]; simp [ssum]; exact Cg.refl _ _
  | i + 1, h => by
    have ih := ev_rows (m := m) (u := u) (x := x) rest i (by omega)
    have hl := rowsUpto_length rest u m i
    rw [rowsUpto_succ]
    generalize rowsUpto rest u m i = w at *
    unfold rowsStep
    dsimp only
    have s1 := ev_setfm (m := m) (x := x) (v := -(u * rest.getD i 0)) (b := w) (k := i) (by omega)
    rw [show w.getD i 0 + -(u * rest.getD i 0) = w.getD i 0 - u * rest.getD i 0 by omega] at s1
    have hl1 : (w.set i ((w.getD i 0 - u * rest.getD i 0).fmod m)).length = w.length := by simp
    generalize w.set i ((w.getD i 0 - u * rest.getD i 0).fmod m) = w1 at *
    refine (ev_setfm (by omega)).trans ?_
    refine (s1.add (Cg.refl m _)).trans ?_
    rw [ssum, Int.mul_add, Int.add_assoc]
    refine ih.add ?_
    rw [show (x - u) * (rest.getD i 0 * x ^ i) = -(u * rest.getD i 0) * x ^ i + rest.getD i 0 * x ^ (i + 1) by
      rw [Int.sub_mul, Int.pow_succ, Int.neg_mul, Int.mul_assoc u, Int.mul_left_comm x, Int.mul_comm x]; omega]
    exact Cg.refl _ _
theorem ev_lawRows {m u x : Int} (rest : List Int) : Cg m (ev x (lawRows rest u m) + x ^ (lawRows rest u m).length) ((x - u) * (ev x rest + x ^ rest.length)) := by
  rw [lawRows_length]
  unfold lawRows
  have h := ev_rows (m := m) (u := u) (x := x) rest rest.length (Nat.le_refl _)
  have hl := rowsUpto_length rest u m rest.length
  rw [ssum_ev] at h
  dsimp only
  generalize rowsUpto rest u m rest.length = w at *
  have s1 := ev_setfm (m := m) (x := x) (v := -u) (b := w) (k := rest.length) (by omega)
  rw [show w.getD rest.length 0 + -u = w.getD rest.length 0 - u by omega] at s1
  refine (s1.add (Cg.refl m _)).trans ?_
  refine ((h.add (Cg.refl m _)).add (Cg.refl m _)).trans ?_
  rw [show (x - u) * (ev x rest + x ^ rest.length) = (x - u) * ev x rest + -u * x ^ rest.length + x ^ (rest.length + 1) by
    rw [Int.mul_add, Int.sub_mul x u (x ^ rest.length), Int.pow_succ, Int.neg_mul, Int.mul_comm (x ^ rest.length) x]; omega]
  exact Cg.refl _ _
theorem Cg.dvd0 {m a : Int} (h : Cg m a 0) : m ∣ a := by unfold Cg at h; rwa [Int.sub_zero] at h
theorem lawRows_root {m : Int} (rest : List Int) (u : Int) : RootOf m u (lawRows rest u m) := by
  have := ev_lawRows (m := m) (u := u) (x := u) rest
  rw [Int.sub_self, Int.zero_mul] at this
  exact this.dvd0
theorem lawRows_root2 {m u v c : Int} (hc : Cg m c (-v)) : RootOf m v (lawRows [c] u m) := by
  have := ev_lawRows (m := m) (u := u) (x := v) [c]
  refine (this.trans ?_).dvd0
  have e : ev v [c] + v ^ ([c] : List Int).length = c + v := by
    show c + v * 0 + v ^ 1 = c + v
    rw [Int.mul_zero, Int.pow_one]; omega
  rw [e]
  have := (hc.add (Cg.refl m v)).mulL (v - u)
  rwa [show -v + v = 0 by omega, Int.mul_zero] at this
theorem rowsStep_in {m : Int} (h0 : 0 < m) (rest : List Int) (u : Int) (b : List Int) (k : Nat) (hb : InR m b) : InR m (rowsStep rest u m b k) := by
  unfold rowsStep
  exact (hb.set _ (fmod_in h0)).set _ (fmod_in h0)
theorem lawRows_in {m : Int} (h0 : 0 < m) (rest : List Int) (u : Int) : InR m (lawRows rest u m) := by
  unfold lawRows rowsUpto
  refine InR.set ?_ _ (fmod_in h0)
  exact foldl_in _ (fun b k hb => rowsStep_in h0 rest u b k hb) _ _ fun x hx => by rw [(List.mem_replicate.mp hx).2]; omega
structure NUok (ns : List Int) (m u : Int) (M NU OT : List Int) : Prop where
  l1 : NU.length = M.length
  l2 : OT.length = M.length
  root : RootOf m u M
  m2 : 2 ≤ m
  d2 : 2 ≤ M.length
  u0 : 0 ≤ u
  u1 : u < m
theorem powMod_int {a m : Int} {n : Nat} (h0 : 0 ≤ a) (h1 : a < m) : ((Builtin.powMod ((a % (m.natAbs : Int)).toNat) n m.natAbs : Nat) : Int) = (a ^ n).fmod m := by
  have hm : (m.natAbs : Int) = m := by omega
  rw [hm, Int.emod_eq_of_lt h0 h1, powMod_eq, Int.natCast_emod, Int.natCast_pow, hm, Int.toNat_of_nonneg h0, Int.fmod_eq_emod_of_nonneg _ (by omega)]
theorem ring_law (k : Kd) {ns : List Int} {m u : Int} {M NU OT : List Int} (h : NUok ns m u M NU OT) :
    [lawValue (plnZip (· + ·) m (NU.map fun k => k.fmod m) (OT.map fun k => k.fmod m)) u m, lawValue (plnZip (· - ·) m (NU.map fun k => k.fmod m) (OT.map fun k => k.fmod m)) u m, lawValue (plnNeg m (NU.map fun k => k.fmod m)) u m]
      = [(lawValue NU u m + lawValue OT u m).fmod m, (lawValue NU u m - lawValue OT u m).fmod m, (0 - lawValue NU u m).fmod m] ∧
    lawValue (elMul k m (NU.map fun k => k.fmod m) (OT.map fun k => k.fmod m) M) u m = (lawValue NU u m * lawValue OT u m).fmod m ∧
    lawValue (plnOne m M.length) u m = (1 : Int).fmod m ∧ lawValue (plnZero m M.length) u m = 0 ∧
    ∀ n : Nat, n ≤ 12 → lawValue (elPow k m M n (NU.map fun k => k.fmod m)) u m = ((Builtin.powMod ((lawValue NU u m % (m.natAbs : Int)).toNat) n m.natAbs : Nat) : Int) := by
  have h1 : (NU.map fun k => k.fmod m).length = M.length := by rw [List.length_map]; exact h.l1
  have h2 : (OT.map fun k => k.fmod m).length = M.length := by rw [List.length_map]; exact h.l2
  have c1 : Cg m (ev u (NU.map fun k => k.fmod m)) (lawValue NU u m) := by rw [law_ev]; exact (ev_fm m u NU).trans (Cg.fm m _).symm
  have c2 : Cg m (ev u (OT.map fun k => k.fmod m)) (lawValue OT u m) := by rw [law_ev]; exact (ev_fm m u OT).trans (Cg.fm m _).symm
  have hr := lawValue_rng h.m2 NU u
  have d2 := h.d2
  generalize (NU.map fun k => k.fmod m) = N at *
  generalize (OT.map fun k => k.fmod m) = O at *
  refine ⟨?_, ?_, ?_, ?_, fun n _ => ?_⟩
  · rw [law_ev, law_ev, law_ev, ((ev_add m u N O (by omega)).trans (c1.add c2)).eq, ((ev_sub m u N O (by omega)).trans (c1.sub c2)).eq, ((ev_neg m u N).trans ((Cg.refl m 0).sub c1)).eq]
  · rw [law_ev]; exact ((ev_elMul k h.root (by omega) h1 h2).trans (c1.mul c2)).eq
  · rw [law_ev]; exact (ev_one m u _).eq
  · rw [law_ev, (ev_zero m u _).eq, Int.zero_fmod]
  · rw [law_ev, powMod_int hr.1 hr.2]; exact ((ev_elPow k h.root (by omega) n h1).trans (c1.pow n)).eq
def numL (ns : List Int) (m : Int) (a b n : Nat) : List Int := (List.range n).map fun k => (lawAt ns (a + b * k)).fmod m
theorem numL_length (ns : List Int) (m : Int) (a b n : Nat) : (numL ns m a b n).length = n := by simp [numL]
theorem numL_get (ns : List Int) (m : Int) (a b : Nat) {n i : Nat} (h : i < n) : (numL ns m a b n)[i]? = some ((lawAt ns (a + b * i)).fmod m) := by simp [numL, h]
set_option maxRecDepth 10000 in
theorem inv_table : ∀ k : Nat, k < 8 → ∀ d : Nat, d < (lawPrimes.getD k 0).toNat → d ≠ 0 → (d ^ ((lawPrimes.getD k 0).toNat - 2) % (lawPrimes.getD k 0).toNat * d) % (lawPrimes.getD k 0).toNat = 1 := by decide +kernel
theorem primes_le : ∀ k : Nat, k < 8 → 2 ≤ lawPrimes.getD k 0 ∧ lawPrimes.getD k 0 < 2000000 := by decide
theorem p7 : ∀ k : Nat, k < 8 → 7 ≤ lawPrimes.getD k 0 := by decide
theorem halves_law (k : Kd) {kind : Nat} {m u : Int} (hk : kind < 8) (hm : m = lawPrimes.getD kind 0) (u0 : 0 ≤ u) (u1 : u < m) (x : Int) :
    0 ≤ (u + 1 + x.fmod (m - 1)).fmod m ∧ (u + 1 + x.fmod (m - 1)).fmod m < m ∧
    elMul k m ((hvN u ((u + 1 + x.fmod (m - 1)).fmod m) m).map fun k => k.fmod m) ((hvN u ((u + 1 + x.fmod (m - 1)).fmod m) m).map fun k => k.fmod m) (lawRows [(0 - (u + 1 + x.fmod (m - 1)).fmod m).fmod m] u m) = hvN u ((u + 1 + x.fmod (m - 1)).fmod m) m ∧
    lawValue ((hvN u ((u + 1 + x.fmod (m - 1)).fmod m) m).map fun k => k.fmod m) u m = 0 ∧ lawValue ((hvN u ((u + 1 + x.fmod (m - 1)).fmod m) m).map fun k => k.fmod m) ((u + 1 + x.fmod (m - 1)).fmod m) m = 1 ∧ Bd (lawRows [(0 - (u + 1 + x.fmod (m - 1)).fmod m).fmod m] u m) := by
  have m2 : 2 ≤ m := by rw [hm]; exact (primes_le kind hk).1
  have m3 : m < 2000000 := by rw [hm]; exact (primes_le kind hk).2
  have x0 := Int.fmod_nonneg_of_pos x (show 0 < m - 1 by
    have : 7 ≤ m := by rw [hm]; exact p7 kind hk
    omega)
  have x1 := Int.fmod_lt_of_pos x (show 0 < m - 1 by omega)
  have cv0 : Cg m ((u + 1 + x.fmod (m - 1)).fmod m) (u + 1 + x.fmod (m - 1)) := Cg.fm m _
  have v0 := Int.fmod_nonneg_of_pos (u + 1 + x.fmod (m - 1)) (show 0 < m by omega)
  have v1 := Int.fmod_lt_of_pos (u + 1 + x.fmod (m - 1)) (show 0 < m by omega)
  generalize x.fmod (m - 1) = y at *
  generalize (u + 1 + y).fmod m = v at *
  refine ⟨v0, v1, ?_⟩
  -- the inverse of v - u
  have hd : (v - u).fmod m = 1 + y := by
    rw [(cv0.sub (Cg.refl m u)).eq, show u + 1 + y - u = 1 + y by omega]
    exact fm_self (by omega) (by omega)
  have hb : (bkN u v m : Int) = ((1 + y) ^ (m - 2).natAbs).fmod m := by
    unfold bkN; rw [hd]; exact powMod_int (by omega) (by omega)
  have hinv : Cg m ((bkN u v m : Int) * (v - u)) 1 := by
    have h1 : Cg m ((bkN u v m : Int) * (v - u)) ((bkN u v m : Int) * (1 + y)) := Cg.mulL _ (by rw [← hd]; exact (Cg.fm m _).symm)
    refine h1.trans ?_
    have t := inv_table kind hk (1 + y).toNat (by rw [← hm]; omega) (by omega)
    rw [← hm] at t
    have hm' : (m.toNat : Int) = m := Int.toNat_of_nonneg (by omega)
    have hy' : ((1 + y).toNat : Int) = 1 + y := Int.toNat_of_nonneg (by omega)
    have t2 := congrArg (fun z : Nat => (z : Int)) t
    simp only [Int.natCast_emod, Int.natCast_mul, Int.natCast_pow, hm', hy'] at t2
    have e1 : m.toNat - 2 = (m - 2).natAbs := by omega
    rw [e1, ← Int.fmod_eq_emod_of_nonneg ((1 + y) ^ (m - 2).natAbs) (show 0 ≤ m by omega), ← hb] at t2
    have t3 : ((bkN u v m : Int) * (1 + y)).fmod m = (1 : Int).fmod m := by
      rw [Int.fmod_eq_emod_of_nonneg _ (by omega), t2, fm_self (by omega) (by omega)]; rfl
    exact fmod_cg t3
  have b0 : 0 ≤ (bkN u v m : Int) := Int.natCast_nonneg _
  have b1 : (bkN u v m : Int) < m := by rw [hb]; exact Int.fmod_lt_of_pos _ (by omega)
  unfold hvN
  generalize (bkN u v m : Int) = b at *
  have r1 : RootOf m u (lawRows [(0 - v).fmod m] u m) := lawRows_root _ _
  have r2 : RootOf m v (lawRows [(0 - v).fmod m] u m) := lawRows_root2 (by rw [← Int.zero_sub]; exact Cg.fm m _)
  have rl : (lawRows [(0 - v).fmod m] u m).length = 2 := lawRows_length _ _ _
  have rb : Bd (lawRows [(0 - v).fmod m] u m) := (lawRows_in (by omega) _ _).bd (by omega)
  generalize lawRows [(0 - v).fmod m] u m = M at *
  have eu : Cg m (ev u ([(0 - u * b).fmod m, b].map fun k => k.fmod m)) 0 := by
    refine (ev_fm m u _).trans ?_
    show Cg m ((0 - u * b).fmod m + u * (b + u * 0)) 0
    refine ((Cg.fm m _).add (Cg.refl m _)).trans ?_
    rw [Int.mul_zero, Int.add_zero, show 0 - u * b + u * b = 0 by omega]; exact Cg.refl _ _
  have evv : Cg m (ev v ([(0 - u * b).fmod m, b].map fun k => k.fmod m)) 1 := by
    refine (ev_fm m v _).trans ?_
    show Cg m ((0 - u * b).fmod m + v * (b + v * 0)) 1
    refine ((Cg.fm m _).add (Cg.refl m _)).trans ?_
    rw [Int.mul_zero, Int.add_zero, show 0 - u * b + v * b = b * (v - u) by rw [Int.mul_sub, Int.mul_comm u, Int.mul_comm v]; omega]
    exact hinv
  have el : (([(0 - u * b).fmod m, b].map fun k => k.fmod m)).length = M.length := by rw [rl]; rfl
  refine ⟨?_, ?_, ?_, rb⟩
  · have p1 := (ev_elMul k r1 (by omega) el el).trans (eu.mul eu)
    have p2 := (ev_elMul k r2 (by omega) el el).trans (evv.mul evv)
    have pl := elMul_length k m ([(0 - u * b).fmod m, b].map fun k => k.fmod m) ([(0 - u * b).fmod m, b].map fun k => k.fmod m) M (by omega)
    have pin := elMul_in (show 0 < m by omega) k ([(0 - u * b).fmod m, b].map fun k => k.fmod m) ([(0 - u * b).fmod m, b].map fun k => k.fmod m) M
    generalize elMul k m ([(0 - u * b).fmod m, b].map fun k => k.fmod m) ([(0 - u * b).fmod m, b].map fun k => k.fmod m) M = P at *
    rw [rl] at pl
    match P, pl, pin, p1, p2 with
    | [c0, c1], _, pin, p1, p2 =>
      have q1 : Cg m (c0 + u * c1) 0 := by have := p1; simpa [ev] using this
      have q2 : Cg m (c0 + v * c1) 1 := by have := p2; simpa [ev] using this
      have q3 : Cg m (c1 * (v - u)) 1 := by
        have := q2.sub q1
        rwa [show c0 + v * c1 - (c0 + u * c1) = c1 * (v - u) by rw [Int.mul_sub, Int.mul_comm c1, Int.mul_comm c1]; omega, Int.sub_zero] at this
      have q4 : Cg m c1 b := by
        have a1 : Cg m c1 (c1 * (b * (v - u))) := by have := (hinv.mulL c1).symm; rwa [Int.mul_one] at this
        have a2 : Cg m (b * (c1 * (v - u))) b := by have := q3.mulL b; rwa [Int.mul_one] at this
        rw [show c1 * (b * (v - u)) = b * (c1 * (v - u)) by rw [Int.mul_left_comm]] at a1
        exact a1.trans a2
      have i0 := pin c0 (by simp)
      have i1 := pin c1 (by simp)
      have z1 : c1 = b := by have := q4.eq; rwa [fm_self i1.1 i1.2, fm_self b0 b1] at this
      subst z1
      have z0 : c0 = (0 - u * c1).fmod m := by
        have := (q1.sub (Cg.refl m (u * c1))).eq
        rw [show c0 + u * c1 - u * c1 = c0 by omega, fm_self i0.1 i0.2] at this
        exact this
      rw [← z0]
  · rw [law_ev, eu.eq, Int.zero_fmod]
  · rw [law_ev, evv.eq]; exact fm_self (by omega) (by omega)

end

section
local macro_rules | `(tactic| walk_at "call ref") => `(tactic| ((with_reducible rename At _ _ _ _ => $(Lean.mkIdent `hA):ident); refine r_use ?_; refine' s_FQ ?W ?hk $(Lean.mkIdent `hA):ident ?hp ?_; (case W => assumption); (case hk => k_extra "m ok"); (case hp => assumption); clear $(Lean.mkIdent `hA):ident; intro $(Lean.mkIdent `x9):ident $(Lean.mkIdent `s9):ident $(Lean.mkIdent `hA):ident))
local macro_rules | `(tactic| walk_at "call ref") => `(tactic| ((with_reducible rename At _ _ _ _ => $(Lean.mkIdent `hA):ident); refine r_use ?_; refine' s_FQ_made ?W ?hk $(Lean.mkIdent `hA):ident ?hm ?hp ?_; (case W => assumption); (case hk => k_extra "m ok"); (case hm => k_extra "m mem"); (case hp => assumption); clear $(Lean.mkIdent `hA):ident; intro $(Lean.mkIdent `x9):ident $(Lean.mkIdent `s9):ident $(Lean.mkIdent `hA):ident))
local macro_rules | `(tactic| walk_at "binaryOp Add ref ref") => `(tactic| ((with_reducible rename At _ _ _ _ => $(Lean.mkIdent `hA):ident); refine' d_FQ_add ?W ?hk $(Lean.mkIdent `hA):ident ?hm ?hm2 ?hp  ?_; (case W => assumption); (case hk => k_extra "m ok"); (case hm => k_extra "m mem"); (case hm2 => k_extra "m mem"); (case hp => assumption);  clear $(Lean.mkIdent `hA):ident; intro $(Lean.mkIdent `x9):ident $(Lean.mkIdent `s9):ident $(Lean.mkIdent `hA):ident))
local macro_rules | `(tactic| walk_at "inplaceOp Add ref ref") => `(tactic| ((with_reducible rename At _ _ _ _ => $(Lean.mkIdent `hA):ident); refine' i_FQ_add ?W ?hk $(Lean.mkIdent `hA):ident ?hm ?hm2 ?hp ?_; (case W => assumption); (case hk => k_extra "m ok"); (case hm => k_extra "m mem"); (case hm2 => k_extra "m mem"); (case hp => assumption); clear $(Lean.mkIdent `hA):ident; intro $(Lean.mkIdent `x9):ident $(Lean.mkIdent `s9):ident $(Lean.mkIdent `hA):ident))
local macro_rules | `(tactic| walk_at "binaryOp Sub ref ref") => `(tactic| ((with_reducible rename At _ _ _ _ => $(Lean.mkIdent `hA):ident); refine' d_FQ_sub ?W ?hk $(Lean.mkIdent `hA):ident ?hm ?hm2 ?hp  ?_; (case W => assumption); (case hk => k_extra "m ok"); (case hm => k_extra "m mem"); (case hm2 => k_extra "m mem"); (case hp => assumption);  clear $(Lean.mkIdent `hA):ident; intro $(Lean.mkIdent `x9):ident $(Lean.mkIdent `s9):ident $(Lean.mkIdent `hA):ident))
local macro_rules | `(tactic| walk_at "inplaceOp Sub ref ref") => `(tactic| ((with_reducible rename At _ _ _ _ => $(Lean.mkIdent `hA):ident); refine' i_FQ_sub ?W ?hk $(Lean.mkIdent `hA):ident ?hm ?hm2 ?hp ?_; (case W => assumption); (case hk => k_extra "m ok"); (case hm => k_extra "m mem"); (case hm2 => k_extra "m mem"); (case hp => assumption); clear $(Lean.mkIdent `hA):ident; intro $(Lean.mkIdent `x9):ident $(Lean.mkIdent `s9):ident $(Lean.mkIdent `hA):ident))
local macro_rules | `(tactic| walk_at "binaryOp Mult ref ref") => `(tactic| ((with_reducible rename At _ _ _ _ => $(Lean.mkIdent `hA):ident); refine' d_FQ_mul ?W ?hk $(Lean.mkIdent `hA):ident ?hm ?hm2 ?hp ?hj ?_; (case W => assumption); (case hk => k_extra "m ok"); (case hm => k_extra "m mem"); (case hm2 => k_extra "m mem"); (case hp => assumption); (case hj => k_extra "m mulok"); clear $(Lean.mkIdent `hA):ident; intro $(Lean.mkIdent `x9):ident $(Lean.mkIdent `s9):ident $(Lean.mkIdent `hA):ident))
local macro_rules | `(tactic| walk_at "unaryOp USub ref") => `(tactic| ((with_reducible rename At _ _ _ _ => $(Lean.mkIdent `hA):ident); refine' d_FQ_neg ?W ?hk $(Lean.mkIdent `hA):ident ?hm ?hp ?_; (case W => assumption); (case hk => k_extra "m ok"); (case hm => k_extra "m mem"); (case hp => assumption); clear $(Lean.mkIdent `hA):ident; intro $(Lean.mkIdent `x9):ident $(Lean.mkIdent `s9):ident $(Lean.mkIdent `hA):ident))
local macro_rules | `(tactic| walk_at "call ref") => `(tactic| ((with_reducible rename At _ _ _ _ => $(Lean.mkIdent `hA):ident); refine r_use ?_; refine' s_FQs ?W ?hk $(Lean.mkIdent `hA):ident ?hp ?hm ?_; (case W => assumption); (case hk => k_extra "m ok"); (case hp => assumption); (case hm => k_extra "m mem"); clear $(Lean.mkIdent `hA):ident; intro $(Lean.mkIdent `x9):ident $(Lean.mkIdent `s9):ident $(Lean.mkIdent `hA):ident))
local macro_rules | `(tactic| walk_at "call ref") => `(tactic| ((with_reducible rename At _ _ _ _ => $(Lean.mkIdent `hA):ident); refine r_use ?_; refine' s_P_corr0 ?W ?hk $(Lean.mkIdent `hA):ident ?hp ?hx ?hd ?hmp ?hm ?_; (case W => assumption); (case hk => k_extra "m ok"); (case hp => assumption); (case hx => k_extra "m mem"); (case hd => k_extra "m mem"); (case hmp => exact rfl); (case hm => k_extra "m mem"); clear $(Lean.mkIdent `hA):ident; intro $(Lean.mkIdent `x9):ident $(Lean.mkIdent `s9):ident $(Lean.mkIdent `hA):ident))
local macro_rules | `(tactic| walk_at "call ref") => `(tactic| ((with_reducible rename At _ _ _ _ => $(Lean.mkIdent `hA):ident); refine r_use ?_; refine' s_P ?W ?T ?hk $(Lean.mkIdent `hA):ident ?hp ?h1 ?h2 ?h3 ?h4 ?h5 ?h6 ?_; (case W => assumption); (case T => assumption); (case hk => k_extra "m ok"); (case hp => assumption); (case h2 => k_extra "m mem"); (case h1 => k_extra "m seq"); (case h4 => assumption); (case h3 => k_extra "m seq"); (case h5 => k_extra "m lens"); (case h6 => k_extra "m lens"); clear $(Lean.mkIdent `hA):ident; intro $(Lean.mkIdent `x9):ident $(Lean.mkIdent `s9):ident $(Lean.mkIdent `hA):ident))
local macro_rules | `(tactic| walk_at "call ref") => `(tactic| ((with_reducible rename At _ _ _ _ => $(Lean.mkIdent `hA):ident); refine r_use ?_; refine' s_P_made ?W ?T ?hk $(Lean.mkIdent `hA):ident ?hp ?hm ?h1 ?h2 ?h5 ?h6 ?_; (case W => assumption); (case T => assumption); (case hk => k_extra "m ok"); (case hp => assumption); (case hm => k_extra "m mem"); (case h2 => k_extra "m mem"); (case h1 => k_extra "m seq"); (case h5 => k_extra "m lens"); (case h6 => k_extra "m lens"); clear $(Lean.mkIdent `hA):ident; intro $(Lean.mkIdent `x9):ident $(Lean.mkIdent `s9):ident $(Lean.mkIdent `hA):ident))
local macro_rules | `(tactic| walk_at "binaryOp FloorDiv int int") => `(tactic| ((with_reducible rename At _ _ _ _ => $(Lean.mkIdent `hA):ident); refine r_fdiv $(Lean.mkIdent `hA):ident (by omega) (by exact PyProof.noPylong_small (by omega)) ?_; clear $(Lean.mkIdent `hA):ident; intro $(Lean.mkIdent `t9):ident $(Lean.mkIdent `s9):ident $(Lean.mkIdent `hA):ident))
local macro_rules | `(tactic| walk_at "call ref") => `(tactic| ((with_reducible rename At _ _ _ _ => $(Lean.mkIdent `hA):ident); refine r_use ?_; refine' s_O ?W ?T ?hk $(Lean.mkIdent `hA):ident ?hp ?h1 ?h2 ?h3 ?h4 ?h5 ?h6 ?h8 ?_; (case W => assumption); (case T => assumption); (case hk => k_extra "m ok"); (case hp => assumption); (case h1 => k_extra "m mem"); (case h2 => k_extra "m ints"); (case h4 => assumption); (case h3 => k_extra "m seq"); (case h5 => k_extra "m lens"); (case h6 => k_extra "m lens"); (case h8 => k_extra "m lens"); clear $(Lean.mkIdent `hA):ident; intro $(Lean.mkIdent `x9):ident $(Lean.mkIdent `s9):ident $(Lean.mkIdent `hA):ident))
local macro_rules | `(tactic| walk_at "call ref") => `(tactic| ((with_reducible rename At _ _ _ _ => $(Lean.mkIdent `hA):ident); refine r_use ?_; refine' s_O_made ?W ?T ?hk $(Lean.mkIdent `hA):ident ?hp ?hm ?h1 ?h2 ?h5 ?h6 ?h8 ?_; (case W => assumption); (case T => assumption); (case hk => k_extra "m ok"); (case hp => assumption); (case hm => k_extra "m mem"); (case h1 => k_extra "m mem"); (case h2 => k_extra "m ints"); (case h5 => k_extra "m lens"); (case h6 => k_extra "m lens"); (case h8 => k_extra "m lens"); clear $(Lean.mkIdent `hA):ident; intro $(Lean.mkIdent `x9):ident $(Lean.mkIdent `s9):ident $(Lean.mkIdent `hA):ident))
local macro_rules | `(tactic| walk_at "binaryOp BitAnd int int") => `(tactic| ((with_reducible rename At _ _ _ _ => $(Lean.mkIdent `hA):ident); refine r_and $(Lean.mkIdent `hA):ident ?_; clear $(Lean.mkIdent `hA):ident; intro $(Lean.mkIdent `t9):ident $(Lean.mkIdent `s9):ident $(Lean.mkIdent `hA):ident))
local macro_rules | `(tactic| walk_at "inplaceOp RShift int int") => `(tactic| ((with_reducible rename At _ _ _ _ => $(Lean.mkIdent `hA):ident); refine r_irsh $(Lean.mkIdent `hA):ident (by decide) ?_; clear $(Lean.mkIdent `hA):ident; intro $(Lean.mkIdent `t9):ident $(Lean.mkIdent `s9):ident $(Lean.mkIdent `hA):ident))
local macro_rules | `(tactic| walk_at "call ref") => `(tactic| ((with_reducible rename At _ _ _ _ => $(Lean.mkIdent `hA):ident); refine r_use ?_; refine' s_F ?W ?T ?hk $(Lean.mkIdent `hA):ident ?hp ?h1 ?h2 ?h3 ?h4 ?h5 ?h6 ?h8 ?_; (case W => assumption); (case T => assumption); (case hk => k_extra "m ok"); (case hp => assumption); (case h1 => k_extra "m mem"); (case h2 => k_extra "m ints"); (case h4 => assumption); (case h3 => k_extra "m seq"); (case h5 => k_extra "m lens"); (case h6 => k_extra "m lens"); (case h8 => k_extra "m lens"); clear $(Lean.mkIdent `hA):ident; intro $(Lean.mkIdent `x9):ident $(Lean.mkIdent `s9):ident $(Lean.mkIdent `hA):ident))
local macro_rules | `(tactic| walk_at "call ref") => `(tactic| ((with_reducible rename At _ _ _ _ => $(Lean.mkIdent `hA):ident); refine r_use ?_; refine' s_F_made ?W ?T ?hk $(Lean.mkIdent `hA):ident ?hp ?hm ?h1 ?h2 ?h5 ?h6 ?h8 ?_; (case W => assumption); (case T => assumption); (case hk => k_extra "m ok"); (case hp => assumption); (case hm => k_extra "m mem"); (case h1 => k_extra "m mem"); (case h2 => k_extra "m ints"); (case h5 => k_extra "m lens"); (case h6 => k_extra "m lens"); (case h8 => k_extra "m lens"); clear $(Lean.mkIdent `hA):ident; intro $(Lean.mkIdent `x9):ident $(Lean.mkIdent `s9):ident $(Lean.mkIdent `hA):ident))
local macro_rules | `(tactic| walk_at "binaryOp BitAnd int int") => `(tactic| ((with_reducible rename At _ _ _ _ => $(Lean.mkIdent `hA):ident); refine r_and $(Lean.mkIdent `hA):ident ?_; clear $(Lean.mkIdent `hA):ident; intro $(Lean.mkIdent `t9):ident $(Lean.mkIdent `s9):ident $(Lean.mkIdent `hA):ident))
local macro_rules | `(tactic| walk_at "inplaceOp RShift int int") => `(tactic| ((with_reducible rename At _ _ _ _ => $(Lean.mkIdent `hA):ident); refine r_irsh $(Lean.mkIdent `hA):ident (by decide) ?_; clear $(Lean.mkIdent `hA):ident; intro $(Lean.mkIdent `t9):ident $(Lean.mkIdent `s9):ident $(Lean.mkIdent `hA):ident))
local macro_rules | `(tactic| walk_at "call ref") => `(tactic| ((with_reducible rename At _ _ _ _ => $(Lean.mkIdent `hA):ident); refine r_use ?_; refine' s_law_made ?W ?T ?hk $(Lean.mkIdent `hA):ident ?hp ?h1 ?h2 ?h3 ?h4 ?h5 ?h6 ?h8 ?_; (case W => assumption); (case T => assumption); (case hk => k_extra "m ok"); (case hp => assumption); (case h1 => k_extra "m mem"); (case h2 => assumption); (case h3 => k_extra "m mem"); (case h4 => assumption); (case h5 => k_extra "m lens"); (case h6 => k_extra "m lens"); (case h8 => k_extra "m lens"); clear $(Lean.mkIdent `hA):ident; intro $(Lean.mkIdent `x9):ident $(Lean.mkIdent `s9):ident $(Lean.mkIdent `hA):ident))
local macro_rules | `(tactic| walk_at "call ref") => `(tactic| ((with_reducible rename At _ _ _ _ => $(Lean.mkIdent `hA):ident); refine r_use ?_; refine' s_law_at ?W ?hk $(Lean.mkIdent `hA):ident ?hm ?hi ?hz ?kk ?_; (case W => assumption); (case hk => k_extra "m ok"); (case hm => k_extra "m mem"); (case hi => assumption); (case hz => k_extra "m lens"); (case kk => decide); clear $(Lean.mkIdent `hA):ident; intro $(Lean.mkIdent `t9):ident $(Lean.mkIdent `s9):ident $(Lean.mkIdent `hA):ident))
local macro_rules | `(tactic| walk_at "call ref") => `(tactic| ((with_reducible rename At _ _ _ _ => $(Lean.mkIdent `hA):ident); refine r_use ?_; refine' s_law_primes ?W ?hk $(Lean.mkIdent `hA):ident ?_; (case W => assumption); (case hk => k_extra "m ok"); clear $(Lean.mkIdent `hA):ident; intro $(Lean.mkIdent `l9):ident $(Lean.mkIdent `v9):ident $(Lean.mkIdent `s9):ident $(Lean.mkIdent `hi9):ident $(Lean.mkIdent `hA):ident))
local macro_rules | `(tactic| walk_at "call ref") => `(tactic| ((with_reducible rename At _ _ _ _ => $(Lean.mkIdent `hA):ident); refine r_use ?_; refine' s_law_value ?W ?hk $(Lean.mkIdent `hA):ident ?hm ?hi ?hz ?hm0 ?hu ?_; (case W => assumption); (case hk => k_extra "m ok"); (case hm => k_extra "m mem"); (case hi => assumption); (case hz => k_extra "m lens"); (case hm0 => assumption); (case hu => assumption); clear $(Lean.mkIdent `hA):ident; intro $(Lean.mkIdent `t9):ident $(Lean.mkIdent `s9):ident $(Lean.mkIdent `hA):ident))
local macro_rules | `(tactic| walk_at "call ref") => `(tactic| ((with_reducible rename At _ _ _ _ => $(Lean.mkIdent `hA):ident); refine r_use ?_; refine' s_law_rows ?W ?hk $(Lean.mkIdent `hA):ident ?hm ?hi ?hz ?hm0 ?hu ?_; (case W => assumption); (case hk => k_extra "m ok"); (case hm => k_extra "m mem"); (case hi => assumption); (case hz => k_extra "m lens"); (case hm0 => assumption); (case hu => assumption); clear $(Lean.mkIdent `hA):ident; intro $(Lean.mkIdent `l9):ident $(Lean.mkIdent `v9):ident $(Lean.mkIdent `s9):ident $(Lean.mkIdent `hi9):ident $(Lean.mkIdent `hA):ident))
local macro_rules | `(tactic| walk_at "getAttr ref") => `(tactic| ((with_reducible rename At _ _ _ _ => $(Lean.mkIdent `hA):ident); refine' r_eoc ?W $(Lean.mkIdent `hA):ident ?hm ?he ?_; (case W => assumption); (case he => exact rfl); (case hm => k_extra "m mem"); clear $(Lean.mkIdent `hA):ident; intro $(Lean.mkIdent `y9):ident $(Lean.mkIdent `v9):ident $(Lean.mkIdent `s9):ident $(Lean.mkIdent `hi9):ident $(Lean.mkIdent `hA):ident))
local macro_rules | `(tactic| walk_at "call ref") => `(tactic| ((with_reducible rename At _ _ _ _ => $(Lean.mkIdent `hA):ident); refine r_use ?_; refine' s_law_at_root ?W ?hk $(Lean.mkIdent `hA):ident ?hm0 ?hu ?hm ?h6 ?_; (case W => assumption); (case hk => k_extra "m ok"); (case hm0 => assumption); (case hu => assumption); (case hm => k_extra "m mem"); (case h6 => k_extra "m lens"); clear $(Lean.mkIdent `hA):ident; intro $(Lean.mkIdent `t9):ident $(Lean.mkIdent `s9):ident $(Lean.mkIdent `hA):ident))

local macro_rules | `(tactic| k_extra "m lens") => `(tactic| first | omega | (have hi9L := IntsAre.length $(Lean.mkIdent `hi9):ident; omega) | (have hi9L := IntsAre.length $(Lean.mkIdent `hi9):ident; simp only [List.length_cons, List.length_nil]; omega) | (simp only [List.length_append, List.length_cons, List.length_nil, List.length_replicate, List.length_map] <;> omega))
local macro_rules | `(tactic| walk_at "newList") => `(tactic| ((with_reducible rename At _ _ _ _ => $(Lean.mkIdent `hA):ident); refine r_nlF $(Lean.mkIdent `hA):ident (by k_extra "m size") ?_; clear $(Lean.mkIdent `hA):ident; intro $(Lean.mkIdent `l9):ident $(Lean.mkIdent `s9):ident $(Lean.mkIdent `hA):ident))
local macro_rules | `(tactic| walk_at "call builtin:pow") => `(tactic| ((with_reducible rename At _ _ _ _ => $(Lean.mkIdent `hA):ident); refine r_pow3 $(Lean.mkIdent `hA):ident (by omega) (by omega) ?_; clear $(Lean.mkIdent `hA):ident; intro $(Lean.mkIdent `t9):ident $(Lean.mkIdent `s9):ident $(Lean.mkIdent `hA):ident))
local macro_rules | `(tactic| walk_at "call ref") => `(tactic| ((with_reducible rename At _ _ _ _ => $(Lean.mkIdent `hA):ident); refine r_use ?_; refine' s_law_made ?W ?T ?hk $(Lean.mkIdent `hA):ident ?hp ?h1 ?h2 ?h3 ?h4 ?h5 ?h6 ?h8 ?_; (case W => assumption); (case T => assumption); (case hk => k_extra "m ok"); (case hp => assumption); (case h1 => k_extra "m mem"); (case h2 => k_extra "m ints"); (case h3 => k_extra "m mem"); (case h4 => k_extra "m ints"); (case h5 => k_extra "m lens"); (case h6 => k_extra "m lens"); (case h8 => k_extra "m lens"); clear $(Lean.mkIdent `hA):ident; intro $(Lean.mkIdent `x9):ident $(Lean.mkIdent `s9):ident $(Lean.mkIdent `hA):ident))
local macro_rules | `(tactic| walk_at "call ref") => `(tactic| ((with_reducible rename At _ _ _ _ => $(Lean.mkIdent `hA):ident); refine r_use ?_; refine' s_law_rows ?W ?hk $(Lean.mkIdent `hA):ident ?hm ?hi ?hz ?hm0 ?hu ?_; (case W => assumption); (case hk => k_extra "m ok"); (case hm => k_extra "m mem"); (case hi => k_extra "m ints"); (case hz => k_extra "m lens"); (case hm0 => assumption); (case hu => assumption); clear $(Lean.mkIdent `hA):ident; intro $(Lean.mkIdent `l9):ident $(Lean.mkIdent `v9):ident $(Lean.mkIdent `s9):ident $(Lean.mkIdent `hi9):ident $(Lean.mkIdent `hA):ident))
local macro_rules | `(tactic| walk_at "binaryOp Mult ref ref") => `(tactic| ((with_reducible rename At _ _ _ _ => $(Lean.mkIdent `hA):ident); refine' d_E_mul ?W ?T ?hk $(Lean.mkIdent `hA):ident ?hp0 ?hp1 ?hm ?hm2 ?h5 ?h7 ?h6 ?h8 ?hb ?hbm ?_; (case W => assumption); (case T => assumption); (case hk => k_extra "m ok"); (case hp0 => assumption); (case hp1 => assumption); (case hm => k_extra "m mem"); (case hm2 => k_extra "m mem"); (case h5 => k_extra "m lens"); (case h7 => k_extra "m lens"); (case h6 => k_extra "m lens"); (case h8 => k_extra "m lens"); (case hb => assumption); (case hbm => assumption); clear $(Lean.mkIdent `hA):ident; intro $(Lean.mkIdent `x9):ident $(Lean.mkIdent `s9):ident $(Lean.mkIdent `hA):ident))
local macro_rules | `(tactic| walk_at "compareOp Eq ref ref") => `(tactic| ((with_reducible rename At _ _ _ _ => $(Lean.mkIdent `hA):ident); refine' r_eqL ?hu $(Lean.mkIdent `hA):ident ?h1 ?h2 ?i1 ?i2 ?hl ?_; (case h1 => k_extra "m pl"); (case h2 => k_extra "m pl"); (case i1 => k_extra "m ints"); (case i2 => k_extra "m ints"); (case hl => k_extra "m lens"); (case hu => exact Ok.u9 (by assumption))))
local macro_rules | `(tactic| walk_at "eval Attribute BinOp") => `(tactic| refine Attribute_any_ ?_)
local macro_rules | `(tactic| walk_at "compareOp Eq ref ref") => `(tactic| ((with_reducible rename At _ _ _ _ => $(Lean.mkIdent `hA):ident); refine' r_eqLt ?hu $(Lean.mkIdent `hA):ident ?h1 ?h2 ?i1 ?i2 ?hl ?_; (case h1 => k_extra "m pl"); (case h2 => k_extra "m pl"); (case i1 => k_extra "m ints"); (case i2 => k_extra "m ints"); (case hl => first | with_reducible rfl | assumption); (case hu => exact Ok.u9 (by assumption))))
variable {prog : Program} {w : World} {A : Around} {E : Value → Shared → Prop} {D : Dat} {Fs : List Fact} {R : List Res} {s : Shared} {Q : Value → Shared → Prop}
theorem v_stcF {env : Env} {x : Str} {v : Value} {c : Addr} {Q : Unit → Shared → Prop} {R' : List Res} (H : At D Fs R s) (hc : env.cells.lookup x = some c) (hp : Rm (CellR c none) R R') (h : ∀ s', At D (CellF c v :: Fs) R' s' → Q () s')
    (hk : env.scope.kind = .function) (hl : env.kindOf x = some .cell) : wpAny (model prog w) A (storeName env x v) Q E s :=
  v_stc (H.front hp) hc .head (fun s' H' => h s' (At.fzC H' .head)) hk hl
theorem s_law_atI {l : Addr} {vs : List Value} {ns : List Int} {k : Int} {t : Tok} (W : Wd (hd.heap_39 w.params) D) (hK : Ok A 10) (H : At D Fs R s) (hm : ListF l vs ∈ Fs) (hi : IntsAre vs ns) (hz : vs.length < 2 ^ 60) (h0 : 0 ≤ k) (hk : k < 2 ^ 40)
    (h : ∀ t s', At D Fs R s' → Q (.int (lawAt ns k.toNat) t) s') : codeAny (model prog w) A (.call (.ref 467) ⟨[.ref l, .int k t], []⟩) (Ret Q) s := by
  obtain ⟨j, rfl⟩ := Int.eq_ofNat_of_zero_le h0
  exact s_law_at W hK H hm hi hz (by omega) h
theorem r_aio3 {f1 f2 f3 : Value → Sem Unit} {v1 v2 v3 : Value} {Q : Unit → Shared → Prop} (h : wpAny (model prog w) A (f1 v1) (fun _ s1 => wpAny (model prog w) A (f2 v2) (fun _ s2 => wpAny (model prog w) A (f3 v3) Q E s2) E s1) E s) : wpAny (model prog w) A (assignInOrder [f1, f2, f3] [v1, v2, v3]) Q E s := by
  show wpAny _ A (do holding [v2, v3] (f1 v1); do holding [v3] (f2 v2); do holding [] (f3 v3); pure ()) _ _ _
  refine wpAny_bind (wpAny_holding (wpAny_mono h (fun _ s1 q => ?_) fun _ _ e => e))
  refine wpAny_bind (wpAny_holding (wpAny_mono q (fun _ s2 q => ?_) fun _ _ e => e))
  exact wpAny_bind (wpAny_holding (wpAny_mono q (fun _ s2 q => wpAny_pure q) fun _ _ e => e))
local macro_rules | `(tactic| walk_at "call ref") => `(tactic| rw [List.append_nil])
local macro_rules | `(tactic| walk_at "call ref") => `(tactic| ((with_reducible rename At _ _ _ _ => $(Lean.mkIdent `hA):ident); refine r_use ?_; refine' s_law_atI ?W ?hk $(Lean.mkIdent `hA):ident ?hm ?hi ?hz ?k0 ?kk ?_; (case W => assumption); (case hk => k_extra "m ok"); (case hm => k_extra "m mem"); (case hi => assumption); (case hz => k_extra "m lens"); (case k0 => omega); (case kk => omega); clear $(Lean.mkIdent `hA):ident; intro $(Lean.mkIdent `t9):ident $(Lean.mkIdent `s9):ident $(Lean.mkIdent `hA):ident))
local macro_rules | `(tactic| walk_at "storeName") => `(tactic| ((with_reducible rename At _ _ _ _ => $(Lean.mkIdent `hA):ident); with_unfolding_all refine' v_stcF $(Lean.mkIdent `hA):ident ?c ?rm ?_ rfl rfl; (case c => exact rfl); (case rm => k_extra "m rm"); clear $(Lean.mkIdent `hA):ident; intro $(Lean.mkIdent `s9):ident $(Lean.mkIdent `hA):ident))
local macro_rules | `(tactic| walk_at "call builtin:abs") => `(tactic| ((with_reducible rename At _ _ _ _ => $(Lean.mkIdent `hA):ident); refine r_abs $(Lean.mkIdent `hA):ident ?_; clear $(Lean.mkIdent `hA):ident; intro $(Lean.mkIdent `t9):ident $(Lean.mkIdent `s9):ident $(Lean.mkIdent `hA):ident))
def MOk (kind m : Int) : Prop := (kind < 8 ∧ m = lawPrimes.getD kind.toNat 0) ∨ (¬ kind < 8 ∧ 2 ≤ m ∧ m < 2000000)
theorem MOk.rng {kind m : Int} (h : MOk kind m) (k0 : 0 ≤ kind) : 2 ≤ m ∧ m < 2000000 := by
  rcases h with ⟨a, rfl⟩ | ⟨_, b, c⟩
  · exact primes_le _ (by omega)
  · exact ⟨b, c⟩
local macro_rules | `(tactic| walk_at "binaryOp Add ref ref") => `(tactic| ((with_reducible rename At _ _ _ _ => $(Lean.mkIdent `hA):ident); refine' d_E_add ?W ?T ?hk $(Lean.mkIdent `hA):ident ?hp ?hm ?hm2 ?h5 ?h7 ?h6 ?h8 ?_; (case W => assumption); (case T => assumption); (case hk => k_extra "m ok"); (case hp => assumption); (case hm => k_extra "m mem"); (case hm2 => k_extra "m mem"); (case h5 => k_extra "m lens"); (case h7 => k_extra "m lens"); (case h6 => k_extra "m lens"); (case h8 => k_extra "m lens"); clear $(Lean.mkIdent `hA):ident; intro $(Lean.mkIdent `x9):ident $(Lean.mkIdent `s9):ident $(Lean.mkIdent `hA):ident))
local macro_rules | `(tactic| walk_at "binaryOp Sub ref ref") => `(tactic| ((with_reducible rename At _ _ _ _ => $(Lean.mkIdent `hA):ident); refine' d_E_sub ?W ?T ?hk $(Lean.mkIdent `hA):ident ?hp ?hm ?hm2 ?h5 ?h7 ?h6 ?h8 ?_; (case W => assumption); (case T => assumption); (case hk => k_extra "m ok"); (case hp => assumption); (case hm => k_extra "m mem"); (case hm2 => k_extra "m mem"); (case h5 => k_extra "m lens"); (case h7 => k_extra "m lens"); (case h6 => k_extra "m lens"); (case h8 => k_extra "m lens"); clear $(Lean.mkIdent `hA):ident; intro $(Lean.mkIdent `x9):ident $(Lean.mkIdent `s9):ident $(Lean.mkIdent `hA):ident))
local macro_rules | `(tactic| walk_at "unaryOp USub ref") => `(tactic| ((with_reducible rename At _ _ _ _ => $(Lean.mkIdent `hA):ident); refine' d_E_neg ?W ?T ?hk $(Lean.mkIdent `hA):ident ?hp ?hm ?h5 ?h6 ?h8 ?_; (case W => assumption); (case T => assumption); (case hk => k_extra "m ok"); (case hp => assumption); (case hm => k_extra "m mem"); (case h5 => k_extra "m lens"); (case h6 => k_extra "m lens"); (case h8 => k_extra "m lens"); clear $(Lean.mkIdent `hA):ident; intro $(Lean.mkIdent `x9):ident $(Lean.mkIdent `s9):ident $(Lean.mkIdent `hA):ident))
theorem e_P_one {x : Addr} {ns ms : List Int} {p : Int} (W : Wd (hd.heap_39 w.params) D) (T : ∀ t ∈ WT, t ∈ D.tabs) (hk : Ok A 24) (H : At D Fs R s) (hp : p ≠ 0) (hm : PlnF 335 449 x p ns ms ∈ Fs) (h8 : 0 < ms.length) (h6 : ms.length < 1000)
    (h : ∀ x s', At D (EltF .pln x p (plnOne p ms.length) ms :: Fs) R s' → Q (.ref x) s') : codeAny (model prog w) A (.call (.ref 439) ⟨[.ref x], []⟩) (Ret Q) s := s_P_one W T hk H hp hm h8 h6 h
local macro_rules | `(tactic| walk_at "call ref") => `(tactic| ((with_reducible rename At _ _ _ _ => $(Lean.mkIdent `hA):ident); refine r_use ?_; refine' e_P_one ?W ?T ?hk $(Lean.mkIdent `hA):ident ?hp ?hm ?h8 ?h6 ?_; (case W => assumption); (case T => assumption); (case hk => k_extra "m ok"); (case hm => k_extra "m mem"); (case hp => assumption); (case h8 => assumption); (case h6 => assumption); clear $(Lean.mkIdent `hA):ident; intro $(Lean.mkIdent `x9):ident $(Lean.mkIdent `s9):ident $(Lean.mkIdent `hA):ident))
theorem e_O_one {x : Addr} {ns ms : List Int} {p : Int} (W : Wd (hd.heap_39 w.params) D) (T : ∀ t ∈ WT, t ∈ D.tabs) (hk : Ok A 24) (H : At D Fs R s) (hp : p ≠ 0) (hm : OptF 161 x p ns ms ∈ Fs) (h8 : 0 < ms.length) (h6 : ms.length < 1000)
    (h : ∀ x s', At D (EltF .opt x p (plnOne p ms.length) ms :: Fs) R s' → Q (.ref x) s') : codeAny (model prog w) A (.call (.ref 151) ⟨[.ref x], []⟩) (Ret Q) s := s_G_one (ocO _) madeO W T hk H hp hm h8 h6 h
local macro_rules | `(tactic| walk_at "call ref") => `(tactic| ((with_reducible rename At _ _ _ _ => $(Lean.mkIdent `hA):ident); refine r_use ?_; refine' e_O_one ?W ?T ?hk $(Lean.mkIdent `hA):ident ?hp ?hm ?h8 ?h6 ?_; (case W => assumption); (case T => assumption); (case hk => k_extra "m ok"); (case hm => k_extra "m mem"); (case hp => assumption); (case h8 => assumption); (case h6 => assumption); clear $(Lean.mkIdent `hA):ident; intro $(Lean.mkIdent `x9):ident $(Lean.mkIdent `s9):ident $(Lean.mkIdent `hA):ident))
theorem e_F_one {x : Addr} {ns ms : List Int} {p : Int} (W : Wd (hd.heap_39 w.params) D) (T : ∀ t ∈ WT, t ∈ D.tabs) (hk : Ok A 24) (H : At D Fs R s) (hp : p ≠ 0) (hm : OptF 190 x p ns ms ∈ Fs) (h8 : 0 < ms.length) (h6 : ms.length < 1000)
    (h : ∀ x s', At D (EltF .f2 x p (plnOne p ms.length) ms :: Fs) R s' → Q (.ref x) s') : codeAny (model prog w) A (.call (.ref 151) ⟨[.ref x], []⟩) (Ret Q) s := s_G_one (ocF _) madeF W T hk H hp hm h8 h6 h
local macro_rules | `(tactic| walk_at "call ref") => `(tactic| ((with_reducible rename At _ _ _ _ => $(Lean.mkIdent `hA):ident); refine r_use ?_; refine' e_F_one ?W ?T ?hk $(Lean.mkIdent `hA):ident ?hp ?hm ?h8 ?h6 ?_; (case W => assumption); (case T => assumption); (case hk => k_extra "m ok"); (case hm => k_extra "m mem"); (case hp => assumption); (case h8 => assumption); (case h6 => assumption); clear $(Lean.mkIdent `hA):ident; intro $(Lean.mkIdent `x9):ident $(Lean.mkIdent `s9):ident $(Lean.mkIdent `hA):ident))
theorem e_P_zero {x : Addr} {ns ms : List Int} {p : Int} (W : Wd (hd.heap_39 w.params) D) (T : ∀ t ∈ WT, t ∈ D.tabs) (hk : Ok A 24) (H : At D Fs R s) (hp : p ≠ 0) (hm : PlnF 335 449 x p ns ms ∈ Fs) (h8 : 0 < ms.length) (h6 : ms.length < 1000)
    (h : ∀ x s', At D (EltF .pln x p (plnZero p ms.length) ms :: Fs) R s' → Q (.ref x) s') : codeAny (model prog w) A (.call (.ref 446) ⟨[.ref x], []⟩) (Ret Q) s := s_P_zero W T hk H hp hm h8 h6 h
local macro_rules | `(tactic| walk_at "call ref") => `(tactic| ((with_reducible rename At _ _ _ _ => $(Lean.mkIdent `hA):ident); refine r_use ?_; refine' e_P_zero ?W ?T ?hk $(Lean.mkIdent `hA):ident ?hp ?hm ?h8 ?h6 ?_; (case W => assumption); (case T => assumption); (case hk => k_extra "m ok"); (case hm => k_extra "m mem"); (case hp => assumption); (case h8 => assumption); (case h6 => assumption); clear $(Lean.mkIdent `hA):ident; intro $(Lean.mkIdent `x9):ident $(Lean.mkIdent `s9):ident $(Lean.mkIdent `hA):ident))
theorem e_O_zero {x : Addr} {ns ms : List Int} {p : Int} (W : Wd (hd.heap_39 w.params) D) (T : ∀ t ∈ WT, t ∈ D.tabs) (hk : Ok A 24) (H : At D Fs R s) (hp : p ≠ 0) (hm : OptF 161 x p ns ms ∈ Fs) (h8 : 0 < ms.length) (h6 : ms.length < 1000)
    (h : ∀ x s', At D (EltF .opt x p (plnZero p ms.length) ms :: Fs) R s' → Q (.ref x) s') : codeAny (model prog w) A (.call (.ref 158) ⟨[.ref x], []⟩) (Ret Q) s := s_G_zero (ocO _) madeO W T hk H hp hm h8 h6 h
local macro_rules | `(tactic| walk_at "call ref") => `(tactic| ((with_reducible rename At _ _ _ _ => $(Lean.mkIdent `hA):ident); refine r_use ?_; refine' e_O_zero ?W ?T ?hk $(Lean.mkIdent `hA):ident ?hp ?hm ?h8 ?h6 ?_; (case W => assumption); (case T => assumption); (case hk => k_extra "m ok"); (case hm => k_extra "m mem"); (case hp => assumption); (case h8 => assumption); (case h6 => assumption); clear $(Lean.mkIdent `hA):ident; intro $(Lean.mkIdent `x9):ident $(Lean.mkIdent `s9):ident $(Lean.mkIdent `hA):ident))
theorem e_F_zero {x : Addr} {ns ms : List Int} {p : Int} (W : Wd (hd.heap_39 w.params) D) (T : ∀ t ∈ WT, t ∈ D.tabs) (hk : Ok A 24) (H : At D Fs R s) (hp : p ≠ 0) (hm : OptF 190 x p ns ms ∈ Fs) (h8 : 0 < ms.length) (h6 : ms.length < 1000)
    (h : ∀ x s', At D (EltF .f2 x p (plnZero p ms.length) ms :: Fs) R s' → Q (.ref x) s') : codeAny (model prog w) A (.call (.ref 158) ⟨[.ref x], []⟩) (Ret Q) s := s_G_zero (ocF _) madeF W T hk H hp hm h8 h6 h
local macro_rules | `(tactic| walk_at "call ref") => `(tactic| ((with_reducible rename At _ _ _ _ => $(Lean.mkIdent `hA):ident); refine r_use ?_; refine' e_F_zero ?W ?T ?hk $(Lean.mkIdent `hA):ident ?hp ?hm ?h8 ?h6 ?_; (case W => assumption); (case T => assumption); (case hk => k_extra "m ok"); (case hm => k_extra "m mem"); (case hp => assumption); (case h8 => assumption); (case h6 => assumption); clear $(Lean.mkIdent `hA):ident; intro $(Lean.mkIdent `x9):ident $(Lean.mkIdent `s9):ident $(Lean.mkIdent `hA):ident))
theorem use_body {K : Frag} {f : Addr} {P : List Stmt → Scope → Str → Value → Prop} {n1 q1 : Str} {p1 : Arguments} {b1 : List Stmt} {s1 : Scope} {dV1 kV1 d1 pm1 cd1 ct1 oc1 : Value} {an1 od1 : Option Addr} {ol1 : Array (Option Value)}
    {n2 q2 : Str} {p2 : Arguments} {b2 : List Stmt} {s2 : Scope} {dV2 kV2 d2 pm2 cd2 ct2 oc2 : Value} {an2 od2 : Option Addr} {ol2 : Array (Option Value)}
    (h1 : K.lookup f = some ⟨oc1, od1, .func (fnOf n1 q1 p1 b1 s1 dV1 kV1 d1 pm1 an1 cd1 ct1), ol1⟩) (h2 : K.lookup f = some ⟨oc2, od2, .func (fnOf n2 q2 p2 b2 s2 dV2 kV2 d2 pm2 an2 cd2 ct2), ol2⟩) (h : P b1 s1 q1 cd1) : P b2 s2 q2 cd2 := by
  rw [h1] at h2
  simp only [Option.some.injEq, Obj.mk.injEq, Data.func.injEq, FuncData.mk.injEq, FuncBody.stmts.injEq] at h2
  obtain ⟨_, _, ⟨_, rfl, _, rfl, rfl, _, _, _, _, _, _, _, rfl, _, _⟩, _⟩ := h2
  exact h
set_option maxHeartbeats 8000000 in
set_option maxRecDepth 100000 in
theorem law_tail {name qual : Str} {params : Arguments} {body rest : List Stmt} {scope : Scope} {dV kV doc pm cdv ct oc : Value} {an od : Option Addr} {osl : Array (Option Value)} {L9 l x y : Addr} {kd : Kd} {ns NU OT M : List Int} {vs : List Value} {u m way : Int} {tm t4 t5 t6 t7 : Tok}
    (ho : (hd.heap_39 w.params).lookup 503 = some ⟨oc, od, .func (fnOf name qual params body scope dV kV doc pm an cdv ct), osl⟩) (hr : body.drop 10 = rest)
    (W : Wd (hd.heap_39 w.params) D) (T : ∀ t ∈ WT, t ∈ D.tabs) (hK9 : Ok (A.deeper (envOfC qual scope L9 503 cdv)) 100) (hm : ListF l vs ∈ Fs) (hi : IntsAre vs ns) (hz : vs.length < 2 ^ 20) (hNU : NUok ns m u M NU OT) (hbM : Bd M) (m3 : m < 2000000) (hMl : M.length < 10) (w0 : 0 ≤ way) (w1 : way < 4)
    (H : At D (EltF kd x m (NU.map fun k => k.fmod m) M :: EltF kd y m (OT.map fun k => k.fmod m) M :: CellF (L9 + 1 + 1) (.int m tm) :: CellF (L9 + 1) (.ref l) :: Fs) (Vars L9 [("u", .int u t4), ("way", .int way t5), ("one", .ref x), ("other", .ref y), ("here", .int (lawValue NU u m) t6), ("there", .int (lawValue OT u m) t7)] :: R) s)
    (h : ∀ s', At D Fs R s' → Q (.bool true) s') :
    wpAny (model prog w) (A.deeper (envOfC qual scope L9 503 cdv)) (execs rest (envOfC qual scope L9 503 cdv)) (fun fl s' => Q (match fl with | .ret v => v | _ => .none) s') (fun _ _ => False) s := by
  subst hr
  refine' use_body (P := fun b sc q c => Ok (A.deeper (envOfC q sc L9 503 c)) 100 → wpAny (model prog w) (A.deeper (envOfC q sc L9 503 c)) (execs (b.drop 10) (envOfC q sc L9 503 c)) (fun fl s' => Q (match fl with | .ret v => v | _ => .none) s') (fun _ _ => False) s) ?h1 ho ?_ hK9
  case h1 => k_is
  clear hK9 ho
  intro hK9
  dsimp only [List.drop]
  w_top off
  have hA := H
  clear H
  have u0 := hNU.u0
  have u1 := hNU.u1
  have m2 := hNU.m2
  have d2 := hNU.d2
  have hm0 : m ≠ 0 := by omega
  have hmr : ∀ a, IntMulOk a u := fun a => mulOk_right ⟨by omega, by omega⟩
  have hbN : Bd (NU.map fun k => k.fmod m) := InR.bd (p := m) (fun x hx => by obtain ⟨a, _, rfl⟩ := List.mem_map.mp hx; exact fmod_in (by omega)) (by omega)
  have hbO : Bd (OT.map fun k => k.fmod m) := InR.bd (p := m) (fun x hx => by obtain ⟨a, _, rfl⟩ := List.mem_map.mp hx; exact fmod_in (by omega)) (by omega)
  have hlN : (NU.map fun k => k.fmod m).length = M.length := by rw [List.length_map]; exact hNU.l1
  have hlO : (OT.map fun k => k.fmod m).length = M.length := by rw [List.length_map]; exact hNU.l2
  obtain ⟨r1, r2, r3, r4, r5⟩ := ring_law kd hNU
  have hm60 : m < 2 ^ 60 := by omega
  have hmp0 : 0 < m := by omega
  have hM6 : M.length < 1000 := by omega
  have hM8 : 0 < M.length := by omega
  generalize hNe : (NU.map fun k => k.fmod m) = N at *
  generalize hOe : (OT.map fun k => k.fmod m) = O at *
  have hz1 : (plnZip (· + ·) m N O).length = M.length := by rw [plnZip_length]; omega
  have hz2 : (plnZip (· - ·) m N O).length = M.length := by rw [plnZip_length]; omega
  have hz3 : (plnNeg m N).length = M.length := by simp [plnNeg]; omega
  iterate 2 walk1
  refine wpAny_mono (Q := fun b s' => Hold ((b = true ↔ way = 0) ∧ ∃ t4 t5 t6 t7, At D (EltF kd x m N M :: EltF kd y m O M :: CellF (L9 + 1 + 1) (.int m tm) :: CellF (L9 + 1) (.ref l) :: Fs) (Vars L9 [("u", .int u t4), ("way", .int way t5), ("one", .ref x), ("other", .ref y), ("here", .int (lawValue NU u m) t6), ("there", .int (lawValue OT u m) t7)] :: R) s')) ?i0 ?i1 (fun _ _ e => e)
  case i0 =>
    k_extra "wk"
    all_goals exact ⟨by simp; try omega, _, _, _, _, hA.to' (by k_extra "m sub") (by k_extra "m facts")⟩
  case i1 =>
    clear hA
    rintro b s ⟨hb, t4, t5, t6, t7, hA⟩
    cases b with
    | true =>
      obtain rfl := hb.mp rfl
      k_extra "wk"
      exact h _ (hA.to' (by k_extra "m sub") (by k_extra "m facts"))
    | false =>
      have hw0 : ¬ way = 0 := fun q => absurd (hb.mpr q) (by decide)
      iterate 4 walk1
      refine wpAny_mono (Q := fun b s' => Hold ((b = true ↔ (way = 1 ∨ way = 3)) ∧ ∃ t4 t5 t6 t7, At D (EltF kd x m N M :: EltF kd y m O M :: CellF (L9 + 1 + 1) (.int m tm) :: CellF (L9 + 1) (.ref l) :: Fs) (Vars L9 [("u", .int u t4), ("way", .int way t5), ("one", .ref x), ("other", .ref y), ("here", .int (lawValue NU u m) t6), ("there", .int (lawValue OT u m) t7)] :: R) s')) ?j0 ?j1 (fun _ _ e => e)
      case j0 =>
        k_extra "wk"
        all_goals exact ⟨by simp; try omega, _, _, _, _, hA.to' (by k_extra "m sub") (by k_extra "m facts")⟩
      case j1 =>
        clear hA
        rintro b s ⟨hb2, t4, t5, t6, t7, hA⟩
        cases b with
        | true =>
          have hO : (elMul kd m N O M).length = M.length := elMul_length _ _ _ _ _ hM8
          have ho1 : (plnOne m M.length).length = M.length := by simp [plnOne]; omega
          have ho2 : (plnZero m M.length).length = M.length := by simp [plnZero]
          have hmm : IntMulOk (lawValue NU u m) (lawValue OT u m) := by
            have := lawValue_rng m2 OT u
            exact mulOk_right ⟨by omega, by omega⟩
          k_extra "wk"
          · cases kd with
            | pln =>
              have H2 := hA.learn (F := EltF .pln x m N M) (G := PlnF 335 449 x m N M) (by k_extra "m mem") fun _ q => q
              clear hA
              have hA := H2
              clear H2
              k_extra "wk"
              · rw [r4]
                exact h _ (hA.to' (by k_extra "m sub") (by k_extra "m facts"))
              · exact absurd r3 (by assumption)
            | opt =>
              have H2 := hA.learn (F := EltF .opt x m N M) (G := OptF 161 x m N M) (by k_extra "m mem") fun _ q => q
              clear hA
              have hA := H2
              clear H2
              k_extra "wk"
              · rw [r4]
                exact h _ (hA.to' (by k_extra "m sub") (by k_extra "m facts"))
              · exact absurd r3 (by assumption)
            | f2 =>
              have H2 := hA.learn (F := EltF .f2 x m N M) (G := OptF 190 x m N M) (by k_extra "m mem") fun _ q => q
              clear hA
              have hA := H2
              clear H2
              k_extra "wk"
              · rw [r4]
                exact h _ (hA.to' (by k_extra "m sub") (by k_extra "m facts"))
              · exact absurd r3 (by assumption)
          · exact absurd r2 (by assumption)
        | false =>
          have hw1 : ¬ (way = 1 ∨ way = 3) := fun q => absurd (hb2.mpr q) (by decide)
          have n0 : 0 ≤ (lawAt ns (6 : Int).toNat).fmod 13 := Int.fmod_nonneg_of_pos _ (by decide)
          have n1 : (lawAt ns (6 : Int).toNat).fmod 13 < 13 := Int.fmod_lt_of_pos _ (by decide)
          obtain ⟨n, hn⟩ : ∃ n : Nat, (lawAt ns (6 : Int).toNat).fmod 13 = n := ⟨_, (Int.toNat_of_nonneg n0).symm⟩
          have hPw := elPow_length kd m M n N hM8 hlN
          k_extra "wk"
          rw [hn] at hA
          rw [hn]
          refine d_E_pow W T (hK9.mono (by omega)) (by omega) hA hmp0 hm60 (by k_extra "m mem") hlN hM6 hM8 hbN hbM ?_
          clear hA
          intro x9 s9 hA
          show wpAny _ _ _ _ _ _
          k_extra "wk"
          have e := r5 n (by omega)
          rw [Int.natAbs_natCast, e, beq_self_eq_true]
          exact h _ (hA.to' (by k_extra "m sub") (by k_extra "m facts"))

end

section
local macro_rules | `(tactic| walk_at "call ref") => `(tactic| ((with_reducible rename At _ _ _ _ => $(Lean.mkIdent `hA):ident); refine r_use ?_; refine' s_FQ ?W ?hk $(Lean.mkIdent `hA):ident ?hp ?_; (case W => assumption); (case hk => k_extra "m ok"); (case hp => assumption); clear $(Lean.mkIdent `hA):ident; intro $(Lean.mkIdent `x9):ident $(Lean.mkIdent `s9):ident $(Lean.mkIdent `hA):ident))
local macro_rules | `(tactic| walk_at "call ref") => `(tactic| ((with_reducible rename At _ _ _ _ => $(Lean.mkIdent `hA):ident); refine r_use ?_; refine' s_FQ_made ?W ?hk $(Lean.mkIdent `hA):ident ?hm ?hp ?_; (case W => assumption); (case hk => k_extra "m ok"); (case hm => k_extra "m mem"); (case hp => assumption); clear $(Lean.mkIdent `hA):ident; intro $(Lean.mkIdent `x9):ident $(Lean.mkIdent `s9):ident $(Lean.mkIdent `hA):ident))
local macro_rules | `(tactic| walk_at "binaryOp Add ref ref") => `(tactic| ((with_reducible rename At _ _ _ _ => $(Lean.mkIdent `hA):ident); refine' d_FQ_add ?W ?hk $(Lean.mkIdent `hA):ident ?hm ?hm2 ?hp  ?_; (case W => assumption); (case hk => k_extra "m ok"); (case hm => k_extra "m mem"); (case hm2 => k_extra "m mem"); (case hp => assumption);  clear $(Lean.mkIdent `hA):ident; intro $(Lean.mkIdent `x9):ident $(Lean.mkIdent `s9):ident $(Lean.mkIdent `hA):ident))
local macro_rules | `(tactic| walk_at "inplaceOp Add ref ref") => `(tactic| ((with_reducible rename At _ _ _ _ => $(Lean.mkIdent `hA):ident); refine' i_FQ_add ?W ?hk $(Lean.mkIdent `hA):ident ?hm ?hm2 ?hp ?_; (case W => assumption); (case hk => k_extra "m ok"); (case hm => k_extra "m mem"); (case hm2 => k_extra "m mem"); (case hp => assumption); clear $(Lean.mkIdent `hA):ident; intro $(Lean.mkIdent `x9):ident $(Lean.mkIdent `s9):ident $(Lean.mkIdent `hA):ident))
local macro_rules | `(tactic| walk_at "binaryOp Sub ref ref") => `(tactic| ((with_reducible rename At _ _ _ _ => $(Lean.mkIdent `hA):ident); refine' d_FQ_sub ?W ?hk $(Lean.mkIdent `hA):ident ?hm ?hm2 ?hp  ?_; (case W => assumption); (case hk => k_extra "m ok"); (case hm => k_extra "m mem"); (case hm2 => k_extra "m mem"); (case hp => assumption);  clear $(Lean.mkIdent `hA):ident; intro $(Lean.mkIdent `x9):ident $(Lean.mkIdent `s9):ident $(Lean.mkIdent `hA):ident))
local macro_rules | `(tactic| walk_at "inplaceOp Sub ref ref") => `(tactic| ((with_reducible rename At _ _ _ _ => $(Lean.mkIdent `hA):ident); refine' i_FQ_sub ?W ?hk $(Lean.mkIdent `hA):ident ?hm ?hm2 ?hp ?_; (case W => assumption); (case hk => k_extra "m ok"); (case hm => k_extra "m mem"); (case hm2 => k_extra "m mem"); (case hp => assumption); clear $(Lean.mkIdent `hA):ident; intro $(Lean.mkIdent `x9):ident $(Lean.mkIdent `s9):ident $(Lean.mkIdent `hA):ident))
local macro_rules | `(tactic| walk_at "binaryOp Mult ref ref") => `(tactic| ((with_reducible rename At _ _ _ _ => $(Lean.mkIdent `hA):ident); refine' d_FQ_mul ?W ?hk $(Lean.mkIdent `hA):ident ?hm ?hm2 ?hp ?hj ?_; (case W => assumption); (case hk => k_extra "m ok"); (case hm => k_extra "m mem"); (case hm2 => k_extra "m mem"); (case hp => assumption); (case hj => k_extra "m mulok"); clear $(Lean.mkIdent `hA):ident; intro $(Lean.mkIdent `x9):ident $(Lean.mkIdent `s9):ident $(Lean.mkIdent `hA):ident))
local macro_rules | `(tactic| walk_at "unaryOp USub ref") => `(tactic| ((with_reducible rename At _ _ _ _ => $(Lean.mkIdent `hA):ident); refine' d_FQ_neg ?W ?hk $(Lean.mkIdent `hA):ident ?hm ?hp ?_; (case W => assumption); (case hk => k_extra "m ok"); (case hm => k_extra "m mem"); (case hp => assumption); clear $(Lean.mkIdent `hA):ident; intro $(Lean.mkIdent `x9):ident $(Lean.mkIdent `s9):ident $(Lean.mkIdent `hA):ident))
local macro_rules | `(tactic| walk_at "call ref") => `(tactic| ((with_reducible rename At _ _ _ _ => $(Lean.mkIdent `hA):ident); refine r_use ?_; refine' s_FQs ?W ?hk $(Lean.mkIdent `hA):ident ?hp ?hm ?_; (case W => assumption); (case hk => k_extra "m ok"); (case hp => assumption); (case hm => k_extra "m mem"); clear $(Lean.mkIdent `hA):ident; intro $(Lean.mkIdent `x9):ident $(Lean.mkIdent `s9):ident $(Lean.mkIdent `hA):ident))
local macro_rules | `(tactic| walk_at "call ref") => `(tactic| ((with_reducible rename At _ _ _ _ => $(Lean.mkIdent `hA):ident); refine r_use ?_; refine' s_P_corr0 ?W ?hk $(Lean.mkIdent `hA):ident ?hp ?hx ?hd ?hmp ?hm ?_; (case W => assumption); (case hk => k_extra "m ok"); (case hp => assumption); (case hx => k_extra "m mem"); (case hd => k_extra "m mem"); (case hmp => exact rfl); (case hm => k_extra "m mem"); clear $(Lean.mkIdent `hA):ident; intro $(Lean.mkIdent `x9):ident $(Lean.mkIdent `s9):ident $(Lean.mkIdent `hA):ident))
local macro_rules | `(tactic| walk_at "call ref") => `(tactic| ((with_reducible rename At _ _ _ _ => $(Lean.mkIdent `hA):ident); refine r_use ?_; refine' s_P ?W ?T ?hk $(Lean.mkIdent `hA):ident ?hp ?h1 ?h2 ?h3 ?h4 ?h5 ?h6 ?_; (case W => assumption); (case T => assumption); (case hk => k_extra "m ok"); (case hp => assumption); (case h2 => k_extra "m mem"); (case h1 => k_extra "m seq"); (case h4 => assumption); (case h3 => k_extra "m seq"); (case h5 => k_extra "m lens"); (case h6 => k_extra "m lens"); clear $(Lean.mkIdent `hA):ident; intro $(Lean.mkIdent `x9):ident $(Lean.mkIdent `s9):ident $(Lean.mkIdent `hA):ident))
local macro_rules | `(tactic| walk_at "call ref") => `(tactic| ((with_reducible rename At _ _ _ _ => $(Lean.mkIdent `hA):ident); refine r_use ?_; refine' s_P_made ?W ?T ?hk $(Lean.mkIdent `hA):ident ?hp ?hm ?h1 ?h2 ?h5 ?h6 ?_; (case W => assumption); (case T => assumption); (case hk => k_extra "m ok"); (case hp => assumption); (case hm => k_extra "m mem"); (case h2 => k_extra "m mem"); (case h1 => k_extra "m seq"); (case h5 => k_extra "m lens"); (case h6 => k_extra "m lens"); clear $(Lean.mkIdent `hA):ident; intro $(Lean.mkIdent `x9):ident $(Lean.mkIdent `s9):ident $(Lean.mkIdent `hA):ident))
local macro_rules | `(tactic| walk_at "binaryOp FloorDiv int int") => `(tactic| ((with_reducible rename At _ _ _ _ => $(Lean.mkIdent `hA):ident); refine r_fdiv $(Lean.mkIdent `hA):ident (by omega) (by exact PyProof.noPylong_small (by omega)) ?_; clear $(Lean.mkIdent `hA):ident; intro $(Lean.mkIdent `t9):ident $(Lean.mkIdent `s9):ident $(Lean.mkIdent `hA):ident))
local macro_rules | `(tactic| walk_at "call ref") => `(tactic| ((with_reducible rename At _ _ _ _ => $(Lean.mkIdent `hA):ident); refine r_use ?_; refine' s_O ?W ?T ?hk $(Lean.mkIdent `hA):ident ?hp ?h1 ?h2 ?h3 ?h4 ?h5 ?h6 ?h8 ?_; (case W => assumption); (case T => assumption); (case hk => k_extra "m ok"); (case hp => assumption); (case h1 => k_extra "m mem"); (case h2 => k_extra "m ints"); (case h4 => assumption); (case h3 => k_extra "m seq"); (case h5 => k_extra "m lens"); (case h6 => k_extra "m lens"); (case h8 => k_extra "m lens"); clear $(Lean.mkIdent `hA):ident; intro $(Lean.mkIdent `x9):ident $(Lean.mkIdent `s9):ident $(Lean.mkIdent `hA):ident))
local macro_rules | `(tactic| walk_at "call ref") => `(tactic| ((with_reducible rename At _ _ _ _ => $(Lean.mkIdent `hA):ident); refine r_use ?_; refine' s_O_made ?W ?T ?hk $(Lean.mkIdent `hA):ident ?hp ?hm ?h1 ?h2 ?h5 ?h6 ?h8 ?_; (case W => assumption); (case T => assumption); (case hk => k_extra "m ok"); (case hp => assumption); (case hm => k_extra "m mem"); (case h1 => k_extra "m mem"); (case h2 => k_extra "m ints"); (case h5 => k_extra "m lens"); (case h6 => k_extra "m lens"); (case h8 => k_extra "m lens"); clear $(Lean.mkIdent `hA):ident; intro $(Lean.mkIdent `x9):ident $(Lean.mkIdent `s9):ident $(Lean.mkIdent `hA):ident))
local macro_rules | `(tactic| walk_at "binaryOp BitAnd int int") => `(tactic| ((with_reducible rename At _ _ _ _ => $(Lean.mkIdent `hA):ident); refine r_and $(Lean.mkIdent `hA):ident ?_; clear $(Lean.mkIdent `hA):ident; intro $(Lean.mkIdent `t9):ident $(Lean.mkIdent `s9):ident $(Lean.mkIdent `hA):ident))
local macro_rules | `(tactic| walk_at "inplaceOp RShift int int") => `(tactic| ((with_reducible rename At _ _ _ _ => $(Lean.mkIdent `hA):ident); refine r_irsh $(Lean.mkIdent `hA):ident (by decide) ?_; clear $(Lean.mkIdent `hA):ident; intro $(Lean.mkIdent `t9):ident $(Lean.mkIdent `s9):ident $(Lean.mkIdent `hA):ident))
local macro_rules | `(tactic| walk_at "call ref") => `(tactic| ((with_reducible rename At _ _ _ _ => $(Lean.mkIdent `hA):ident); refine r_use ?_; refine' s_F ?W ?T ?hk $(Lean.mkIdent `hA):ident ?hp ?h1 ?h2 ?h3 ?h4 ?h5 ?h6 ?h8 ?_; (case W => assumption); (case T => assumption); (case hk => k_extra "m ok"); (case hp => assumption); (case h1 => k_extra "m mem"); (case h2 => k_extra "m ints"); (case h4 => assumption); (case h3 => k_extra "m seq"); (case h5 => k_extra "m lens"); (case h6 => k_extra "m lens"); (case h8 => k_extra "m lens"); clear $(Lean.mkIdent `hA):ident; intro $(Lean.mkIdent `x9):ident $(Lean.mkIdent `s9):ident $(Lean.mkIdent `hA):ident))
local macro_rules | `(tactic| walk_at "call ref") => `(tactic| ((with_reducible rename At _ _ _ _ => $(Lean.mkIdent `hA):ident); refine r_use ?_; refine' s_F_made ?W ?T ?hk $(Lean.mkIdent `hA):ident ?hp ?hm ?h1 ?h2 ?h5 ?h6 ?h8 ?_; (case W => assumption); (case T => assumption); (case hk => k_extra "m ok"); (case hp => assumption); (case hm => k_extra "m mem"); (case h1 => k_extra "m mem"); (case h2 => k_extra "m ints"); (case h5 => k_extra "m lens"); (case h6 => k_extra "m lens"); (case h8 => k_extra "m lens"); clear $(Lean.mkIdent `hA):ident; intro $(Lean.mkIdent `x9):ident $(Lean.mkIdent `s9):ident $(Lean.mkIdent `hA):ident))
local macro_rules | `(tactic| walk_at "binaryOp BitAnd int int") => `(tactic| ((with_reducible rename At _ _ _ _ => $(Lean.mkIdent `hA):ident); refine r_and $(Lean.mkIdent `hA):ident ?_; clear $(Lean.mkIdent `hA):ident; intro $(Lean.mkIdent `t9):ident $(Lean.mkIdent `s9):ident $(Lean.mkIdent `hA):ident))
local macro_rules | `(tactic| walk_at "inplaceOp RShift int int") => `(tactic| ((with_reducible rename At _ _ _ _ => $(Lean.mkIdent `hA):ident); refine r_irsh $(Lean.mkIdent `hA):ident (by decide) ?_; clear $(Lean.mkIdent `hA):ident; intro $(Lean.mkIdent `t9):ident $(Lean.mkIdent `s9):ident $(Lean.mkIdent `hA):ident))
local macro_rules | `(tactic| walk_at "call ref") => `(tactic| ((with_reducible rename At _ _ _ _ => $(Lean.mkIdent `hA):ident); refine r_use ?_; refine' s_law_made ?W ?T ?hk $(Lean.mkIdent `hA):ident ?hp ?h1 ?h2 ?h3 ?h4 ?h5 ?h6 ?h8 ?_; (case W => assumption); (case T => assumption); (case hk => k_extra "m ok"); (case hp => assumption); (case h1 => k_extra "m mem"); (case h2 => assumption); (case h3 => k_extra "m mem"); (case h4 => assumption); (case h5 => k_extra "m lens"); (case h6 => k_extra "m lens"); (case h8 => k_extra "m lens"); clear $(Lean.mkIdent `hA):ident; intro $(Lean.mkIdent `x9):ident $(Lean.mkIdent `s9):ident $(Lean.mkIdent `hA):ident))
local macro_rules | `(tactic| walk_at "call ref") => `(tactic| ((with_reducible rename At _ _ _ _ => $(Lean.mkIdent `hA):ident); refine r_use ?_; refine' s_law_at ?W ?hk $(Lean.mkIdent `hA):ident ?hm ?hi ?hz ?kk ?_; (case W => assumption); (case hk => k_extra "m ok"); (case hm => k_extra "m mem"); (case hi => assumption); (case hz => k_extra "m lens"); (case kk => decide); clear $(Lean.mkIdent `hA):ident; intro $(Lean.mkIdent `t9):ident $(Lean.mkIdent `s9):ident $(Lean.mkIdent `hA):ident))
local macro_rules | `(tactic| walk_at "call ref") => `(tactic| ((with_reducible rename At _ _ _ _ => $(Lean.mkIdent `hA):ident); refine r_use ?_; refine' s_law_primes ?W ?hk $(Lean.mkIdent `hA):ident ?_; (case W => assumption); (case hk => k_extra "m ok"); clear $(Lean.mkIdent `hA):ident; intro $(Lean.mkIdent `l9):ident $(Lean.mkIdent `v9):ident $(Lean.mkIdent `s9):ident $(Lean.mkIdent `hi9):ident $(Lean.mkIdent `hA):ident))
local macro_rules | `(tactic| walk_at "call ref") => `(tactic| ((with_reducible rename At _ _ _ _ => $(Lean.mkIdent `hA):ident); refine r_use ?_; refine' s_law_value ?W ?hk $(Lean.mkIdent `hA):ident ?hm ?hi ?hz ?hm0 ?hu ?_; (case W => assumption); (case hk => k_extra "m ok"); (case hm => k_extra "m mem"); (case hi => assumption); (case hz => k_extra "m lens"); (case hm0 => assumption); (case hu => assumption); clear $(Lean.mkIdent `hA):ident; intro $(Lean.mkIdent `t9):ident $(Lean.mkIdent `s9):ident $(Lean.mkIdent `hA):ident))
local macro_rules | `(tactic| walk_at "call ref") => `(tactic| ((with_reducible rename At _ _ _ _ => $(Lean.mkIdent `hA):ident); refine r_use ?_; refine' s_law_rows ?W ?hk $(Lean.mkIdent `hA):ident ?hm ?hi ?hz ?hm0 ?hu ?_; (case W => assumption); (case hk => k_extra "m ok"); (case hm => k_extra "m mem"); (case hi => assumption); (case hz => k_extra "m lens"); (case hm0 => assumption); (case hu => assumption); clear $(Lean.mkIdent `hA):ident; intro $(Lean.mkIdent `l9):ident $(Lean.mkIdent `v9):ident $(Lean.mkIdent `s9):ident $(Lean.mkIdent `hi9):ident $(Lean.mkIdent `hA):ident))
local macro_rules | `(tactic| walk_at "getAttr ref") => `(tactic| ((with_reducible rename At _ _ _ _ => $(Lean.mkIdent `hA):ident); refine' r_eoc ?W $(Lean.mkIdent `hA):ident ?hm ?he ?_; (case W => assumption); (case he => exact rfl); (case hm => k_extra "m mem"); clear $(Lean.mkIdent `hA):ident; intro $(Lean.mkIdent `y9):ident $(Lean.mkIdent `v9):ident $(Lean.mkIdent `s9):ident $(Lean.mkIdent `hi9):ident $(Lean.mkIdent `hA):ident))
local macro_rules | `(tactic| walk_at "call ref") => `(tactic| ((with_reducible rename At _ _ _ _ => $(Lean.mkIdent `hA):ident); refine r_use ?_; refine' s_law_at_root ?W ?hk $(Lean.mkIdent `hA):ident ?hm0 ?hu ?hm ?h6 ?_; (case W => assumption); (case hk => k_extra "m ok"); (case hm0 => assumption); (case hu => assumption); (case hm => k_extra "m mem"); (case h6 => k_extra "m lens"); clear $(Lean.mkIdent `hA):ident; intro $(Lean.mkIdent `t9):ident $(Lean.mkIdent `s9):ident $(Lean.mkIdent `hA):ident))

local macro_rules | `(tactic| k_extra "m lens") => `(tactic| first | omega | (have hi9L := IntsAre.length $(Lean.mkIdent `hi9):ident; omega) | (have hi9L := IntsAre.length $(Lean.mkIdent `hi9):ident; simp only [List.length_cons, List.length_nil]; omega) | (simp only [List.length_append, List.length_cons, List.length_nil, List.length_replicate, List.length_map] <;> omega))
local macro_rules | `(tactic| walk_at "newList") => `(tactic| ((with_reducible rename At _ _ _ _ => $(Lean.mkIdent `hA):ident); refine r_nlF $(Lean.mkIdent `hA):ident (by k_extra "m size") ?_; clear $(Lean.mkIdent `hA):ident; intro $(Lean.mkIdent `l9):ident $(Lean.mkIdent `s9):ident $(Lean.mkIdent `hA):ident))
local macro_rules | `(tactic| walk_at "call builtin:pow") => `(tactic| ((with_reducible rename At _ _ _ _ => $(Lean.mkIdent `hA):ident); refine r_pow3 $(Lean.mkIdent `hA):ident (by omega) (by omega) ?_; clear $(Lean.mkIdent `hA):ident; intro $(Lean.mkIdent `t9):ident $(Lean.mkIdent `s9):ident $(Lean.mkIdent `hA):ident))
local macro_rules | `(tactic| walk_at "call ref") => `(tactic| ((with_reducible rename At _ _ _ _ => $(Lean.mkIdent `hA):ident); refine r_use ?_; refine' s_law_made ?W ?T ?hk $(Lean.mkIdent `hA):ident ?hp ?h1 ?h2 ?h3 ?h4 ?h5 ?h6 ?h8 ?_; (case W => assumption); (case T => assumption); (case hk => k_extra "m ok"); (case hp => assumption); (case h1 => k_extra "m mem"); (case h2 => k_extra "m ints"); (case h3 => k_extra "m mem"); (case h4 => k_extra "m ints"); (case h5 => k_extra "m lens"); (case h6 => k_extra "m lens"); (case h8 => k_extra "m lens"); clear $(Lean.mkIdent `hA):ident; intro $(Lean.mkIdent `x9):ident $(Lean.mkIdent `s9):ident $(Lean.mkIdent `hA):ident))
local macro_rules | `(tactic| walk_at "call ref") => `(tactic| ((with_reducible rename At _ _ _ _ => $(Lean.mkIdent `hA):ident); refine r_use ?_; refine' s_law_rows ?W ?hk $(Lean.mkIdent `hA):ident ?hm ?hi ?hz ?hm0 ?hu ?_; (case W => assumption); (case hk => k_extra "m ok"); (case hm => k_extra "m mem"); (case hi => k_extra "m ints"); (case hz => k_extra "m lens"); (case hm0 => assumption); (case hu => assumption); clear $(Lean.mkIdent `hA):ident; intro $(Lean.mkIdent `l9):ident $(Lean.mkIdent `v9):ident $(Lean.mkIdent `s9):ident $(Lean.mkIdent `hi9):ident $(Lean.mkIdent `hA):ident))
local macro_rules | `(tactic| walk_at "binaryOp Mult ref ref") => `(tactic| ((with_reducible rename At _ _ _ _ => $(Lean.mkIdent `hA):ident); refine' d_E_mul ?W ?T ?hk $(Lean.mkIdent `hA):ident ?hp0 ?hp1 ?hm ?hm2 ?h5 ?h7 ?h6 ?h8 ?hb ?hbm ?_; (case W => assumption); (case T => assumption); (case hk => k_extra "m ok"); (case hp0 => assumption); (case hp1 => assumption); (case hm => k_extra "m mem"); (case hm2 => k_extra "m mem"); (case h5 => k_extra "m lens"); (case h7 => k_extra "m lens"); (case h6 => k_extra "m lens"); (case h8 => k_extra "m lens"); (case hb => assumption); (case hbm => assumption); clear $(Lean.mkIdent `hA):ident; intro $(Lean.mkIdent `x9):ident $(Lean.mkIdent `s9):ident $(Lean.mkIdent `hA):ident))
local macro_rules | `(tactic| walk_at "compareOp Eq ref ref") => `(tactic| ((with_reducible rename At _ _ _ _ => $(Lean.mkIdent `hA):ident); refine' r_eqL ?hu $(Lean.mkIdent `hA):ident ?h1 ?h2 ?i1 ?i2 ?hl ?_; (case h1 => k_extra "m pl"); (case h2 => k_extra "m pl"); (case i1 => k_extra "m ints"); (case i2 => k_extra "m ints"); (case hl => k_extra "m lens"); (case hu => exact Ok.u9 (by assumption))))
local macro_rules | `(tactic| walk_at "eval Attribute BinOp") => `(tactic| refine Attribute_any_ ?_)
local macro_rules | `(tactic| walk_at "compareOp Eq ref ref") => `(tactic| ((with_reducible rename At _ _ _ _ => $(Lean.mkIdent `hA):ident); refine' r_eqLt ?hu $(Lean.mkIdent `hA):ident ?h1 ?h2 ?i1 ?i2 ?hl ?_; (case h1 => k_extra "m pl"); (case h2 => k_extra "m pl"); (case i1 => k_extra "m ints"); (case i2 => k_extra "m ints"); (case hl => first | with_reducible rfl | assumption); (case hu => exact Ok.u9 (by assumption))))
local macro_rules | `(tactic| walk_at "call ref") => `(tactic| rw [List.append_nil])
local macro_rules | `(tactic| walk_at "call ref") => `(tactic| ((with_reducible rename At _ _ _ _ => $(Lean.mkIdent `hA):ident); refine r_use ?_; refine' s_law_atI ?W ?hk $(Lean.mkIdent `hA):ident ?hm ?hi ?hz ?k0 ?kk ?_; (case W => assumption); (case hk => k_extra "m ok"); (case hm => k_extra "m mem"); (case hi => assumption); (case hz => k_extra "m lens"); (case k0 => omega); (case kk => omega); clear $(Lean.mkIdent `hA):ident; intro $(Lean.mkIdent `t9):ident $(Lean.mkIdent `s9):ident $(Lean.mkIdent `hA):ident))
local macro_rules | `(tactic| walk_at "storeName") => `(tactic| ((with_reducible rename At _ _ _ _ => $(Lean.mkIdent `hA):ident); with_unfolding_all refine' v_stcF $(Lean.mkIdent `hA):ident ?c ?rm ?_ rfl rfl; (case c => exact rfl); (case rm => k_extra "m rm"); clear $(Lean.mkIdent `hA):ident; intro $(Lean.mkIdent `s9):ident $(Lean.mkIdent `hA):ident))
local macro_rules | `(tactic| walk_at "call builtin:abs") => `(tactic| ((with_reducible rename At _ _ _ _ => $(Lean.mkIdent `hA):ident); refine r_abs $(Lean.mkIdent `hA):ident ?_; clear $(Lean.mkIdent `hA):ident; intro $(Lean.mkIdent `t9):ident $(Lean.mkIdent `s9):ident $(Lean.mkIdent `hA):ident))
local macro_rules | `(tactic| walk_at "binaryOp Add ref ref") => `(tactic| ((with_reducible rename At _ _ _ _ => $(Lean.mkIdent `hA):ident); refine' d_E_add ?W ?T ?hk $(Lean.mkIdent `hA):ident ?hp ?hm ?hm2 ?h5 ?h7 ?h6 ?h8 ?_; (case W => assumption); (case T => assumption); (case hk => k_extra "m ok"); (case hp => assumption); (case hm => k_extra "m mem"); (case hm2 => k_extra "m mem"); (case h5 => k_extra "m lens"); (case h7 => k_extra "m lens"); (case h6 => k_extra "m lens"); (case h8 => k_extra "m lens"); clear $(Lean.mkIdent `hA):ident; intro $(Lean.mkIdent `x9):ident $(Lean.mkIdent `s9):ident $(Lean.mkIdent `hA):ident))
local macro_rules | `(tactic| walk_at "binaryOp Sub ref ref") => `(tactic| ((with_reducible rename At _ _ _ _ => $(Lean.mkIdent `hA):ident); refine' d_E_sub ?W ?T ?hk $(Lean.mkIdent `hA):ident ?hp ?hm ?hm2 ?h5 ?h7 ?h6 ?h8 ?_; (case W => assumption); (case T => assumption); (case hk => k_extra "m ok"); (case hp => assumption); (case hm => k_extra "m mem"); (case hm2 => k_extra "m mem"); (case h5 => k_extra "m lens"); (case h7 => k_extra "m lens"); (case h6 => k_extra "m lens"); (case h8 => k_extra "m lens"); clear $(Lean.mkIdent `hA):ident; intro $(Lean.mkIdent `x9):ident $(Lean.mkIdent `s9):ident $(Lean.mkIdent `hA):ident))
local macro_rules | `(tactic| walk_at "unaryOp USub ref") => `(tactic| ((with_reducible rename At _ _ _ _ => $(Lean.mkIdent `hA):ident); refine' d_E_neg ?W ?T ?hk $(Lean.mkIdent `hA):ident ?hp ?hm ?h5 ?h6 ?h8 ?_; (case W => assumption); (case T => assumption); (case hk => k_extra "m ok"); (case hp => assumption); (case hm => k_extra "m mem"); (case h5 => k_extra "m lens"); (case h6 => k_extra "m lens"); (case h8 => k_extra "m lens"); clear $(Lean.mkIdent `hA):ident; intro $(Lean.mkIdent `x9):ident $(Lean.mkIdent `s9):ident $(Lean.mkIdent `hA):ident))
local macro_rules | `(tactic| walk_at "call ref") => `(tactic| ((with_reducible rename At _ _ _ _ => $(Lean.mkIdent `hA):ident); refine r_use ?_; refine' e_P_one ?W ?T ?hk $(Lean.mkIdent `hA):ident ?hp ?hm ?h8 ?h6 ?_; (case W => assumption); (case T => assumption); (case hk => k_extra "m ok"); (case hm => k_extra "m mem"); (case hp => assumption); (case h8 => assumption); (case h6 => assumption); clear $(Lean.mkIdent `hA):ident; intro $(Lean.mkIdent `x9):ident $(Lean.mkIdent `s9):ident $(Lean.mkIdent `hA):ident))
local macro_rules | `(tactic| walk_at "call ref") => `(tactic| ((with_reducible rename At _ _ _ _ => $(Lean.mkIdent `hA):ident); refine r_use ?_; refine' e_O_one ?W ?T ?hk $(Lean.mkIdent `hA):ident ?hp ?hm ?h8 ?h6 ?_; (case W => assumption); (case T => assumption); (case hk => k_extra "m ok"); (case hm => k_extra "m mem"); (case hp => assumption); (case h8 => assumption); (case h6 => assumption); clear $(Lean.mkIdent `hA):ident; intro $(Lean.mkIdent `x9):ident $(Lean.mkIdent `s9):ident $(Lean.mkIdent `hA):ident))
local macro_rules | `(tactic| walk_at "call ref") => `(tactic| ((with_reducible rename At _ _ _ _ => $(Lean.mkIdent `hA):ident); refine r_use ?_; refine' e_F_one ?W ?T ?hk $(Lean.mkIdent `hA):ident ?hp ?hm ?h8 ?h6 ?_; (case W => assumption); (case T => assumption); (case hk => k_extra "m ok"); (case hm => k_extra "m mem"); (case hp => assumption); (case h8 => assumption); (case h6 => assumption); clear $(Lean.mkIdent `hA):ident; intro $(Lean.mkIdent `x9):ident $(Lean.mkIdent `s9):ident $(Lean.mkIdent `hA):ident))
local macro_rules | `(tactic| walk_at "call ref") => `(tactic| ((with_reducible rename At _ _ _ _ => $(Lean.mkIdent `hA):ident); refine r_use ?_; refine' e_P_zero ?W ?T ?hk $(Lean.mkIdent `hA):ident ?hp ?hm ?h8 ?h6 ?_; (case W => assumption); (case T => assumption); (case hk => k_extra "m ok"); (case hm => k_extra "m mem"); (case hp => assumption); (case h8 => assumption); (case h6 => assumption); clear $(Lean.mkIdent `hA):ident; intro $(Lean.mkIdent `x9):ident $(Lean.mkIdent `s9):ident $(Lean.mkIdent `hA):ident))
local macro_rules | `(tactic| walk_at "call ref") => `(tactic| ((with_reducible rename At _ _ _ _ => $(Lean.mkIdent `hA):ident); refine r_use ?_; refine' e_O_zero ?W ?T ?hk $(Lean.mkIdent `hA):ident ?hp ?hm ?h8 ?h6 ?_; (case W => assumption); (case T => assumption); (case hk => k_extra "m ok"); (case hm => k_extra "m mem"); (case hp => assumption); (case h8 => assumption); (case h6 => assumption); clear $(Lean.mkIdent `hA):ident; intro $(Lean.mkIdent `x9):ident $(Lean.mkIdent `s9):ident $(Lean.mkIdent `hA):ident))
local macro_rules | `(tactic| walk_at "call ref") => `(tactic| ((with_reducible rename At _ _ _ _ => $(Lean.mkIdent `hA):ident); refine r_use ?_; refine' e_F_zero ?W ?T ?hk $(Lean.mkIdent `hA):ident ?hp ?hm ?h8 ?h6 ?_; (case W => assumption); (case T => assumption); (case hk => k_extra "m ok"); (case hm => k_extra "m mem"); (case hp => assumption); (case h8 => assumption); (case h6 => assumption); clear $(Lean.mkIdent `hA):ident; intro $(Lean.mkIdent `x9):ident $(Lean.mkIdent `s9):ident $(Lean.mkIdent `hA):ident))
variable {prog : Program} {w : World} {A : Around} {E : Value → Shared → Prop} {D : Dat} {Fs : List Fact} {R : List Res} {s : Shared} {Q : Value → Shared → Prop}
set_option maxHeartbeats 8000000 in
set_option maxRecDepth 100000 in
theorem law_mid {name qual : Str} {params : Arguments} {body rest : List Stmt} {scope : Scope} {dV kV doc pm cdv ct oc : Value} {an od : Option Addr} {osl : Array (Option Value)} {L9 l l9 : Addr} {ns M : List Int} {vs v9 : List Value} {u m way deg form2 kind : Int} {tm t1 t2 t3 t4 t5 : Tok}
    (ho : (hd.heap_39 w.params).lookup 503 = some ⟨oc, od, .func (fnOf name qual params body scope dV kV doc pm an cdv ct), osl⟩) (hr : body.drop 7 = rest)
    (W : Wd (hd.heap_39 w.params) D) (T : ∀ t ∈ WT, t ∈ D.tabs) (hK9 : Ok (A.deeper (envOfC qual scope L9 503 cdv)) 100) (hm : ListF l vs ∈ Fs) (hi : IntsAre vs ns) (hz : vs.length < 2 ^ 20) (hi9 : IntsAre v9 M) (hroot : RootOf m u M) (hbM : Bd M) (m2 : 2 ≤ m) (m3 : m < 2000000) (u0 : 0 ≤ u) (u1 : u < m) (w0 : 0 ≤ way) (w1 : way < 4) (hM2 : 2 ≤ M.length) (hM10 : M.length < 10)
    (H : At D (ListF l9 v9 :: CellF (L9 + 1 + 1) (.int m tm) :: CellF (L9 + 1) (.ref l) :: Fs) (Vars L9 [("degree", .int (1 + deg) t1), ("form", .int form2 t2), ("kind", .int kind t3), ("u", .int u t4), ("way", .int way t5), ("rows", .ref l9)] :: R) s)
    (h : ∀ s', At D Fs R s' → Q (.bool true) s') :
    wpAny (model prog w) (A.deeper (envOfC qual scope L9 503 cdv)) (execs rest (envOfC qual scope L9 503 cdv)) (fun fl s' => Q (match fl with | .ret v => v | _ => .none) s') (fun _ _ => False) s := by
  subst hr
  refine' use_body (P := fun b sc q c => Ok (A.deeper (envOfC q sc L9 503 c)) 100 → wpAny (model prog w) (A.deeper (envOfC q sc L9 503 c)) (execs (b.drop 7) (envOfC q sc L9 503 c)) (fun fl s' => Q (match fl with | .ret v => v | _ => .none) s') (fun _ _ => False) s) ?h1 ho ?_ hK9
  case h1 => k_is
  clear hK9 ho
  intro hK9
  dsimp only [List.drop]
  w_top off
  have hA := H
  clear H
  have hvl := hi9.length
  have hm0 : m ≠ 0 := by omega
  have hmr : ∀ a, IntMulOk a u := fun a => mulOk_right ⟨by omega, by omega⟩
  k_extra "wk"
  have hd2 : ((v9.length : Int) - 0).toNat = M.length := by omega
  rw [hd2] at hA hN9
  have hR2 := numL_length ns m 9 1 M.length
  refine' r_mapK (inG (numL ns m 9 1 M.length)) (hN9 false _) ⟨_, _, rfl⟩ hK9.handled hA ?g1 ?g0 ?g2 inG.zero (fun _ _ _ q => q.len (by omega)) ?step ?done
  case g0 => decide
  case g2 => rfl
  case g1 => k_extra "m mem"
  case step =>
    clear hA
    intro C acc i ys Gs v F s hi' hG hV H
    obtain ⟨⟨t, rfl⟩, rfl⟩ := hV
    simp only [Int.zero_add, Int.mul_one]
    have hA := H.nil1 hG.2.2
    clear H
    k_extra "wk"
    have e : (9 + (i : Int)).toNat = 9 + 1 * i := by omega
    rw [e]
    exact hG.hold (numL_get ns m 9 1 hi') hA (by k_extra "m facts")
  case done =>
    clear hA hN9
    intro C acc1 ys1 Gs s hG _ s H
    have hI1 := hG.done hR2
    have H1 := H.nil0 hG.2.2
    have hA := At.fzL H1 .head
    have hle1 := hI1.length
    rw [hR2] at hle1
    clear H H1 hG hR2
    k_extra "wk"
    have hd2 : ((v9.length : Int) - 0).toNat = M.length := by omega
    rw [hd2] at hA hN9
    have hR2 := numL_length ns m 11 2 M.length
    refine' r_mapK (inG (numL ns m 11 2 M.length)) (hN9 false _) ⟨_, _, rfl⟩ hK9.handled hA ?g1 ?g0 ?g2 inG.zero (fun _ _ _ q => q.len (by omega)) ?step ?done
    case g0 => decide
    case g2 => rfl
    case g1 => k_extra "m mem"
    case step =>
      clear hA
      intro C acc i ys Gs v F s hi' hG hV H
      obtain ⟨⟨t, rfl⟩, rfl⟩ := hV
      simp only [Int.zero_add, Int.mul_one]
      have hA := H.nil1 hG.2.2
      clear H
      k_extra "wk"
      have e : (11 + 2 * (i : Int)).toNat = 11 + 2 * i := by omega
      rw [e]
      exact hG.hold (numL_get ns m 11 2 hi') hA (by k_extra "m facts")
    case done =>
      clear hA hN9
      intro C acc2 ys2 Gs s hG _ s H
      have hI2 := hG.done hR2
      have H1 := H.nil0 hG.2.2
      have hA := At.fzL H1 .head
      have hle2 := hI2.length
      rw [hR2] at hle2
      clear H H1 hG hR2
      have hNU : NUok ns m u M (numL ns m 9 1 M.length) (numL ns m 11 2 M.length) := ⟨numL_length .., numL_length .., hroot, by omega, by omega, u0, u1⟩
      have hm60 : m < 2 ^ 60 := by omega
      have hM6 : M.length < 1000 := by omega
      have hM8 : 0 < M.length := by omega
      generalize numL ns m 9 1 M.length = NU at *
      generalize numL ns m 11 2 M.length = OT at *
      k_extra "wk"
      refine r_unpk hK9.handled hA (.head _) ?_ ?_
      · rfl
      clear hA
      intro s hA
      with_unfolding_all refine r_aio2 ?_
      k_extra "wk"
      refine r_unpk hK9.handled hA (.head _) ?_ ?_
      · rfl
      clear hA
      intro s hA
      with_unfolding_all refine r_aio2 ?_
      generalize kdOf form2 M.length = kd at *
      k_extra "wk"
      refine r_unpk hK9.handled hA (.head _) ?_ ?_
      · rfl
      clear hA
      intro s hA
      with_unfolding_all refine r_aio2 ?_
      iterate 4 walk1
      refine' law_tail ?ho ?hr W T hK9 hm hi hz hNU hbM m3 (by omega) w0 w1 (hA.to' (by k_extra "m sub") (by k_extra "m facts")) h
      case ho => k_is
      case hr => rfl

end

section
local macro_rules | `(tactic| walk_at "call ref") => `(tactic| ((with_reducible rename At _ _ _ _ => $(Lean.mkIdent `hA):ident); refine r_use ?_; refine' s_FQ ?W ?hk $(Lean.mkIdent `hA):ident ?hp ?_; (case W => assumption); (case hk => k_extra "m ok"); (case hp => assumption); clear $(Lean.mkIdent `hA):ident; intro $(Lean.mkIdent `x9):ident $(Lean.mkIdent `s9):ident $(Lean.mkIdent `hA):ident))
local macro_rules | `(tactic| walk_at "call ref") => `(tactic| ((with_reducible rename At _ _ _ _ => $(Lean.mkIdent `hA):ident); refine r_use ?_; refine' s_FQ_made ?W ?hk $(Lean.mkIdent `hA):ident ?hm ?hp ?_; (case W => assumption); (case hk => k_extra "m ok"); (case hm => k_extra "m mem"); (case hp => assumption); clear $(Lean.mkIdent `hA):ident; intro $(Lean.mkIdent `x9):ident $(Lean.mkIdent `s9):ident $(Lean.mkIdent `hA):ident))
local macro_rules | `(tactic| walk_at "binaryOp Add ref ref") => `(tactic| ((with_reducible rename At _ _ _ _ => $(Lean.mkIdent `hA):ident); refine' d_FQ_add ?W ?hk $(Lean.mkIdent `hA):ident ?hm ?hm2 ?hp  ?_; (case W => assumption); (case hk => k_extra "m ok"); (case hm => k_extra "m mem"); (case hm2 => k_extra "m mem"); (case hp => assumption);  clear $(Lean.mkIdent `hA):ident; intro $(Lean.mkIdent `x9):ident $(Lean.mkIdent `s9):ident $(Lean.mkIdent `hA):ident))
local macro_rules | `(tactic| walk_at "inplaceOp Add ref ref") => `(tactic| ((with_reducible rename At _ _ _ _ => $(Lean.mkIdent `hA):ident); refine' i_FQ_add ?W ?hk $(Lean.mkIdent `hA):ident ?hm ?hm2 ?hp ?_; (case W => assumption); (case hk => k_extra "m ok"); (case hm => k_extra "m mem"); (case hm2 => k_extra "m mem"); (case hp => assumption); clear $(Lean.mkIdent `hA):ident; intro $(Lean.mkIdent `x9):ident $(Lean.mkIdent `s9):ident $(Lean.mkIdent `hA):ident))
local macro_rules | `(tactic| walk_at "binaryOp Sub ref ref") => `(tactic| ((with_reducible rename At _ _ _ _ => $(Lean.mkIdent `hA):ident); refine' d_FQ_sub ?W ?hk $(Lean.mkIdent `hA):ident ?hm ?hm2 ?hp  ?_; (case W => assumption); (case hk => k_extra "m ok"); (case hm => k_extra "m mem"); (case hm2 => k_extra "m mem"); (case hp => assumption);  clear $(Lean.mkIdent `hA):ident; intro $(Lean.mkIdent `x9):ident $(Lean.mkIdent `s9):ident $(Lean.mkIdent `hA):ident))
local macro_rules | `(tactic| walk_at "inplaceOp Sub ref ref") => `(tactic| ((with_reducible rename At _ _ _ _ => $(Lean.mkIdent `hA):ident); refine' i_FQ_sub ?W ?hk $(Lean.mkIdent `hA):ident ?hm ?hm2 ?hp ?_; (case W => assumption); (case hk => k_extra "m ok"); (case hm => k_extra "m mem"); (case hm2 => k_extra "m mem"); (case hp => assumption); clear $(Lean.mkIdent `hA):ident; intro $(Lean.mkIdent `x9):ident $(Lean.mkIdent `s9):ident $(Lean.mkIdent `hA):ident))
local macro_rules | `(tactic| walk_at "binaryOp Mult ref ref") => `(tactic| ((with_reducible rename At _ _ _ _ => $(Lean.mkIdent `hA):ident); refine' d_FQ_mul ?W ?hk $(Lean.mkIdent `hA):ident ?hm ?hm2 ?hp ?hj ?_; (case W => assumption); (case hk => k_extra "m ok"); (case hm => k_extra "m mem"); (case hm2 => k_extra "m mem"); (case hp => assumption); (case hj => k_extra "m mulok"); clear $(Lean.mkIdent `hA):ident; intro $(Lean.mkIdent `x9):ident $(Lean.mkIdent `s9):ident $(Lean.mkIdent `hA):ident))
local macro_rules | `(tactic| walk_at "unaryOp USub ref") => `(tactic| ((with_reducible rename At _ _ _ _ => $(Lean.mkIdent `hA):ident); refine' d_FQ_neg ?W ?hk $(Lean.mkIdent `hA):ident ?hm ?hp ?_; (case W => assumption); (case hk => k_extra "m ok"); (case hm => k_extra "m mem"); (case hp => assumption); clear $(Lean.mkIdent `hA):ident; intro $(Lean.mkIdent `x9):ident $(Lean.mkIdent `s9):ident $(Lean.mkIdent `hA):ident))
local macro_rules | `(tactic| walk_at "call ref") => `(tactic| ((with_reducible rename At _ _ _ _ => $(Lean.mkIdent `hA):ident); refine r_use ?_; refine' s_FQs ?W ?hk $(Lean.mkIdent `hA):ident ?hp ?hm ?_; (case W => assumption); (case hk => k_extra "m ok"); (case hp => assumption); (case hm => k_extra "m mem"); clear $(Lean.mkIdent `hA):ident; intro $(Lean.mkIdent `x9):ident $(Lean.mkIdent `s9):ident $(Lean.mkIdent `hA):ident))
local macro_rules | `(tactic| walk_at "call ref") => `(tactic| ((with_reducible rename At _ _ _ _ => $(Lean.mkIdent `hA):ident); refine r_use ?_; refine' s_P_corr0 ?W ?hk $(Lean.mkIdent `hA):ident ?hp ?hx ?hd ?hmp ?hm ?_; (case W => assumption); (case hk => k_extra "m ok"); (case hp => assumption); (case hx => k_extra "m mem"); (case hd => k_extra "m mem"); (case hmp => exact rfl); (case hm => k_extra "m mem"); clear $(Lean.mkIdent `hA):ident; intro $(Lean.mkIdent `x9):ident $(Lean.mkIdent `s9):ident $(Lean.mkIdent `hA):ident))
local macro_rules | `(tactic| walk_at "call ref") => `(tactic| ((with_reducible rename At _ _ _ _ => $(Lean.mkIdent `hA):ident); refine r_use ?_; refine' s_P ?W ?T ?hk $(Lean.mkIdent `hA):ident ?hp ?h1 ?h2 ?h3 ?h4 ?h5 ?h6 ?_; (case W => assumption); (case T => assumption); (case hk => k_extra "m ok"); (case hp => assumption); (case h2 => k_extra "m mem"); (case h1 => k_extra "m seq"); (case h4 => assumption); (case h3 => k_extra "m seq"); (case h5 => k_extra "m lens"); (case h6 => k_extra "m lens"); clear $(Lean.mkIdent `hA):ident; intro $(Lean.mkIdent `x9):ident $(Lean.mkIdent `s9):ident $(Lean.mkIdent `hA):ident))
local macro_rules | `(tactic| walk_at "call ref") => `(tactic| ((with_reducible rename At _ _ _ _ => $(Lean.mkIdent `hA):ident); refine r_use ?_; refine' s_P_made ?W ?T ?hk $(Lean.mkIdent `hA):ident ?hp ?hm ?h1 ?h2 ?h5 ?h6 ?_; (case W => assumption); (case T => assumption); (case hk => k_extra "m ok"); (case hp => assumption); (case hm => k_extra "m mem"); (case h2 => k_extra "m mem"); (case h1 => k_extra "m seq"); (case h5 => k_extra "m lens"); (case h6 => k_extra "m lens"); clear $(Lean.mkIdent `hA):ident; intro $(Lean.mkIdent `x9):ident $(Lean.mkIdent `s9):ident $(Lean.mkIdent `hA):ident))
local macro_rules | `(tactic| walk_at "binaryOp FloorDiv int int") => `(tactic| ((with_reducible rename At _ _ _ _ => $(Lean.mkIdent `hA):ident); refine r_fdiv $(Lean.mkIdent `hA):ident (by omega) (by exact PyProof.noPylong_small (by omega)) ?_; clear $(Lean.mkIdent `hA):ident; intro $(Lean.mkIdent `t9):ident $(Lean.mkIdent `s9):ident $(Lean.mkIdent `hA):ident))
local macro_rules | `(tactic| walk_at "call ref") => `(tactic| ((with_reducible rename At _ _ _ _ => $(Lean.mkIdent `hA):ident); refine r_use ?_; refine' s_O ?W ?T ?hk $(Lean.mkIdent `hA):ident ?hp ?h1 ?h2 ?h3 ?h4 ?h5 ?h6 ?h8 ?_; (case W => assumption); (case T => assumption); (case hk => k_extra "m ok"); (case hp => assumption); (case h1 => k_extra "m mem"); (case h2 => k_extra "m ints"); (case h4 => assumption); (case h3 => k_extra "m seq"); (case h5 => k_extra "m lens"); (case h6 => k_extra "m lens"); (case h8 => k_extra "m lens"); clear $(Lean.mkIdent `hA):ident; intro $(Lean.mkIdent `x9):ident $(Lean.mkIdent `s9):ident $(Lean.mkIdent `hA):ident))
local macro_rules | `(tactic| walk_at "call ref") => `(tactic| ((with_reducible rename At _ _ _ _ => $(Lean.mkIdent `hA):ident); refine r_use ?_; refine' s_O_made ?W ?T ?hk $(Lean.mkIdent `hA):ident ?hp ?hm ?h1 ?h2 ?h5 ?h6 ?h8 ?_; (case W => assumption); (case T => assumption); (case hk => k_extra "m ok"); (case hp => assumption); (case hm => k_extra "m mem"); (case h1 => k_extra "m mem"); (case h2 => k_extra "m ints"); (case h5 => k_extra "m lens"); (case h6 => k_extra "m lens"); (case h8 => k_extra "m lens"); clear $(Lean.mkIdent `hA):ident; intro $(Lean.mkIdent `x9):ident $(Lean.mkIdent `s9):ident $(Lean.mkIdent `hA):ident))
local macro_rules | `(tactic| walk_at "binaryOp BitAnd int int") => `(tactic| ((with_reducible rename At _ _ _ _ => $(Lean.mkIdent `hA):ident); refine r_and $(Lean.mkIdent `hA):ident ?_; clear $(Lean.mkIdent `hA):ident; intro $(Lean.mkIdent `t9):ident $(Lean.mkIdent `s9):ident $(Lean.mkIdent `hA):ident))
local macro_rules | `(tactic| walk_at "inplaceOp RShift int int") => `(tactic| ((with_reducible rename At _ _ _ _ => $(Lean.mkIdent `hA):ident); refine r_irsh $(Lean.mkIdent `hA):ident (by decide) ?_; clear $(Lean.mkIdent `hA):ident; intro $(Lean.mkIdent `t9):ident $(Lean.mkIdent `s9):ident $(Lean.mkIdent `hA):ident))
local macro_rules | `(tactic| walk_at "call ref") => `(tactic| ((with_reducible rename At _ _ _ _ => $(Lean.mkIdent `hA):ident); refine r_use ?_; refine' s_F ?W ?T ?hk $(Lean.mkIdent `hA):ident ?hp ?h1 ?h2 ?h3 ?h4 ?h5 ?h6 ?h8 ?_; (case W => assumption); (case T => assumption); (case hk => k_extra "m ok"); (case hp => assumption); (case h1 => k_extra "m mem"); (case h2 => k_extra "m ints"); (case h4 => assumption); (case h3 => k_extra "m seq"); (case h5 => k_extra "m lens"); (case h6 => k_extra "m lens"); (case h8 => k_extra "m lens"); clear $(Lean.mkIdent `hA):ident; intro $(Lean.mkIdent `x9):ident $(Lean.mkIdent `s9):ident $(Lean.mkIdent `hA):ident))
local macro_rules | `(tactic| walk_at "call ref") => `(tactic| ((with_reducible rename At _ _ _ _ => $(Lean.mkIdent `hA):ident); refine r_use ?_; refine' s_F_made ?W ?T ?hk $(Lean.mkIdent `hA):ident ?hp ?hm ?h1 ?h2 ?h5 ?h6 ?h8 ?_; (case W => assumption); (case T => assumption); (case hk => k_extra "m ok"); (case hp => assumption); (case hm => k_extra "m mem"); (case h1 => k_extra "m mem"); (case h2 => k_extra "m ints"); (case h5 => k_extra "m lens"); (case h6 => k_extra "m lens"); (case h8 => k_extra "m lens"); clear $(Lean.mkIdent `hA):ident; intro $(Lean.mkIdent `x9):ident $(Lean.mkIdent `s9):ident $(Lean.mkIdent `hA):ident))
local macro_rules | `(tactic| walk_at "binaryOp BitAnd int int") => `(tactic| ((with_reducible rename At _ _ _ _ => $(Lean.mkIdent `hA):ident); refine r_and $(Lean.mkIdent `hA):ident ?_; clear $(Lean.mkIdent `hA):ident; intro $(Lean.mkIdent `t9):ident $(Lean.mkIdent `s9):ident $(Lean.mkIdent `hA):ident))
local macro_rules | `(tactic| walk_at "inplaceOp RShift int int") => `(tactic| ((with_reducible rename At _ _ _ _ => $(Lean.mkIdent `hA):ident); refine r_irsh $(Lean.mkIdent `hA):ident (by decide) ?_; clear $(Lean.mkIdent `hA):ident; intro $(Lean.mkIdent `t9):ident $(Lean.mkIdent `s9):ident $(Lean.mkIdent `hA):ident))
local macro_rules | `(tactic| walk_at "call ref") => `(tactic| ((with_reducible rename At _ _ _ _ => $(Lean.mkIdent `hA):ident); refine r_use ?_; refine' s_law_made ?W ?T ?hk $(Lean.mkIdent `hA):ident ?hp ?h1 ?h2 ?h3 ?h4 ?h5 ?h6 ?h8 ?_; (case W => assumption); (case T => assumption); (case hk => k_extra "m ok"); (case hp => assumption); (case h1 => k_extra "m mem"); (case h2 => assumption); (case h3 => k_extra "m mem"); (case h4 => assumption); (case h5 => k_extra "m lens"); (case h6 => k_extra "m lens"); (case h8 => k_extra "m lens"); clear $(Lean.mkIdent `hA):ident; intro $(Lean.mkIdent `x9):ident $(Lean.mkIdent `s9):ident $(Lean.mkIdent `hA):ident))
local macro_rules | `(tactic| walk_at "call ref") => `(tactic| ((with_reducible rename At _ _ _ _ => $(Lean.mkIdent `hA):ident); refine r_use ?_; refine' s_law_at ?W ?hk $(Lean.mkIdent `hA):ident ?hm ?hi ?hz ?kk ?_; (case W => assumption); (case hk => k_extra "m ok"); (case hm => k_extra "m mem"); (case hi => assumption); (case hz => k_extra "m lens"); (case kk => decide); clear $(Lean.mkIdent `hA):ident; intro $(Lean.mkIdent `t9):ident $(Lean.mkIdent `s9):ident $(Lean.mkIdent `hA):ident))
local macro_rules | `(tactic| walk_at "call ref") => `(tactic| ((with_reducible rename At _ _ _ _ => $(Lean.mkIdent `hA):ident); refine r_use ?_; refine' s_law_primes ?W ?hk $(Lean.mkIdent `hA):ident ?_; (case W => assumption); (case hk => k_extra "m ok"); clear $(Lean.mkIdent `hA):ident; intro $(Lean.mkIdent `l9):ident $(Lean.mkIdent `v9):ident $(Lean.mkIdent `s9):ident $(Lean.mkIdent `hi9):ident $(Lean.mkIdent `hA):ident))
local macro_rules | `(tactic| walk_at "call ref") => `(tactic| ((with_reducible rename At _ _ _ _ => $(Lean.mkIdent `hA):ident); refine r_use ?_; refine' s_law_value ?W ?hk $(Lean.mkIdent `hA):ident ?hm ?hi ?hz ?hm0 ?hu ?_; (case W => assumption); (case hk => k_extra "m ok"); (case hm => k_extra "m mem"); (case hi => assumption); (case hz => k_extra "m lens"); (case hm0 => assumption); (case hu => assumption); clear $(Lean.mkIdent `hA):ident; intro $(Lean.mkIdent `t9):ident $(Lean.mkIdent `s9):ident $(Lean.mkIdent `hA):ident))
local macro_rules | `(tactic| walk_at "call ref") => `(tactic| ((with_reducible rename At _ _ _ _ => $(Lean.mkIdent `hA):ident); refine r_use ?_; refine' s_law_rows ?W ?hk $(Lean.mkIdent `hA):ident ?hm ?hi ?hz ?hm0 ?hu ?_; (case W => assumption); (case hk => k_extra "m ok"); (case hm => k_extra "m mem"); (case hi => assumption); (case hz => k_extra "m lens"); (case hm0 => assumption); (case hu => assumption); clear $(Lean.mkIdent `hA):ident; intro $(Lean.mkIdent `l9):ident $(Lean.mkIdent `v9):ident $(Lean.mkIdent `s9):ident $(Lean.mkIdent `hi9):ident $(Lean.mkIdent `hA):ident))
local macro_rules | `(tactic| walk_at "getAttr ref") => `(tactic| ((with_reducible rename At _ _ _ _ => $(Lean.mkIdent `hA):ident); refine' r_eoc ?W $(Lean.mkIdent `hA):ident ?hm ?he ?_; (case W => assumption); (case he => exact rfl); (case hm => k_extra "m mem"); clear $(Lean.mkIdent `hA):ident; intro $(Lean.mkIdent `y9):ident $(Lean.mkIdent `v9):ident $(Lean.mkIdent `s9):ident $(Lean.mkIdent `hi9):ident $(Lean.mkIdent `hA):ident))
local macro_rules | `(tactic| walk_at "call ref") => `(tactic| ((with_reducible rename At _ _ _ _ => $(Lean.mkIdent `hA):ident); refine r_use ?_; refine' s_law_at_root ?W ?hk $(Lean.mkIdent `hA):ident ?hm0 ?hu ?hm ?h6 ?_; (case W => assumption); (case hk => k_extra "m ok"); (case hm0 => assumption); (case hu => assumption); (case hm => k_extra "m mem"); (case h6 => k_extra "m lens"); clear $(Lean.mkIdent `hA):ident; intro $(Lean.mkIdent `t9):ident $(Lean.mkIdent `s9):ident $(Lean.mkIdent `hA):ident))

local macro_rules | `(tactic| k_extra "m lens") => `(tactic| first | omega | (have hi9L := IntsAre.length $(Lean.mkIdent `hi9):ident; omega) | (have hi9L := IntsAre.length $(Lean.mkIdent `hi9):ident; simp only [List.length_cons, List.length_nil]; omega) | (simp only [List.length_append, List.length_cons, List.length_nil, List.length_replicate, List.length_map] <;> omega))
local macro_rules | `(tactic| walk_at "newList") => `(tactic| ((with_reducible rename At _ _ _ _ => $(Lean.mkIdent `hA):ident); refine r_nlF $(Lean.mkIdent `hA):ident (by k_extra "m size") ?_; clear $(Lean.mkIdent `hA):ident; intro $(Lean.mkIdent `l9):ident $(Lean.mkIdent `s9):ident $(Lean.mkIdent `hA):ident))
local macro_rules | `(tactic| walk_at "call builtin:pow") => `(tactic| ((with_reducible rename At _ _ _ _ => $(Lean.mkIdent `hA):ident); refine r_pow3 $(Lean.mkIdent `hA):ident (by omega) (by omega) ?_; clear $(Lean.mkIdent `hA):ident; intro $(Lean.mkIdent `t9):ident $(Lean.mkIdent `s9):ident $(Lean.mkIdent `hA):ident))
local macro_rules | `(tactic| walk_at "call ref") => `(tactic| ((with_reducible rename At _ _ _ _ => $(Lean.mkIdent `hA):ident); refine r_use ?_; refine' s_law_made ?W ?T ?hk $(Lean.mkIdent `hA):ident ?hp ?h1 ?h2 ?h3 ?h4 ?h5 ?h6 ?h8 ?_; (case W => assumption); (case T => assumption); (case hk => k_extra "m ok"); (case hp => assumption); (case h1 => k_extra "m mem"); (case h2 => k_extra "m ints"); (case h3 => k_extra "m mem"); (case h4 => k_extra "m ints"); (case h5 => k_extra "m lens"); (case h6 => k_extra "m lens"); (case h8 => k_extra "m lens"); clear $(Lean.mkIdent `hA):ident; intro $(Lean.mkIdent `x9):ident $(Lean.mkIdent `s9):ident $(Lean.mkIdent `hA):ident))
local macro_rules | `(tactic| walk_at "call ref") => `(tactic| ((with_reducible rename At _ _ _ _ => $(Lean.mkIdent `hA):ident); refine r_use ?_; refine' s_law_rows ?W ?hk $(Lean.mkIdent `hA):ident ?hm ?hi ?hz ?hm0 ?hu ?_; (case W => assumption); (case hk => k_extra "m ok"); (case hm => k_extra "m mem"); (case hi => k_extra "m ints"); (case hz => k_extra "m lens"); (case hm0 => assumption); (case hu => assumption); clear $(Lean.mkIdent `hA):ident; intro $(Lean.mkIdent `l9):ident $(Lean.mkIdent `v9):ident $(Lean.mkIdent `s9):ident $(Lean.mkIdent `hi9):ident $(Lean.mkIdent `hA):ident))
local macro_rules | `(tactic| walk_at "binaryOp Mult ref ref") => `(tactic| ((with_reducible rename At _ _ _ _ => $(Lean.mkIdent `hA):ident); refine' d_E_mul ?W ?T ?hk $(Lean.mkIdent `hA):ident ?hp0 ?hp1 ?hm ?hm2 ?h5 ?h7 ?h6 ?h8 ?hb ?hbm ?_; (case W => assumption); (case T => assumption); (case hk => k_extra "m ok"); (case hp0 => assumption); (case hp1 => assumption); (case hm => k_extra "m mem"); (case hm2 => k_extra "m mem"); (case h5 => k_extra "m lens"); (case h7 => k_extra "m lens"); (case h6 => k_extra "m lens"); (case h8 => k_extra "m lens"); (case hb => assumption); (case hbm => assumption); clear $(Lean.mkIdent `hA):ident; intro $(Lean.mkIdent `x9):ident $(Lean.mkIdent `s9):ident $(Lean.mkIdent `hA):ident))
local macro_rules | `(tactic| walk_at "compareOp Eq ref ref") => `(tactic| ((with_reducible rename At _ _ _ _ => $(Lean.mkIdent `hA):ident); refine' r_eqL ?hu $(Lean.mkIdent `hA):ident ?h1 ?h2 ?i1 ?i2 ?hl ?_; (case h1 => k_extra "m pl"); (case h2 => k_extra "m pl"); (case i1 => k_extra "m ints"); (case i2 => k_extra "m ints"); (case hl => k_extra "m lens"); (case hu => exact Ok.u9 (by assumption))))
local macro_rules | `(tactic| walk_at "eval Attribute BinOp") => `(tactic| refine Attribute_any_ ?_)
local macro_rules | `(tactic| walk_at "compareOp Eq ref ref") => `(tactic| ((with_reducible rename At _ _ _ _ => $(Lean.mkIdent `hA):ident); refine' r_eqLt ?hu $(Lean.mkIdent `hA):ident ?h1 ?h2 ?i1 ?i2 ?hl ?_; (case h1 => k_extra "m pl"); (case h2 => k_extra "m pl"); (case i1 => k_extra "m ints"); (case i2 => k_extra "m ints"); (case hl => first | with_reducible rfl | assumption); (case hu => exact Ok.u9 (by assumption))))
local macro_rules | `(tactic| walk_at "call ref") => `(tactic| rw [List.append_nil])
local macro_rules | `(tactic| walk_at "call ref") => `(tactic| ((with_reducible rename At _ _ _ _ => $(Lean.mkIdent `hA):ident); refine r_use ?_; refine' s_law_atI ?W ?hk $(Lean.mkIdent `hA):ident ?hm ?hi ?hz ?k0 ?kk ?_; (case W => assumption); (case hk => k_extra "m ok"); (case hm => k_extra "m mem"); (case hi => assumption); (case hz => k_extra "m lens"); (case k0 => omega); (case kk => omega); clear $(Lean.mkIdent `hA):ident; intro $(Lean.mkIdent `t9):ident $(Lean.mkIdent `s9):ident $(Lean.mkIdent `hA):ident))
local macro_rules | `(tactic| walk_at "storeName") => `(tactic| ((with_reducible rename At _ _ _ _ => $(Lean.mkIdent `hA):ident); with_unfolding_all refine' v_stcF $(Lean.mkIdent `hA):ident ?c ?rm ?_ rfl rfl; (case c => exact rfl); (case rm => k_extra "m rm"); clear $(Lean.mkIdent `hA):ident; intro $(Lean.mkIdent `s9):ident $(Lean.mkIdent `hA):ident))
local macro_rules | `(tactic| walk_at "call builtin:abs") => `(tactic| ((with_reducible rename At _ _ _ _ => $(Lean.mkIdent `hA):ident); refine r_abs $(Lean.mkIdent `hA):ident ?_; clear $(Lean.mkIdent `hA):ident; intro $(Lean.mkIdent `t9):ident $(Lean.mkIdent `s9):ident $(Lean.mkIdent `hA):ident))
local macro_rules | `(tactic| walk_at "binaryOp Add ref ref") => `(tactic| ((with_reducible rename At _ _ _ _ => $(Lean.mkIdent `hA):ident); refine' d_E_add ?W ?T ?hk $(Lean.mkIdent `hA):ident ?hp ?hm ?hm2 ?h5 ?h7 ?h6 ?h8 ?_; (case W => assumption); (case T => assumption); (case hk => k_extra "m ok"); (case hp => assumption); (case hm => k_extra "m mem"); (case hm2 => k_extra "m mem"); (case h5 => k_extra "m lens"); (case h7 => k_extra "m lens"); (case h6 => k_extra "m lens"); (case h8 => k_extra "m lens"); clear $(Lean.mkIdent `hA):ident; intro $(Lean.mkIdent `x9):ident $(Lean.mkIdent `s9):ident $(Lean.mkIdent `hA):ident))
local macro_rules | `(tactic| walk_at "binaryOp Sub ref ref") => `(tactic| ((with_reducible rename At _ _ _ _ => $(Lean.mkIdent `hA):ident); refine' d_E_sub ?W ?T ?hk $(Lean.mkIdent `hA):ident ?hp ?hm ?hm2 ?h5 ?h7 ?h6 ?h8 ?_; (case W => assumption); (case T => assumption); (case hk => k_extra "m ok"); (case hp => assumption); (case hm => k_extra "m mem"); (case hm2 => k_extra "m mem"); (case h5 => k_extra "m lens"); (case h7 => k_extra "m lens"); (case h6 => k_extra "m lens"); (case h8 => k_extra "m lens"); clear $(Lean.mkIdent `hA):ident; intro $(Lean.mkIdent `x9):ident $(Lean.mkIdent `s9):ident $(Lean.mkIdent `hA):ident))
local macro_rules | `(tactic| walk_at "unaryOp USub ref") => `(tactic| ((with_reducible rename At _ _ _ _ => $(Lean.mkIdent `hA):ident); refine' d_E_neg ?W ?T ?hk $(Lean.mkIdent `hA):ident ?hp ?hm ?h5 ?h6 ?h8 ?_; (case W => assumption); (case T => assumption); (case hk => k_extra "m ok"); (case hp => assumption); (case hm => k_extra "m mem"); (case h5 => k_extra "m lens"); (case h6 => k_extra "m lens"); (case h8 => k_extra "m lens"); clear $(Lean.mkIdent `hA):ident; intro $(Lean.mkIdent `x9):ident $(Lean.mkIdent `s9):ident $(Lean.mkIdent `hA):ident))
local macro_rules | `(tactic| walk_at "call ref") => `(tactic| ((with_reducible rename At _ _ _ _ => $(Lean.mkIdent `hA):ident); refine r_use ?_; refine' e_P_one ?W ?T ?hk $(Lean.mkIdent `hA):ident ?hp ?hm ?h8 ?h6 ?_; (case W => assumption); (case T => assumption); (case hk => k_extra "m ok"); (case hm => k_extra "m mem"); (case hp => assumption); (case h8 => assumption); (case h6 => assumption); clear $(Lean.mkIdent `hA):ident; intro $(Lean.mkIdent `x9):ident $(Lean.mkIdent `s9):ident $(Lean.mkIdent `hA):ident))
local macro_rules | `(tactic| walk_at "call ref") => `(tactic| ((with_reducible rename At _ _ _ _ => $(Lean.mkIdent `hA):ident); refine r_use ?_; refine' e_O_one ?W ?T ?hk $(Lean.mkIdent `hA):ident ?hp ?hm ?h8 ?h6 ?_; (case W => assumption); (case T => assumption); (case hk => k_extra "m ok"); (case hm => k_extra "m mem"); (case hp => assumption); (case h8 => assumption); (case h6 => assumption); clear $(Lean.mkIdent `hA):ident; intro $(Lean.mkIdent `x9):ident $(Lean.mkIdent `s9):ident $(Lean.mkIdent `hA):ident))
local macro_rules | `(tactic| walk_at "call ref") => `(tactic| ((with_reducible rename At _ _ _ _ => $(Lean.mkIdent `hA):ident); refine r_use ?_; refine' e_F_one ?W ?T ?hk $(Lean.mkIdent `hA):ident ?hp ?hm ?h8 ?h6 ?_; (case W => assumption); (case T => assumption); (case hk => k_extra "m ok"); (case hm => k_extra "m mem"); (case hp => assumption); (case h8 => assumption); (case h6 => assumption); clear $(Lean.mkIdent `hA):ident; intro $(Lean.mkIdent `x9):ident $(Lean.mkIdent `s9):ident $(Lean.mkIdent `hA):ident))
local macro_rules | `(tactic| walk_at "call ref") => `(tactic| ((with_reducible rename At _ _ _ _ => $(Lean.mkIdent `hA):ident); refine r_use ?_; refine' e_P_zero ?W ?T ?hk $(Lean.mkIdent `hA):ident ?hp ?hm ?h8 ?h6 ?_; (case W => assumption); (case T => assumption); (case hk => k_extra "m ok"); (case hm => k_extra "m mem"); (case hp => assumption); (case h8 => assumption); (case h6 => assumption); clear $(Lean.mkIdent `hA):ident; intro $(Lean.mkIdent `x9):ident $(Lean.mkIdent `s9):ident $(Lean.mkIdent `hA):ident))
local macro_rules | `(tactic| walk_at "call ref") => `(tactic| ((with_reducible rename At _ _ _ _ => $(Lean.mkIdent `hA):ident); refine r_use ?_; refine' e_O_zero ?W ?T ?hk $(Lean.mkIdent `hA):ident ?hp ?hm ?h8 ?h6 ?_; (case W => assumption); (case T => assumption); (case hk => k_extra "m ok"); (case hm => k_extra "m mem"); (case hp => assumption); (case h8 => assumption); (case h6 => assumption); clear $(Lean.mkIdent `hA):ident; intro $(Lean.mkIdent `x9):ident $(Lean.mkIdent `s9):ident $(Lean.mkIdent `hA):ident))
local macro_rules | `(tactic| walk_at "call ref") => `(tactic| ((with_reducible rename At _ _ _ _ => $(Lean.mkIdent `hA):ident); refine r_use ?_; refine' e_F_zero ?W ?T ?hk $(Lean.mkIdent `hA):ident ?hp ?hm ?h8 ?h6 ?_; (case W => assumption); (case T => assumption); (case hk => k_extra "m ok"); (case hm => k_extra "m mem"); (case hp => assumption); (case h8 => assumption); (case h6 => assumption); clear $(Lean.mkIdent `hA):ident; intro $(Lean.mkIdent `x9):ident $(Lean.mkIdent `s9):ident $(Lean.mkIdent `hA):ident))
variable {prog : Program} {w : World} {A : Around} {E : Value → Shared → Prop} {D : Dat} {Fs : List Fact} {R : List Res} {s : Shared} {Q : Value → Shared → Prop}
set_option maxHeartbeats 8000000 in
set_option maxRecDepth 100000 in
theorem s_law {l : Addr} {vs : List Value} {ns : List Int} (W : Wd (hd.heap_39 w.params) D) (T : ∀ t ∈ WT, t ∈ D.tabs) (hk : Ok A 120) (H : At D Fs R s) (hm : ListF l vs ∈ Fs) (hi : IntsAre vs ns) (hz : vs.length < 2 ^ 20)
    (h : ∀ s', At D Fs R s' → Q (.bool true) s') : codeAny (model prog w) A (.call (.ref 503) ⟨[.ref l], []⟩) (Ret Q) s := by
  refine' v_callc [] (fun L => [(L + 1, .ref l)]) (fun L => [L + 2]) ?W H hk ?ho ?hcd ?hb ?hl ?hm ?hcm ?hum ?hnd ?hud ?_ ?c2 ?c3 ?c4
  k_extra "m enterc"
  clear H
  k_extra "wk"
  refine r_unpk hK9.handled hA (.head _) ?_ ?_
  · rfl
  clear hA
  intro s hA
  with_unfolding_all refine r_aio3 ?_
  have hA : At D (CellF (L9 + 1) (.ref l) :: Fs) _ s := hA.sub (by k_extra "m facts")
  have k0 : 0 ≤ (lawAt ns (0 : Int).toNat).fmod 9 := Int.fmod_nonneg_of_pos _ (by decide)
  have k1 : (lawAt ns (0 : Int).toNat).fmod 9 < 9 := Int.fmod_lt_of_pos _ (by decide)
  have f0 : 0 ≤ (lawAt ns (1 : Int).toNat).fmod 3 := Int.fmod_nonneg_of_pos _ (by decide)
  have f1 : (lawAt ns (1 : Int).toNat).fmod 3 < 3 := Int.fmod_lt_of_pos _ (by decide)
  have d0 : 0 ≤ (lawAt ns (2 : Int).toNat).fmod 5 := Int.fmod_nonneg_of_pos _ (by decide)
  have d1 : (lawAt ns (2 : Int).toNat).fmod 5 < 5 := Int.fmod_lt_of_pos _ (by decide)
  generalize (lawAt ns (0 : Int).toNat).fmod 9 = kind at *
  generalize (lawAt ns (1 : Int).toNat).fmod 3 = form at *
  generalize (lawAt ns (2 : Int).toNat).fmod 5 = deg at *
  iterate 8 walk1
  refine wpAny_mono (Q := fun v s' => Hold (∃ m t, v = .int m t ∧ MOk kind m ∧ ∃ t1 t2 t3, At D (CellF (L9 + 1) (.ref l) :: Fs) (Vars L9 [("degree", .int (1 + deg) t1), ("form", .int form t2), ("kind", .int kind t3)] :: CellR (L9 + 2) none :: R) s')) ?ifa ?ifb (fun _ _ e => e)
  case ifa =>
    have lL : lawPrimes.length = 8 := rfl
    k_extra "wk"
    · exact ⟨_, _, rfl, .inl ⟨by assumption, rfl⟩, _, _, _, hA.to' (by k_extra "m sub") (by k_extra "m facts")⟩
    · have q0 := Int.fmod_nonneg_of_pos (if lawAt ns (Int.toNat 3) < 0 then -lawAt ns (Int.toNat 3) else lawAt ns (Int.toNat 3)) (by decide : (0 : Int) < 1000000)
      have q1 := Int.fmod_lt_of_pos (if lawAt ns (Int.toNat 3) < 0 then -lawAt ns (Int.toNat 3) else lawAt ns (Int.toNat 3)) (by decide : (0 : Int) < 1000000)
      exact ⟨_, _, rfl, .inr ⟨by assumption, by omega, by omega⟩, _, _, _, hA.to' (by k_extra "m sub") (by k_extra "m facts")⟩
  case ifb =>
    clear hA
    rintro _ s ⟨m, tm, rfl, hmo, t1, t2, t3, hA⟩
    obtain ⟨m2, m3⟩ := hmo.rng k0
    have hm0 : m ≠ 0 := by omega
    iterate 35 walk1
    have u0 : 0 ≤ (lawAt ns (3 : Int).toNat).fmod m := Int.fmod_nonneg_of_pos _ (by omega)
    have u1 : (lawAt ns (3 : Int).toNat).fmod m < m := Int.fmod_lt_of_pos _ (by omega)
    generalize (lawAt ns (3 : Int).toNat).fmod m = u at *
    have w0 : 0 ≤ (lawAt ns (4 : Int).toNat).fmod 4 := Int.fmod_nonneg_of_pos _ (by decide)
    have w1 : (lawAt ns (4 : Int).toNat).fmod 4 < 4 := Int.fmod_lt_of_pos _ (by decide)
    generalize (lawAt ns (4 : Int).toNat).fmod 4 = way at *
    refine wpAny_mono (Q := fun b s' => Hold ((b = true ↔ (way = 3 ∧ kind < 8)) ∧ ∃ t1 t2 t3 t4 t5, At D (CellF (L9 + 1 + 1) (.int m tm) :: CellF (L9 + 1) (.ref l) :: Fs) (Vars L9 [("degree", .int (1 + deg) t1), ("form", .int form t2), ("kind", .int kind t3), ("u", .int u t4), ("way", .int way t5)] :: R) s')) ?iga ?igb (fun _ _ e => e)
    case iga =>
      k_extra "wk"
      all_goals exact ⟨by simp; omega, _, _, _, _, _, hA.to' (by k_extra "m sub") (by k_extra "m facts")⟩
    case igb =>
      clear hA
      rintro b s ⟨hb, t1, t2, t3, t4, t5, hA⟩
      cases b with
      | true =>
        obtain ⟨rfl, kl⟩ := hb.mp rfl
        k_extra "wk"
        have hmp : m = lawPrimes.getD kind.toNat 0 := by rcases hmo with q | q; exact q.2; exact absurd kl q.1
        obtain ⟨v0, v1, q1, q2, q3, qb⟩ := halves_law (kdOf form 2) (by omega : kind.toNat < 8) hmp u0 u1 (lawAt ns (5 : Int).toNat)
        refine r_use (s_law_halves W T (hK9.mono (by omega)) hA (by omega) (by omega) u0 (by omega) v0 (by omega) q1 q2 q3 qb ?_)
        clear hA
        intro s9 hA
        exact h _ (hA.to' (by k_extra "m sub") (by k_extra "m facts"))
      | false =>
        have hnw : ¬ (way = 3 ∧ kind < 8) := fun q => absurd (hb.mpr q) (by decide)
        k_extra "wk"
        have hd : (1 + deg - 0).toNat = (1 + deg).toNat := by omega
        rw [hd] at hA hN9
        have hR := numL_length ns m 5 1 (1 + deg).toNat
        refine' r_mapK (inG (numL ns m 5 1 (1 + deg).toNat)) (hN9 false _) ⟨_, _, rfl⟩ hK9.handled hA ?g1 ?g0 ?g2 inG.zero (fun _ _ _ q => q.len (by omega)) ?step ?done
        case g0 => decide
        case g2 => rfl
        case g1 => k_extra "m mem"
        case step =>
          clear hA
          intro C acc i ys Gs v F s hi' hG hV H
          obtain ⟨⟨t, rfl⟩, rfl⟩ := hV
          simp only [Int.zero_add, Int.mul_one]
          have hA := H.nil1 hG.2.2
          clear H
          k_extra "wk"
          have e : (5 + (i : Int)).toNat = 5 + 1 * i := by omega
          rw [e]
          exact hG.hold (numL_get ns m 5 1 hi') hA (by k_extra "m facts")
        case done =>
          clear hA
          intro C acc ys Gs s hG _ s H
          have hI := hG.done hR
          have H1 := H.nil0 hG.2.2
          have hA := At.fzL H1 .head
          have hle := hI.length
          clear H H1 hG
          have hmu : ∀ a, IntMulOk u a := fun a => mulOk_left ⟨by omega, by omega⟩
          have hmr : ∀ a, IntMulOk a u := fun a => mulOk_right ⟨by omega, by omega⟩
          iterate 9 walk1
          have hML := lawRows_length (numL ns m 5 1 (1 + deg).toNat) u m
          rw [hR] at hML
          have hvl := hi9.length
          generalize hMM : lawRows (numL ns m 5 1 (1 + deg).toNat) u m = M at *
          refine wpAny_mono (Q := fun f s' => Hold (f = .next ∧ ∃ form2 t1 t2 t3 t4 t5, 0 ≤ form2 ∧ form2 < 3 ∧ At D (ListF l9 v9 :: CellF (L9 + 1 + 1) (.int m tm) :: CellF (L9 + 1) (.ref l) :: Fs) (Vars L9 [("degree", .int (1 + deg) t1), ("form", .int form2 t2), ("kind", .int kind t3), ("u", .int u t4), ("way", .int way t5), ("rows", .ref l9)] :: R) s')) ?ia ?ib (fun _ _ e => e)
          case ia =>
            k_extra "wk"
            all_goals first
              | exact ⟨rfl, 1, _, _, _, _, _, by omega, by omega, hA.to' (by k_extra "m sub") (by k_extra "m facts")⟩
              | exact ⟨rfl, form, _, _, _, _, _, by omega, by omega, hA.to' (by k_extra "m sub") (by k_extra "m facts")⟩
          case ib =>
            clear hA
            rintro _ s ⟨rfl, form2, t1, t2, t3, t4, t5, g0, g1, hA⟩
            show wpAny _ _ _ _ _ _
            have hroot : RootOf m u M := by rw [← hMM]; exact lawRows_root _ u
            have hbM : Bd M := InR.bd (p := m) (by rw [← hMM]; exact lawRows_in (by omega) _ u) (by omega)
            refine' law_mid ?ho ?hr W T (hK9.mono (by omega)) hm hi hz hi9 hroot hbM m2 m3 u0 u1 w0 w1 (by omega) (by omega) hA h
            case ho => k_is
            case hr => rfl

end

section
variable {prog : Program} {w : World} {A : Around} {E : Value → Shared → Prop} {D : Dat} {Fs : List Fact} {R : List Res} {s : Shared} {Q : Value → Shared → Prop}
def codeOk (o : Obj) (P : Addr) : Prop := ∃ vs file tf flags tg inF text tt, o.cls = .type "code" ∧ o.data = .fields vs ∧ vs.getD 11 .none = .ref P ∧ vs[11]? = some (.ref P) ∧ vs.getD 18 .none = .str file tf ∧ vs.getD 7 .none = .int flags tg ∧ vs.getD 9 .none = .bool inF ∧ vs.getD 10 .none = .int text tt
theorem none1 (P : Params) : (hd.heap_39 P).lookup 49 = none := by kernel_rfl
theorem none2 (P : Params) : (hd.heap_39 P).lookup 348 = none := by kernel_rfl
set_option maxRecDepth 100000 in
set_option maxHeartbeats 2000000 in
theorem code1 (P : Params) : ∃ o, (hd.heap_39 P).lookup 51 = some o ∧ codeOk o 49 := by
  with_unfolding_all exact ⟨_, rfl, _, _, _, _, _, _, _, _, rfl, rfl, rfl, rfl, rfl, rfl, rfl, rfl⟩
set_option maxRecDepth 100000 in
set_option maxHeartbeats 2000000 in
theorem code2 (P : Params) : ∃ o, (hd.heap_39 P).lookup 352 = some o ∧ codeOk o 348 := by
  with_unfolding_all exact ⟨_, rfl, _, _, _, _, _, _, _, _, rfl, rfl, rfl, rfl, rfl, rfl, rfl, rfl⟩
theorem law_addr (P : Params) : nsIn (hd.heap_39 P) mainGlobals "law" = some (some (.ref 503)) := by k_is
theorem kk_in {P : Params} {h : Heap} (Y0 : (KK P).In h) : (hd.heap_39 P).In h ∧ h.get? 49 = some (X.tableObj #[]) ∧ h.get? 348 = some (X.tableObj #[]) := by
  refine ⟨fun a o e => Y0 a o ?_, Y0 _ _ ?_, Y0 _ _ ?_⟩
  · unfold KK; rw [List.lookup_append, e]; rfl
  · unfold KK; rw [List.lookup_append, none1]; rfl
  · unfold KK; rw [List.lookup_append, none2]; rfl
theorem tab_now {h : Heap} {c P : Addr} {o : Obj} (hc : h.get? c = some o) (ho : codeOk o P) (hP : h.get? P = some (X.tableObj #[])) (hne : c ≠ P) : TabNow ⟨c, P, #[]⟩ h := by
  obtain ⟨vs, file, tf, flags, tg, inF, text, tt, a1, a2, a3, a4, a5, a6, a7, a8⟩ := ho
  exact ⟨#[], ⟨o, vs, file, tf, flags, tg, inF, text, tt, _, hc, a2, a3, a5, a6, a7, a8, hP, rfl, trivial, hne⟩, ⟨o, vs, hc, a1, a2, a4⟩, hP⟩
theorem law_done {prog : Program} {w : World} {mg mb : Str → Option Value} {s₁ : Shared} {fa l : Addr} {vs : List Value} {ns : List Int} {Q : Value → Shared → Prop} {E : Value → Shared → Prop} (KX : (KK w.params).In s₁.heap) (g : s₁.heap.Ns mainGlobals mg) (b : s₁.heap.Ns builtinsNs mb) (nl : s₁.heap.NoLimit) (bi : ∀ x : Str, x ≠ "__name__" → mb x = bootBuiltins x)
    (bm : ∃ bm ob, mg "__builtins__" = some (.ref bm) ∧ bm ≠ builtinsNs ∧ s₁.heap.get? bm = some ob ∧ ob.cls = .type "module" ∧ ob.dict = some builtinsNs ∧ ob.data = .plain) (hmg : mg "law" = some (.ref fa)) (hg : s₁.gens = #[]) (hl : s₁.heap.PlainList l vs.toArray) (hi : IntsAre vs ns) (hz : vs.length < 2 ^ 20)
    (h : ∀ s', OldK s₁.heap s'.heap → s'.os = s₁.os → AllBare s'.gens → Q (.bool true) s') : wpAny (model prog w) callerA (call (.ref fa) [.ref l]) Q E s₁ := by
  obtain ⟨K1, t1, t2⟩ := kk_in KX
  obtain ⟨o1, l1, c1⟩ := code1 w.params
  obtain ⟨o2, l2, c2⟩ := code2 w.params
  have efa : fa = 503 := by
    have := mg_of K1 g (law_addr w.params)
    rw [hmg] at this
    simpa using this
  subst efa
  let D : Dat := ⟨s₁.heap, WT, s₁.os, 0⟩
  have up : ∀ b o, s₁.heap.get? b = some o → o ≠ X.tableObj #[] → D.base.get? b = some o := fun b o hb ho => hideAll_get _ hb fun hm => by
    have hm' : 49 = b ∨ 348 = b := by simpa [D, WT] using hm
    rcases hm' with rfl | rfl
    · rw [t1] at hb; exact ho (Option.some.inj hb).symm
    · rw [t2] at hb; exact ho (Option.some.inj hb).symm
  have upNs : ∀ (a : Addr) (m : Str → Option Value), s₁.heap.Ns a m → D.base.Ns a m := fun a m ⟨o, es, ep, e1, e2, e3⟩ => ⟨o, es, ep, up a o e1 (by rintro rfl; cases e2), e2, e3⟩
  have KB : (hd.heap_39 w.params).In D.base := fun a o e => hideAll_get _ (K1 a o e) fun hm => by
    have hm' : 49 = a ∨ 348 = a := by simpa [D, WT] using hm
    rcases hm' with rfl | rfl
    · rw [none1] at e; cases e
    · rw [none2] at e; cases e
  obtain ⟨mc, n1, n2⟩ := nl
  obtain ⟨bm, ob, m1, m2, m3, m4, m5, m6⟩ := bm
  have W : Wd (hd.heap_39 w.params) D := ⟨KB, ⟨mg, mb, upNs _ _ g, upNs _ _ b, bi⟩, ⟨mc, upNs _ _ n1, n2⟩, ⟨mg, bm, ob, upNs _ _ g, m1, m2, up _ _ m3 (by rintro rfl; cases m4), m4, m5, m6⟩⟩
  have H : At D [ListF l vs] [] s₁ := by
    refine ⟨rfl, ⟨by rw [hg]; exact AllBare.of_eq rfl, Nat.zero_le _⟩, ?_, ?_, by show (([49, 348] : List Addr) ++ []).Nodup; decide, (fun r hr => by cases hr), ?_, ?_⟩
    · intro t ht
      have ht' : t = ⟨51, 49, #[]⟩ ∨ t = ⟨352, 348, #[]⟩ := by simpa [D, WT] using ht
      rcases ht' with rfl | rfl
      · exact tab_now (K1 _ _ l1) c1 t1 (by decide)
      · exact tab_now (K1 _ _ l2) c2 t2 (by decide)
    · intro t ht
      have ht' : t = ⟨51, 49, #[]⟩ ∨ t = ⟨352, 348, #[]⟩ := by simpa [D, WT] using ht
      rcases ht' with rfl | rfl
      · exact ⟨o1, hideAll_get _ (K1 _ _ l1) (by simp [D, WT])⟩
      · exact ⟨o2, hideAll_get _ (K1 _ _ l2) (by simp [D, WT])⟩
    · show Ext (hideAll s₁.heap D.Ps) (hideAll s₁.heap (D.Ps ++ []))
      rw [List.append_nil]; exact Ext.refl _
    · intro F hF
      rw [List.mem_singleton.mp hF]
      obtain ⟨n, e⟩ := hl
      refine ⟨n, ?_⟩
      show (hideAll s₁.heap (D.Ps ++ [])).get? l = _
      rw [List.append_nil]
      exact up _ _ e (by intro q; cases q)
  refine r_use (s_law W (fun t ht => ht) ⟨rfl, by decide, by decide⟩ H (.head _) hi hz fun s' H' => ?_)
  refine h s' ?_ H'.os H'.gens.1
  have hb := H'.base
  have old : ∀ b o, s₁.heap.get? b = some o → asItWas s₁.heap s'.heap b o := fun b o e => by
    by_cases hm : b = 49 ∨ b = 348
    · have tb : ∀ c P oc, s₁.heap.get? c = some oc → codeOk oc P → s₁.heap.get? P = some (X.tableObj #[]) → TabNow ⟨c, P, #[]⟩ s'.heap → b = P → asItWas s₁.heap s'.heap b o := by
        rintro c P oc ec ⟨vs, file, tf, flags, tg, inF, text, tt, a1, a2, a3, a4, _⟩ eP ⟨more, _, _, eq⟩ rfl
        rw [eP] at e
        cases e
        exact .inr (.inl ⟨⟨c, oc, vs, ec, a1, a2, a4⟩, rfl, #[], more, rfl, by rw [eq]; simp [X.tableObj]⟩)
      rcases hm with hm | hm
      · exact tb 51 49 o1 (K1 _ _ l1) c1 t1 (H'.tab _ (by simp [D, WT])) hm
      · exact tb 352 348 o2 (K1 _ _ l2) c2 t2 (H'.tab _ (by simp [D, WT])) hm
    · refine .inl (of_hideAll _ (hb b o (hideAll_get _ e fun hx => hm ?_)))
      have hx' : 49 = b ∨ 348 = b := by simpa [D, WT] using hx
      exact hx'.imp Eq.symm Eq.symm
  refine ⟨old, fun b o e => ?_⟩
  rcases old b o e with q | ⟨_, _, vs, more, _, q⟩ | ⟨_, _, ⟨o', es, n, q, _⟩, _⟩
  · exact ⟨_, q⟩
  · exact ⟨_, q⟩
  · exact ⟨_, q⟩

end

theorem fin : PySem.Challenge.rw_bq0014_01.Holds := by
  refine fin_of ?_
  intro prog w mg mb s₁ fa l vs ns Q E
  exact law_done
end Mine
theorem PySem.Challenge.cw_bq0014_01_holds : PySem.Challenge.rw_bq0014_01.Holds :=
  Mine.fin

